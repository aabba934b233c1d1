import JvmDerived
import JvmDerived.Pilot.@@N@@Statement
import JvmDerived.Pilot.@@N@@Code
set_option linter.unusedVariables false
set_option linter.unusedSimpArgs false
set_option maxRecDepth 65536
set_option maxHeartbeats 40000000
namespace Jvm.RoadKit
open Sem ClassFile Op Lib Jvm.Stand Jvm.Free Jvm.LawKit
section New
variable {p : Program} {l : Launch} {e : Env} {R : Room} {s : State} {m : MethodId} {args : Array Value} {below : List Frame} {meth : Method} {c : Code} {T : State} {locs : List Loc} {cells slots : Nat}
theorem retI (X : Stand p l e R s m args below meth c T locs cells slots) (hx : p.tables.exec = Jvm.exec) {pc : Nat} {Ls : Array Slot} {z : Int32} {rest : List Value} (hret : meth.sig.returnType = some .int) (hd : decode c.code pc = .ok (.ireturn, 1)) {fs : List Frame}
    (hl : ∀ (f : JFrame) (acts : List Action), f.method = m → f.locked = none → f.entered = [] → (doReturn e (T.setTop f) acts (some (.int z))).1 = T.setFrames fs) : Steps p.tables e below (T.setTop (mkF m pc Ls (.int z :: rest))) (T.setFrames fs) := by
  have hm' : T.vm.method? m = some meth := X.method'
  have hn : narrow .int (.int z) = .int z := rfl
  show Steps p.tables e below (T.setTop { method := m, pc := pc, locals := Ls, stack := _ :: rest, locked := none }) _
  jvm_step X.here [X.here.top, hx, hd, hm', hret, hn]
  first | (intro acts; rw [hl _ acts rfl rfl rfl]) | rw [hl _ _ rfl rfl rfl]
  exact Steps.refl _
end New
theorem hbx {c : ClassFile.Code} {code : ByteArray} (h : c.code = code) : ∀ ⦃pc : Nat⦄ ⦃r : Except ClassFile.DecodeError (ClassFile.Instr × Nat)⦄, decode code pc = r → decode c.code pc = r := fun _ _ q => hb h q
abbrev rmk (f c s l : Nat) : Room := { frames := f, cells := c, slots := s, locals := l }
section Sq
variable {p : Program} {l : Launch} {e : Env} {R : Room} {s : State} {m : MethodId} {args : Array Value} {below : List Frame} {meth : Method} {c : Code} {T target : State} {locs : List Loc} {cells slots pc : Nat} {Ls : Array Slot} {st : List Value}
theorem sI (X : Stand p l e R s m args below meth c T locs cells slots) (hx : p.tables.exec = Jvm.exec) {k : Fin 4} {v : Int32} (hd : decode c.code pc = .ok (.iload_n k, 1)) (hl : Ls[k.val]? = some (.val (.int v))) (K : Steps p.tables e below (T.setTop (mkF m (pc + 1) Ls (.int v :: st))) target) : Steps p.tables e below (T.setTop (mkF m pc Ls st)) target := XS.iloadN X.here hx rfl hd hl K
theorem sJ (X : Stand p l e R s m args below meth c T locs cells slots) (hx : p.tables.exec = Jvm.exec) {k : Nat} {v : Int32} (hd : decode c.code pc = .ok (.iload k, 2)) (hl : Ls[k]? = some (.val (.int v))) (K : Steps p.tables e below (T.setTop (mkF m (pc + 2) Ls (.int v :: st))) target) : Steps p.tables e below (T.setTop (mkF m pc Ls st)) target := XS.iload X.here hx rfl hd hl K
theorem sA (X : Stand p l e R s m args below meth c T locs cells slots) (hx : p.tables.exec = Jvm.exec) {k : Fin 4} {v : Value} (hd : decode c.code pc = .ok (.aload_n k, 1)) (hl : Ls[k.val]? = some (.val v)) (hv : v.isRef = true) (K : Steps p.tables e below (T.setTop (mkF m (pc + 1) Ls (v :: st))) target) : Steps p.tables e below (T.setTop (mkF m pc Ls st)) target := XS.aloadN X.here hx rfl hd hl hv K
theorem sB (X : Stand p l e R s m args below meth c T locs cells slots) (hx : p.tables.exec = Jvm.exec) {k : Nat} {v : Value} (hd : decode c.code pc = .ok (.aload k, 2)) (hl : Ls[k]? = some (.val v)) (hv : v.isRef = true) (K : Steps p.tables e below (T.setTop (mkF m (pc + 2) Ls (v :: st))) target) : Steps p.tables e below (T.setTop (mkF m pc Ls st)) target := XS.aload X.here hx rfl hd hl hv K
theorem sC (X : Stand p l e R s m args below meth c T locs cells slots) (hx : p.tables.exec = Jvm.exec) {i : Int} (hd : decode c.code pc = .ok (.iconst i, 1)) (K : Steps p.tables e below (T.setTop (mkF m (pc + 1) Ls (.int (Int32.ofInt i) :: st))) target) : Steps p.tables e below (T.setTop (mkF m pc Ls st)) target := XS.iconst X.here hx rfl hd K
end Sq
abbrev vi (x : Int32) : Slot := .val (.int x)
abbrev vr (a : Addr) : Slot := .val (.ref a)
abbrev un : Slot := .unset
theorem nl {a b : Nat} (h : Nat.ble a b = true) : a ≤ b := Nat.le_of_ble_eq_true h
abbrev jS : String := "java/lang/String"
theorem mo {α : Type} {l : List α} {a : α} (i : Nat) (h : l[i]? = some a) : a ∈ l := List.mem_of_getElem? h
theorem own_nf {Z s : State} {a0 : Array Value} {C : String} {y : MethodName} (hZ : Z.Warmed39 s.vm) (w : (Cond.selects C y y).before a0 Z = true) : NotFace s y := notFace_of_selects (args := #[]) (mvT hZ w)
theorem own_m0 {a : Addr} {l : List Addr} {P : Prop} : a ∈ a :: l ∨ P := Or.inl (List.mem_cons_self ..)
/-- a body's contract, written short -/
abbrev OwnMet (l : Launch) (Z : State) (y : MethodName) (bytes : ByteArray) (maxL : Nat) (ret : Option FieldType) (ws : List Cond) (rm : Room) (as' : Array Value) (h0 : Heap) (Q : Option Value → Heap → List Loc → Prop) : Prop :=
  MetFree l y (head1 (Cond.code y bytes maxL ret :: ws) rm) (fun a U => a = as' ∧ Z.Warmed39 U.vm ∧ U.heap = h0) (fun _ _ _ _ _ => True) (fun _ U o U' => ∃ v L, o = .returned v ∧ Q v U'.heap L ∧ FrameEnd U o U' L rm.cells rm.slots)
theorem own_body {l : Launch} {Z : State} {y : MethodName} {bytes : ByteArray} {maxL : Nat} {ret : Option FieldType} {ws : List Cond} {rm : Room} {as' : Array Value} {h0 : Heap} {Q : Option Value → Heap → List Loc → Prop} {L0 : Array Slot} (hp : plainFor y = true) (hef : ∀ m, entryFrame m as' maxL = mkF m 0 L0 [])
    (k : ∀ (p : Program) (e : Env) (s : State) (m : MethodId) (below : List Frame) (meth : Method) (c : Code) (s₁ : State), p.tables.exec = Jvm.exec → c.code = bytes → c.maxLocals = maxL → s.vm.findClass y.cls = some m.cls → meth.name = y.name → meth.sig.returnType = ret → Z.Warmed39 s.vm → Stand p l e rm s m as' below meth c s₁ [] 0 0 → s₁.heap = h0 →
      ∃ (T : State) (L : List Loc) (ce sl : Nat) (v : Option Value), Stand p l e rm s m as' below meth c T L ce sl ∧ (ret = none → v = none) ∧ ce ≤ rm.cells ∧ sl ≤ rm.slots ∧ Q v T.heap L ∧
        ∀ fs, (∀ (f : JFrame) (acts : List Action), f.method = m → f.locked = none → f.entered = [] → (doReturn e (T.setTop f) acts v).1 = T.setFrames fs) → Steps p.tables e below (s₁.setTop (mkF m 0 L0 [])) (T.setFrames fs)) :
    OwnMet l Z y bytes maxL ret ws rm as' h0 Q := by
  refine MetFree.of_bodySF hp hisR ?_
  intro p e s m args below meth c s₁ Bd hml hP hK
  obtain ⟨hargs, hZ, hh⟩ := hP
  subst hargs
  obtain ⟨T, L, ce, sl, v, X, hv, hc, hs, hq, st⟩ := k p e s m below meth c s₁ Bd.exec Bd.bytes hml (findClass_of_methodNamed Bd.named) (name_of_methodNamed Bd.named Bd.method).1 Bd.returns hZ (Stand.of_body Bd) (by rw [← hh, Bd.state]; rfl)
  obtain ⟨fs, hr, hrun, hended, hW, hsame⟩ := X.leave (v := v) (fun h => hv (Bd.returns ▸ h))
  exact ⟨_, _, castTop (hef m) (st fs hr), hrun, hended, v, L, rfl, hq, ⟨_, rfl⟩, hW, hsame.mono hc hs⟩
abbrev OwnMetW (l : Launch) (Z : State) (y : MethodName) (bytes : ByteArray) (maxL : Nat) (ret : Option FieldType) (ws : List Cond) (rm : Room) (as' : Array Value) (h0 : Heap) (Q : Option Value → Heap → List Loc → Prop) : Prop :=
  MetFree l y (head1 (Cond.code y bytes maxL ret :: ws) rm) (fun a U => a = as' ∧ Z.Warmed39 U.vm ∧ U.heap = h0 ∧ IB Z U.vm []) (fun _ _ _ _ _ => True) (fun _ U o U' => ∃ v L, o = .returned v ∧ Q v U'.heap L ∧ ReturnedEndW U o U' L rm.cells rm.slots)
theorem own_since (s : State) : s.Since s.vm s.heap.size := (State.WarmedH.refl s).since _
theorem own_wide {l : Launch} {Z : State} {y : MethodName} {bytes : ByteArray} {maxL : Nat} {ret : Option FieldType} {ws : List Cond} {rm : Room} {as' : Array Value} {h0 : Heap} {Q : Option Value → Heap → List Loc → Prop} (h : OwnMet l Z y bytes maxL ret ws rm as' h0 Q) : OwnMetW l Z y bytes maxL ret ws rm as' h0 Q :=
  MetFree.mono h (fun _ _ hp => ⟨hp.1, hp.2.1, hp.2.2.1⟩) (fun _ _ _ _ _ hk => hk) (fun _ _ _ _ _ ⟨v, L, h1, h2, h3⟩ => ⟨v, L, h1, h2, ReturnedEndW.of_narrow h3.1 h3.2.1 h3.2.2⟩)
theorem own_bodyW {l : Launch} {Z : State} {y : MethodName} {bytes : ByteArray} {maxL : Nat} {ret : Option FieldType} {ws : List Cond} {rm : Room} {as' : Array Value} {h0 : Heap} {Q : Option Value → Heap → List Loc → Prop} {L0 : Array Slot} (hp : plainFor y = true) (hef : ∀ m, entryFrame m as' maxL = mkF m 0 L0 [])
    (k : ∀ (p : Program) (e : Env) (s : State) (m : MethodId) (below : List Frame) (meth : Method) (c : Code) (s₁ : State), p.tables.exec = Jvm.exec → c.code = bytes → c.maxLocals = maxL → s.vm.findClass y.cls = some m.cls → meth.name = y.name → meth.sig.returnType = ret → Z.Warmed39 s.vm → s.heap = h0 → IB Z s.vm [] → Stand p l e rm s m as' below meth c s₁ [] 0 0 → s₁.heap = h0 →
      ∃ (T : State) (L : List Loc) (ce sl : Nat) (v : Option Value) (vm1 : Vm) (n : Nat), Stand p l e rm (s.setVm vm1) m as' below meth c T L ce sl ∧ s.Since vm1 n ∧ n ≤ T.heap.size ∧ (ret = none → v = none) ∧ ce ≤ rm.cells ∧ sl ≤ rm.slots ∧ Q v T.heap L ∧
        ∀ fs, (∀ (f : JFrame) (acts : List Action), f.method = m → f.locked = none → f.entered = [] → (doReturn e (T.setTop f) acts v).1 = T.setFrames fs) → Steps p.tables e below (s₁.setTop (mkF m 0 L0 [])) (T.setFrames fs)) :
    OwnMetW l Z y bytes maxL ret ws rm as' h0 Q := by
  refine MetFree.of_bodySF hp hisR ?_
  intro p e s m args below meth c s₁ Bd hml hP hK
  obtain ⟨hargs, hZ, hh, hI⟩ := hP
  subst hargs
  obtain ⟨T, L, ce, sl, v, vm1, n, X, hS, hn, hv, hc, hs, hq, st⟩ := k p e s m below meth c s₁ Bd.exec Bd.bytes hml (findClass_of_methodNamed Bd.named) (name_of_methodNamed Bd.named Bd.method).1 Bd.returns hZ hh hI (Stand.of_body Bd) (by rw [← hh, Bd.state]; rfl)
  obtain ⟨fs, hr, hrun, hended, hR⟩ := X.leaveW hS hn (v := v) (fun h => hv (Bd.returns ▸ h))
  exact ⟨_, _, castTop (hef m) (st fs hr), hrun, hended, v, L, rfl, hq, hR.1, hR.2.1, hR.2.2.1, hR.2.2.2.mono hc hs⟩
theorem own_mvNest {Z s : State} {a0 args : Array Value} {own host : String} {index : Nat} {y : MethodName} (hZ : Z.Warmed39 s.vm) (w : (Cond.methodLinkNest own index y host).before a0 Z = true) : (Cond.methodLinkNest own index y host).before args s = true := (Cond.methodLinkNest_wide hZ w :)
section Calls
variable {p : Program} {l : Launch} {e : Env} {R : Room} {s : State} {m : MethodId} {args : Array Value} {below : List Frame} {meth : Method} {c : Code} {T : State} {locs : List Loc} {cells slots : Nat} {Z : State} {a0 : Array Value} {h : Heap}
  {own : String} {index : Nat} {y z : MethodName} {bytes : ByteArray} {maxL : Nat} {ret : Option FieldType} {rm : Room} {as' : Array Value} {Q : Option Value → Heap → List Loc → Prop} {pc : Nat} {Ls : Array Slot} {argsL rest : List Value} {W : Nat}
/-- what a call leaves -/
abbrev OwnCame (p : Program) (l : Launch) (e : Env) (R : Room) (s : State) (m : MethodId) (args : Array Value) (below : List Frame) (meth : Method) (c : Code) (T : State) (locs : List Loc) (cells slots : Nat) (rm : Room) (Q : Option Value → Heap → List Loc → Prop) (pc pc' : Nat) (Ls : Array Slot) (st rest : List Value) : Prop :=
  ∃ (v : Option Value) (T' : State) (L : List Loc), Stand p l e R s m args below meth c T' (locs ++ L) (cells + rm.cells) (slots + rm.slots) ∧ Q v T'.heap L ∧
    ∀ target, Steps p.tables e below (T'.setTop (mkF m pc' Ls (v.toList ++ rest))) target → Steps p.tables e below (T.setTop (mkF m pc Ls st)) target
theorem own_callS (X : Stand p l e R s m args below meth c T locs cells slots) (hx : p.tables.exec = Jvm.exec) (hZ : Z.Warmed39 s.vm) (hown : s.vm.findClass own = some m.cls)
    (w1 : (Cond.methodLink own index y).before a0 Z = true) (w2 : (Cond.static y).before a0 Z = true) (w3 : (Cond.initialized y.cls).before a0 Z = true) (w4 : (Cond.code y bytes maxL ret).before a0 Z = true)
    (hM : OwnMet l Z y bytes maxL ret [] rm as' h Q) (eT : T.heap = h) (hsize : Ls.size = c.maxLocals) (hlen : ∀ sig, parseMethodDescriptor y.desc = some sig → argsL.length = sig.parameters.length) (hd : decode c.code pc = .ok (.invokestatic index, 3))
    (has : argsL.toArray = as' := by rfl) (hW : (rest.map fun v => v.category).sum ≤ W := by exact Nat.le_of_eq rfl) (hf : rm.frames + 1 ≤ R.frames := by decide) (hl : W + (maxL + 11) + rm.locals ≤ R.locals := by decide) (hc : cells + rm.cells ≤ R.cells := by decide) (hs : slots + rm.slots ≤ R.slots := by decide) (hy : y.cls ≠ "java/lang/invoke/MethodHandle" ∧ y.cls ≠ "java/lang/invoke/VarHandle" := by decide) :
    OwnCame p l e R s m args below meth c T locs cells slots rm Q pc (pc + 3) Ls (argsL.reverse ++ rest) rest := by
  obtain ⟨v, vm1, ⟨T', L', c', n'⟩, -, XB, ⟨L, hQ, l1, y1, z1⟩, st⟩ := Jvm.LawKit.callS X hx (y := y) hown (mvT hZ w1) (mvT hZ w2) (mvT hZ w3) (mvT hZ w4) hy (backOf (W := W) hM hZ w4 w3 hf hl) (g := mkF m pc Ls (argsL.reverse ++ rest)) rfl hsize (argsL := argsL) (rest := rest) hlen rfl (by show 2 * 0 + _ ≤ _; omega) hd (fun _ _ => ⟨has, eT, hc, hs⟩)
  dsimp only at XB l1 y1 z1 st hQ
  subst l1 y1 z1
  exact ⟨v, T', L, XB, hQ, st⟩
theorem own_special (X : Stand p l e R s m args below meth c T locs cells slots) (hx : p.tables.exec = Jvm.exec) (hZ : Z.Warmed39 s.vm) (hown : s.vm.findClass own = some m.cls) {a : Addr}
    (w1 : (Cond.methodLink own index y).before a0 Z = true) (w2 : (Cond.instanceMethod y).before a0 Z = true) (w3 : (Cond.initialized y.cls).before a0 Z = true) (w4 : (Cond.code y bytes maxL none).before a0 Z = true)
    (hM : OwnMet l Z y bytes maxL none [] rm as' h Q) (eT : T.heap = h) (hsize : Ls.size = c.maxLocals) (hlen : ∀ sig, parseMethodDescriptor y.desc = some sig → argsL.length = sig.parameters.length) (hd : decode c.code pc = .ok (.invokespecial index, 3))
    (has : (.ref a :: argsL).toArray = as' := by rfl) (hW : (rest.map fun v => v.category).sum ≤ W := by exact Nat.le_of_eq rfl) (hf : rm.frames + 1 ≤ R.frames := by decide) (hl : W + (maxL + 11) + rm.locals ≤ R.locals := by decide) (hc : cells + rm.cells ≤ R.cells := by decide) (hs : slots + rm.slots ≤ R.slots := by decide) (hy : y.cls ≠ "java/lang/invoke/MethodHandle" ∧ y.cls ≠ "java/lang/invoke/VarHandle" := by decide) (hy1 : y.name = "<init>" := by rfl) :
    OwnCame p l e R s m args below meth c T locs cells slots rm Q pc (pc + 3) Ls (argsL.reverse ++ .ref a :: rest) rest := by
  obtain ⟨v, vm1, ⟨T', L', c', n'⟩, -, XB, ⟨L, hQ, l1, y1, z1⟩, st⟩ := X.specialBack hx (y := y) hy1 hown (mvT hZ w1) (mvT hZ w2) (mvT hZ w4) hy (backOf (W := W) hM hZ w4 w3 hf hl) (g := mkF m pc Ls (argsL.reverse ++ .ref a :: rest)) rfl hsize (Steps.refl _) (a := a) (argsL := argsL) (rest := rest) hlen rfl (by show 2 * 0 + _ ≤ _; omega) hd (fun _ _ => ⟨has, eT, hc, hs⟩)
  dsimp only at XB l1 y1 z1 st hQ
  subst l1 y1 z1
  exact ⟨v, T', L, XB, hQ, fun t k => st.trans k⟩
theorem own_virtual (X : Stand p l e R s m args below meth c T locs cells slots) (hx : p.tables.exec = Jvm.exec) (hZ : Z.Warmed39 s.vm) (hown : s.vm.findClass own = some m.cls) {a : Addr} {C : String} (E : Exa Z h a C)
    (w1 : (Cond.methodLink own index y).before a0 Z = true) (w2 : (Cond.declares y).before a0 Z = true) (nf : NotFace s y) (w5 : (Cond.selects C y z).before a0 Z = true) (w6 : (Cond.instanceMethod z).before a0 Z = true) (w3 : (Cond.initialized z.cls).before a0 Z = true) (w4 : (Cond.code z bytes maxL ret).before a0 Z = true)
    (hM : OwnMet l Z z bytes maxL ret [] rm as' h Q) (eT : T.heap = h) (hsize : Ls.size = c.maxLocals) (hlen : ∀ sig, parseMethodDescriptor y.desc = some sig → argsL.length = sig.parameters.length) (hd : decode c.code pc = .ok (.invokevirtual index, 3))
    (has : (.ref a :: argsL).toArray = as' := by rfl) (hW : (rest.map fun v => v.category).sum ≤ W := by exact Nat.le_of_eq rfl) (hf : rm.frames + 1 ≤ R.frames := by decide) (hl : W + (maxL + 11) + rm.locals ≤ R.locals := by decide) (hc : cells + rm.cells ≤ R.cells := by decide) (hs : slots + rm.slots ≤ R.slots := by decide) (hy : y.cls ≠ "java/lang/invoke/MethodHandle" ∧ y.cls ≠ "java/lang/invoke/VarHandle" := by decide) :
    OwnCame p l e R s m args below meth c T locs cells slots rm Q pc (pc + 3) Ls (argsL.reverse ++ .ref a :: rest) rest := by
  obtain ⟨cB, kB, i1, -, i3⟩ := isOf hZ eT E
  obtain ⟨v, vm1, ⟨T', L', c', n'⟩, -, XB, ⟨L, hQ, l1, y1, z1⟩, st⟩ := X.virtualBack hx (y := y) (z := z) hown (mvT hZ w1) (mvT hZ w2) nf (mvT hZ w5) (mvT hZ w6) hy (backOf (W := W) hM hZ w4 w3 hf hl) i1 i3 (g := mkF m pc Ls (argsL.reverse ++ .ref a :: rest)) rfl hsize (Steps.refl _) (argsL := argsL) (rest := rest) hlen rfl (by show 2 * 0 + _ ≤ _; omega) hd (fun _ _ => ⟨has, eT, hc, hs⟩)
  dsimp only at XB l1 y1 z1 st hQ
  subst l1 y1 z1
  exact ⟨v, T', L, XB, hQ, fun t k => st.trans k⟩
theorem own_virtualUp (X : Stand p l e R s m args below meth c T locs cells slots) (hx : p.tables.exec = Jvm.exec) (hZ : Z.Warmed39 s.vm) (hown : s.vm.findClass own = some m.cls) {a : Addr} {C owner : String} (E : Exa Z h a C)
    (w1 : (Cond.methodLink own index y).before a0 Z = true) (w7 : (Cond.sameMethod y.cls owner y.name y.desc).before a0 Z = true) (w2 : (Cond.declares ⟨owner, y.name, y.desc⟩).before a0 Z = true) (w5 : (Cond.selects C y z).before a0 Z = true) (w6 : (Cond.instanceMethod z).before a0 Z = true) (w3 : (Cond.initialized z.cls).before a0 Z = true) (w4 : (Cond.code z bytes maxL ret).before a0 Z = true)
    (hM : OwnMet l Z z bytes maxL ret [] rm as' h Q) (eT : T.heap = h) (hsize : Ls.size = c.maxLocals) (hlen : ∀ sig, parseMethodDescriptor y.desc = some sig → argsL.length = sig.parameters.length) (hd : decode c.code pc = .ok (.invokevirtual index, 3))
    (has : (.ref a :: argsL).toArray = as' := by rfl) (hW : (rest.map fun v => v.category).sum ≤ W := by exact Nat.le_of_eq rfl) (hf : rm.frames + 1 ≤ R.frames := by decide) (hl : W + (maxL + 11) + rm.locals ≤ R.locals := by decide) (hc : cells + rm.cells ≤ R.cells := by decide) (hs : slots + rm.slots ≤ R.slots := by decide) (hy : owner ≠ "java/lang/invoke/MethodHandle" ∧ owner ≠ "java/lang/invoke/VarHandle" := by decide) :
    OwnCame p l e R s m args below meth c T locs cells slots rm Q pc (pc + 3) Ls (argsL.reverse ++ .ref a :: rest) rest := by
  obtain ⟨cB, kB, i1, -, i3⟩ := isOf hZ eT E
  obtain ⟨v, vm1, ⟨T', L', c', n'⟩, -, XB, ⟨L, hQ, l1, y1, z1⟩, st⟩ := X.virtualBackUp hx (x := y) (y := z) (owner := owner) hown (mvT hZ w1) (mvT hZ w7) (mvT hZ w2) hy (mvT hZ w5) (mvT hZ w6) (backOf (W := W) hM hZ w4 w3 hf hl) i1 i3 (g := mkF m pc Ls (argsL.reverse ++ .ref a :: rest)) rfl hsize (Steps.refl _) (argsL := argsL) (rest := rest) hlen rfl (by show 2 * 0 + _ ≤ _; omega) hd (fun _ _ => ⟨has, eT, hc, hs⟩)
  dsimp only at XB l1 y1 z1 st hQ
  subst l1 y1 z1
  exact ⟨v, T', L, XB, hQ, fun t k => st.trans k⟩
theorem own_private (X : Stand p l e R s m args below meth c T locs cells slots) (hx : p.tables.exec = Jvm.exec) (hZ : Z.Warmed39 s.vm) (hown : s.vm.findClass own = some m.cls) {a : Addr} {C : String} (E : Exa Z h a C)
    (w1 : (Cond.methodLink own index y).before a0 Z = true) (w2 : (Cond.instanceMethod y).before a0 Z = true) (w5 : (Cond.selects y.cls y y).before args s = true) (w6 : (Cond.privateMethod y).before a0 Z = true) (w3 : (Cond.initialized y.cls).before a0 Z = true) (w4 : (Cond.code y bytes maxL ret).before a0 Z = true)
    (hM : OwnMet l Z y bytes maxL ret [] rm as' h Q) (eT : T.heap = h) (hsize : Ls.size = c.maxLocals) (hlen : ∀ sig, parseMethodDescriptor y.desc = some sig → argsL.length = sig.parameters.length) (hd : decode c.code pc = .ok (.invokevirtual index, 3))
    (has : (.ref a :: argsL).toArray = as' := by rfl) (hW : (rest.map fun v => v.category).sum ≤ W := by exact Nat.le_of_eq rfl) (hf : rm.frames + 1 ≤ R.frames := by decide) (hl : W + (maxL + 11) + rm.locals ≤ R.locals := by decide) (hc : cells + rm.cells ≤ R.cells := by decide) (hs : slots + rm.slots ≤ R.slots := by decide) (hy : y.cls ≠ "java/lang/invoke/MethodHandle" ∧ y.cls ≠ "java/lang/invoke/VarHandle" := by decide) :
    OwnCame p l e R s m args below meth c T locs cells slots rm Q pc (pc + 3) Ls (argsL.reverse ++ .ref a :: rest) rest := by
  obtain ⟨cq, q1, q2⟩ := E.cell
  obtain ⟨v, vm1, ⟨T', L', c', n'⟩, -, XB, ⟨L, hQ, l1, y1, z1⟩, st⟩ := X.privateBack hx (y := y) hown (mvT hZ w1) (mvT hZ w2) w5 (Cond.privateMethod_at (mvP hZ w6 (args := #[]))) (mvT hZ w4) hy (backOf (W := W) hM hZ w4 w3 hf hl) (g := mkF m pc Ls (argsL.reverse ++ .ref a :: rest)) rfl hsize (Steps.refl _) (a := a) (by rw [eT]; exact q1) q2 (argsL := argsL) (rest := rest) hlen rfl (by show 2 * 0 + _ ≤ _; omega) hd (fun _ _ => ⟨has, eT, hc, hs⟩)
  dsimp only at XB l1 y1 z1 st hQ
  subst l1 y1 z1
  exact ⟨v, T', L, XB, hQ, fun t k => st.trans k⟩
theorem own_iface (X : Stand p l e R s m args below meth c T locs cells slots) (hx : p.tables.exec = Jvm.exec) (hZ : Z.Warmed39 s.vm) (hown : s.vm.findClass own = some m.cls) {a : Addr} {C : String} {count : Nat} (E : Exa Z h a C)
    (w1 : (Cond.methodLink own index y).before a0 Z = true) (w2 : (Cond.declares y).before a0 Z = true) (w7 : (Cond.interfaceMethod y.cls y.cls y.name y.desc).before a0 Z = true) (w5 : (Cond.selects C y z).before a0 Z = true) (w6 : (Cond.instanceMethod z).before a0 Z = true) (w8 : (Cond.publicMethod z).before a0 Z = true) (w9 : (Cond.unhidden C y.name y.desc).before a0 Z = true) (wc : (Cond.castable C y.cls).before a0 Z = true) (w3 : (Cond.initialized z.cls).before a0 Z = true) (w4 : (Cond.code z bytes maxL ret).before a0 Z = true)
    (hM : OwnMet l Z z bytes maxL ret [] rm as' h Q) (eT : T.heap = h) (hsize : Ls.size = c.maxLocals) (hlen : ∀ sig, parseMethodDescriptor y.desc = some sig → argsL.length = sig.parameters.length) (hd : decode c.code pc = .ok (.invokeinterface index count, 5))
    (has : (.ref a :: argsL).toArray = as' := by rfl) (hW : (rest.map fun v => v.category).sum ≤ W := by exact Nat.le_of_eq rfl) (hf : rm.frames + 1 ≤ R.frames := by decide) (hl : W + (maxL + 11) + rm.locals ≤ R.locals := by decide) (hc : cells + rm.cells ≤ R.cells := by decide) (hs : slots + rm.slots ≤ R.slots := by decide) (hy : y.cls ≠ "java/lang/invoke/MethodHandle" ∧ y.cls ≠ "java/lang/invoke/VarHandle" := by decide) :
    OwnCame p l e R s m args below meth c T locs cells slots rm Q pc (pc + 5) Ls (argsL.reverse ++ .ref a :: rest) rest := by
  obtain ⟨cB, kB, i1, i2, i3⟩ := isOf hZ eT E
  obtain ⟨v, vm1, ⟨T', L', c', n'⟩, -, XB, ⟨L, hQ, l1, y1, z1⟩, st⟩ := X.interfaceBack hx (xi := y) (y := z) hown (mvT hZ w1) (mvT hZ w2) (mvT hZ w7 (by simp [Cond.onTables, Cond.keepsFace, Cond.keeps, Cond.steady, Cond.faceAtom, hy.1, hy.2])) (mvT hZ w5) (mvT hZ w6) (mvT hZ w8) (mvT hZ w9) (mvT hZ wc) hy (backOf (W := W) hM hZ w4 w3 hf hl) i1 i2 i3 (g := mkF m pc Ls (argsL.reverse ++ .ref a :: rest)) rfl hsize (Steps.refl _) (argsL := argsL) (rest := rest) hlen rfl (by show 2 * 0 + _ ≤ _; omega) hd (fun _ _ => ⟨has, eT, hc, hs⟩)
  dsimp only at XB l1 y1 z1 st hQ
  subst l1 y1 z1
  exact ⟨v, T', L, XB, hQ, fun t k => st.trans k⟩
theorem own_specialNest (X : Stand p l e R s m args below meth c T locs cells slots) (hx : p.tables.exec = Jvm.exec) (hZ : Z.Warmed39 s.vm) (hown : s.vm.findClass own = some m.cls) {a : Addr} {host : String}
    (w1 : (Cond.methodLinkNest own index y host).before args s = true) (w2 : (Cond.instanceMethod y).before a0 Z = true) (w3 : (Cond.initialized y.cls).before a0 Z = true) (w4 : (Cond.code y bytes maxL none).before a0 Z = true)
    (hM : OwnMet l Z y bytes maxL none [] rm as' h Q) (eT : T.heap = h) (hsize : Ls.size = c.maxLocals) (hlen : ∀ sig, parseMethodDescriptor y.desc = some sig → argsL.length = sig.parameters.length) (hd : decode c.code pc = .ok (.invokespecial index, 3))
    (has : (.ref a :: argsL).toArray = as' := by rfl) (hW : (rest.map fun v => v.category).sum ≤ W := by exact Nat.le_of_eq rfl) (hf : rm.frames + 1 ≤ R.frames := by decide) (hl : W + (maxL + 11) + rm.locals ≤ R.locals := by decide) (hc : cells + rm.cells ≤ R.cells := by decide) (hs : slots + rm.slots ≤ R.slots := by decide) (hy : y.cls ≠ "java/lang/invoke/MethodHandle" ∧ y.cls ≠ "java/lang/invoke/VarHandle" := by decide) (hy1 : y.name = "<init>" := by rfl) :
    OwnCame p l e R s m args below meth c T locs cells slots rm Q pc (pc + 3) Ls (argsL.reverse ++ .ref a :: rest) rest := by
  obtain ⟨v, vm1, ⟨T', L', c', n'⟩, -, XB, ⟨L, hQ, l1, y1, z1⟩, st⟩ := X.specialBackNest hx (y := y) hy1 hown w1 (mvT hZ w2) (mvT hZ w4) hy (backOf (W := W) hM hZ w4 w3 hf hl) (g := mkF m pc Ls (argsL.reverse ++ .ref a :: rest)) rfl hsize (Steps.refl _) (a := a) (argsL := argsL) (rest := rest) hlen rfl (by show 2 * 0 + _ ≤ _; omega) hd (fun _ _ => ⟨has, eT, hc, hs⟩)
  dsimp only at XB l1 y1 z1 st hQ
  subst l1 y1 z1
  exact ⟨v, T', L, XB, hQ, fun t k => st.trans k⟩
end Calls
theorem own_narR {v : Value} (h : v.isRef = true) {t : FieldType} (ht : t.isReference = true := by rfl) : narrow t v = v := by
  rcases ref_cases h with rfl | ⟨a, rfl⟩ <;> cases t <;> first | rfl | cases ht
theorem own_fitR {v : Value} (h : v.isRef = true) {t : FieldType} (ht : t.isReference = true := by rfl) : fits t v = true := by
  rcases ref_cases h with rfl | ⟨a, rfl⟩ <;> cases t <;> first | rfl | cases ht
theorem own_catR {v : Value} (h : v.isRef = true) : v.category = 1 := by rcases ref_cases h with rfl | ⟨a, rfl⟩ <;> rfl
theorem own_arv_of_arh {Z : State} {h : Heap} {a : Addr} {k : ClassId} {ty : FieldType} {z : Int32} {vs : List Value} {dv : Value} (F : Arh Z h a k ty z [] vs dv) : Arv Z h a k ty z vs dv := by
  obtain ⟨c, A, q, S, N, H, G⟩ := F
  exact ⟨c, A, q, S, N, H, G⟩
theorem own_getD_all (j : Nat) (d : Value) : ∀ n, (List.replicate n d).getD j d = d := by
  intro n
  simp only [List.getD_eq_getElem?_getD, List.getElem?_replicate]
  split <;> rfl
theorem own_c_nar_char (x : Int32) : ((nar .char x).toInt - x.toInt) % 65536 = 0 ∧ 0 ≤ (nar .char x).toInt ∧ (nar .char x).toInt < 65536 := c_i2c x
theorem own_c_nar_byte (x : Int32) : ((nar .byte x).toInt - x.toInt) % 256 = 0 ∧ -128 ≤ (nar .byte x).toInt ∧ (nar .byte x).toInt < 128 := c_i2b x
theorem own_mask (x m : Int32) (k : Nat) (hk : k ≤ 31) (hm : m.toBitVec.toNat = 2 ^ k - 1) (P : Int) (hP : ((2 ^ k : Nat) : Int) = P) : (x &&& m).toInt = x.toInt % P := by rw [← hP]; exact c_mask x m k hk hm
theorem own_maskL (x m : Int64) (k : Nat) (hk : k ≤ 63) (hm : m.toBitVec.toNat = 2 ^ k - 1) (P : Int) (hP : ((2 ^ k : Nat) : Int) = P) : (x &&& m).toInt = x.toInt % P := by rw [← hP]; exact c_maskL x m k hk hm
theorem own_ushr (x q : Int32) (k : Nat) (hk : q.toBitVec.toNat % 32 = k) (h0 : 0 < k) (P : Int) (hP : ((2 ^ k : Nat) : Int) = P) : ((x.toUInt32 >>> (q &&& 31).toUInt32).toInt32).toInt = (x.toInt % 4294967296) / P := by rw [← hP]; exact c_iushr x q k hk h0
theorem own_shr (x q : Int32) (k : Nat) (hk : q.toBitVec.toNat % 32 = k) (P : Int) (hP : ((2 ^ k : Nat) : Int) = P) : (x >>> (q &&& 31)).toInt = x.toInt / P := by rw [← hP]; exact c_ishr x q k hk
theorem own_irem_eq (x y : Int32) : x - (x / y) * y = x % y := by
  have h : (x - (x / y) * y).toInt = (x % y).toInt := by
    rw [Int32.toInt_sub, Int32.toInt_mul, Int32.toInt_mod, Int32.toInt_div, Int.bmod_mul_bmod, Int.sub_bmod_bmod]
    have hx := x.le_toInt; have hx' := x.toInt_lt
    have e : x.toInt - x.toInt.tdiv y.toInt * y.toInt = x.toInt.tmod y.toInt := by rw [Int.tmod_def, Int.mul_comm]
    rw [e]
    have h4 : (x.toInt.tmod y.toInt) ≤ 2147483647 := by
      by_cases hp : 0 ≤ x.toInt
      · have := Int.natAbs_tmod x.toInt y.toInt; have := Nat.mod_le x.toInt.natAbs y.toInt.natAbs; omega
      · have := Int.tmod_nonneg (a := -x.toInt) y.toInt (by omega); rw [Int.neg_tmod] at this; omega
    have h5 : -2147483648 ≤ (x.toInt.tmod y.toInt) := by
      have := Int.natAbs_tmod x.toInt y.toInt; have := Nat.mod_le x.toInt.natAbs y.toInt.natAbs; omega
    exact Int.bmod_eq_of_le (by omega) (by omega)
  exact Int32.toInt_inj.mp h
theorem own_irem (x y : Int32) (d : Int) (hy : y.toInt = d) : (0 ≤ x.toInt → (x - (x / y) * y).toInt = x.toInt % d) ∧ (x.toInt < 0 → (x - (x / y) * y).toInt = -((-x.toInt) % d)) := by rw [own_irem_eq]; exact c_irem x y d hy
end Jvm.RoadKit
namespace Jvm.Pilot.@@N@@
open Jvm Jvm.ClassFile Sem Op Lib Jvm.Free Jvm.Stand Jvm.LawKit Jvm.RoadKit Bundle Jvm.Pilot.@@N@@.Jvm.D
def Q0 (n0 : Nat) (v : Option Value) (h : Heap) (L : List Loc) : Prop := v = some (.int 1) ∧ Fr n0 L
theorem own_eqI {args : Array Value} {first s : State} {o : Option Outcome} {idx : List Nat} {t : Term} {n : Int32} (h : (Jvm.Cond.eq t (.int n)).value args first o s idx = some true) : t.eval args first o idx s = some (.int n) := by
  simp only [Jvm.Cond.value, Term.eval] at h
  cases ht : t.eval args first o idx s with
  | none => simp [ht] at h
  | some x => cases x <;> simp [ht] at h ⊢; exact h
theorem own_eqR {args : Array Value} {first s : State} {o : Option Outcome} {idx : List Nat} {t u : Term} {a : Addr} (h : (Jvm.Cond.eq t u).value args first o s idx = some true) (hu : u.eval args first o idx s = some (.ref a)) : t.eval args first o idx s = some (.ref a) := by
  simp only [Jvm.Cond.value, hu] at h
  cases ht : t.eval args first o idx s with
  | none => simp [ht] at h
  | some x => cases x <;> simp [ht] at h ⊢; exact h
theorem own_len {args : Array Value} {s : State} {t : Term} {n : Int32} {a : Addr} {c : Cell} {ty : FieldType} (h : (Term.length t).eval args s none [] s = some (.int n)) (ev : t.eval args s none [] s = some (.ref a)) (A : Arr s s.heap a c ty) : c.slots.size < 2 ^ 31 ∧ c.slots.size.toInt32 = n := by
  have e := Arr.fin (Vm.Alike.refl _) A
  by_cases q : c.slots.size < 2 ^ 31
  · have := (len_f ev e q).symm.trans h
    exact ⟨q, by simpa using this⟩
  · simp [Term.eval, ev, e, q] at h
theorem own_fin64 (p : Int32) : ∃ n : Fin 64, p &&& (63 : Int32) = Int32.ofInt (n.val : Int) := by
  have h := own_mask p (63 : Int32) 6 (by decide) (by decide) 64 (by decide)
  refine ⟨⟨((p &&& (63 : Int32)).toInt).toNat, by omega⟩, ?_⟩
  have e : ((((p &&& (63 : Int32)).toInt).toNat : Nat) : Int) = (p &&& (63 : Int32)).toInt := by omega
  show _ = Int32.ofInt ((((p &&& (63 : Int32)).toInt).toNat : Nat) : Int)
  rw [e]
  exact (Int32.ofInt_toInt _).symm
theorem own_ub {x n : Int32} (h : x < n) (k : Int) (hk : n.toInt = k) : x.toInt < k := by rw [← hk]; exact Int32.lt_iff_toInt_lt.mp h
theorem own_nub {x n : Int32} (h : ¬ x < n) (k : Int) (hk : n.toInt = k) : k ≤ x.toInt := by rw [← hk]; exact Int.not_lt.mp (fun q => h (Int32.lt_iff_toInt_lt.mpr q))
theorem own_lb {x n : Int32} (h : n < x) (k : Int) (hk : n.toInt = k) : k < x.toInt := by rw [← hk]; exact Int32.lt_iff_toInt_lt.mp h
theorem own_nlb {x n : Int32} (h : ¬ n < x) (k : Int) (hk : n.toInt = k) : x.toInt ≤ k := by rw [← hk]; exact Int.not_lt.mp (fun q => h (Int32.lt_iff_toInt_lt.mpr q))
theorem w_7 {a0 : Array Value} {Z : State} (hw : ∀ d ∈ tables_1, d.before a0 Z = true) : Jvm.Cond.before (Jvm.Cond.initialized "java/lang/String") a0 Z = true := hw _ (List.mem_of_getElem? (i := 7) rfl)
theorem w_6 {a0 : Array Value} {Z : State} (hw : ∀ d ∈ tables_1, d.before a0 Z = true) : Jvm.Cond.before (Jvm.Cond.instantiable "java/lang/String" (4 : Nat)) a0 Z = true := hw _ (List.mem_of_getElem? (i := 6) rfl)
theorem w_23 {a0 : Array Value} {Z : State} (hw : ∀ d ∈ tables_1, d.before a0 Z = true) : Jvm.Cond.before (Jvm.Cond.arrayClass Jvm.ClassFile.FieldType.byte) a0 Z = true := hw _ (List.mem_of_getElem? (i := 23) rfl)
theorem w_33 {a0 : Array Value} {Z : State} (hw : ∀ d ∈ tables_1, d.before a0 Z = true) : Jvm.Cond.before (Jvm.Cond.laysFinal "java/lang/String" "java/lang/String" "value" "[B") a0 Z = true := hw _ (List.mem_of_getElem? (i := 33) rfl)
theorem w_31 {a0 : Array Value} {Z : State} (hw : ∀ d ∈ tables_1, d.before a0 Z = true) : Jvm.Cond.before (Jvm.Cond.laysFinal "java/lang/String" "java/lang/String" "coder" "B") a0 Z = true := hw _ (List.mem_of_getElem? (i := 31) rfl)
theorem w_109 {a0 : Array Value} {Z : State} (hw : ∀ d ∈ tables_1, d.before a0 Z = true) : Jvm.Cond.before (Jvm.Cond.soleField "java/lang/String" "value") a0 Z = true := hw _ (List.mem_of_getElem? (i := 109) rfl)
theorem w_110 {a0 : Array Value} {Z : State} (hw : ∀ d ∈ tables_1, d.before a0 Z = true) : Jvm.Cond.before (Jvm.Cond.soleField "java/lang/String" "coder") a0 Z = true := hw _ (List.mem_of_getElem? (i := 110) rfl)
theorem own_wS {a0 : Array Value} {Z : State} (hw : ∀ d ∈ tables_1, d.before a0 Z = true) : ∀ a ∈ Bundle.stringAtoms, a.before a0 Z = true := by
  intro a ha
  simp only [Bundle.stringAtoms, List.mem_cons, List.not_mem_nil, or_false] at ha
  rcases ha with rfl | rfl | rfl | rfl | rfl | rfl | rfl
  · exact (w_7 hw)
  · exact (w_6 hw)
  · exact (w_23 hw)
  · exact (w_33 hw)
  · exact (w_31 hw)
  · exact (w_109 hw)
  · exact (w_110 hw)
theorem own_lit_7 : (∀ c ∈ ("ABCDEFGHIJKLMNOPQRSTUVWXYZabcdefghijklmnopqrstuvwxyz0123456789-_0123456789abcdef" : String).toList, c.toNat < 256) ∧ ("ABCDEFGHIJKLMNOPQRSTUVWXYZabcdefghijklmnopqrstuvwxyz0123456789-_0123456789abcdef" : String).toList.map (fun c => Value.int (Jvm.Lit.byteI c.toNat.toUInt16)) = [(.int (65 : Int32)), (.int (66 : Int32)), (.int (67 : Int32)), (.int (68 : Int32)), (.int (69 : Int32)), (.int (70 : Int32)), (.int (71 : Int32)), (.int (72 : Int32)), (.int (73 : Int32)), (.int (74 : Int32)), (.int (75 : Int32)), (.int (76 : Int32)), (.int (77 : Int32)), (.int (78 : Int32)), (.int (79 : Int32)), (.int (80 : Int32)), (.int (81 : Int32)), (.int (82 : Int32)), (.int (83 : Int32)), (.int (84 : Int32)), (.int (85 : Int32)), (.int (86 : Int32)), (.int (87 : Int32)), (.int (88 : Int32)), (.int (89 : Int32)), (.int (90 : Int32)), (.int (97 : Int32)), (.int (98 : Int32)), (.int (99 : Int32)), (.int (100 : Int32)), (.int (101 : Int32)), (.int (102 : Int32)), (.int (103 : Int32)), (.int (104 : Int32)), (.int (105 : Int32)), (.int (106 : Int32)), (.int (107 : Int32)), (.int (108 : Int32)), (.int (109 : Int32)), (.int (110 : Int32)), (.int (111 : Int32)), (.int (112 : Int32)), (.int (113 : Int32)), (.int (114 : Int32)), (.int (115 : Int32)), (.int (116 : Int32)), (.int (117 : Int32)), (.int (118 : Int32)), (.int (119 : Int32)), (.int (120 : Int32)), (.int (121 : Int32)), (.int (122 : Int32)), (.int (48 : Int32)), (.int (49 : Int32)), (.int (50 : Int32)), (.int (51 : Int32)), (.int (52 : Int32)), (.int (53 : Int32)), (.int (54 : Int32)), (.int (55 : Int32)), (.int (56 : Int32)), (.int (57 : Int32)), (.int (45 : Int32)), (.int (95 : Int32)), (.int (48 : Int32)), (.int (49 : Int32)), (.int (50 : Int32)), (.int (51 : Int32)), (.int (52 : Int32)), (.int (53 : Int32)), (.int (54 : Int32)), (.int (55 : Int32)), (.int (56 : Int32)), (.int (57 : Int32)), (.int (97 : Int32)), (.int (98 : Int32)), (.int (99 : Int32)), (.int (100 : Int32)), (.int (101 : Int32)), (.int (102 : Int32))] := ⟨by decide, by decide⟩
theorem w_0 {a0 : Array Value} {Z : State} (hw : ∀ d ∈ tables_1, d.before a0 Z = true) : Jvm.Cond.before (Jvm.Cond.arrayClass Jvm.ClassFile.FieldType.char) a0 Z = true := hw _ (List.mem_of_getElem? (i := 0) rfl)
theorem d1_0 : decode method_2_code 0 = .ok (.iload_n 0, 1) := by decide +kernel
theorem d1_1 : decode method_2_code 1 = .ok (.bipush 63, 2) := by decide +kernel
theorem d1_3 : decode method_2_code 3 = .ok (.iand, 1) := by decide +kernel
theorem d1_4 : decode method_2_code 4 = .ok (.istore_n 1, 1) := by decide +kernel
theorem d1_5 : decode method_2_code 5 = .ok (.iload_n 1, 1) := by decide +kernel
theorem d1_6 : decode method_2_code 6 = .ok (.bipush 26, 2) := by decide +kernel
theorem d1_8 : decode method_2_code 8 = .ok (.if_icmp .ge 9, 3) := by decide +kernel
theorem d1_11 : decode method_2_code 11 = .ok (.bipush 65, 2) := by decide +kernel
theorem d1_13 : decode method_2_code 13 = .ok (.iload_n 1, 1) := by decide +kernel
theorem d1_14 : decode method_2_code 14 = .ok (.iadd, 1) := by decide +kernel
theorem d1_15 : decode method_2_code 15 = .ok (.i2c, 1) := by decide +kernel
theorem d1_16 : decode method_2_code 16 = .ok (.ireturn, 1) := by decide +kernel
theorem d1_17 : decode method_2_code 17 = .ok (.iload_n 1, 1) := by decide +kernel
theorem d1_18 : decode method_2_code 18 = .ok (.bipush 52, 2) := by decide +kernel
theorem d1_20 : decode method_2_code 20 = .ok (.if_icmp .ge 12, 3) := by decide +kernel
theorem d1_23 : decode method_2_code 23 = .ok (.bipush 97, 2) := by decide +kernel
theorem d1_25 : decode method_2_code 25 = .ok (.iload_n 1, 1) := by decide +kernel
theorem d1_26 : decode method_2_code 26 = .ok (.bipush 26, 2) := by decide +kernel
theorem d1_28 : decode method_2_code 28 = .ok (.isub, 1) := by decide +kernel
theorem d1_29 : decode method_2_code 29 = .ok (.iadd, 1) := by decide +kernel
theorem d1_30 : decode method_2_code 30 = .ok (.i2c, 1) := by decide +kernel
theorem d1_31 : decode method_2_code 31 = .ok (.ireturn, 1) := by decide +kernel
theorem d1_32 : decode method_2_code 32 = .ok (.iload_n 1, 1) := by decide +kernel
theorem d1_33 : decode method_2_code 33 = .ok (.bipush 62, 2) := by decide +kernel
theorem d1_35 : decode method_2_code 35 = .ok (.if_icmp .ge 12, 3) := by decide +kernel
theorem d1_38 : decode method_2_code 38 = .ok (.bipush 48, 2) := by decide +kernel
theorem d1_40 : decode method_2_code 40 = .ok (.iload_n 1, 1) := by decide +kernel
theorem d1_41 : decode method_2_code 41 = .ok (.bipush 52, 2) := by decide +kernel
theorem d1_43 : decode method_2_code 43 = .ok (.isub, 1) := by decide +kernel
theorem d1_44 : decode method_2_code 44 = .ok (.iadd, 1) := by decide +kernel
theorem d1_45 : decode method_2_code 45 = .ok (.i2c, 1) := by decide +kernel
theorem d1_46 : decode method_2_code 46 = .ok (.ireturn, 1) := by decide +kernel
theorem d1_47 : decode method_2_code 47 = .ok (.iload_n 1, 1) := by decide +kernel
theorem d1_48 : decode method_2_code 48 = .ok (.bipush 62, 2) := by decide +kernel
theorem d1_50 : decode method_2_code 50 = .ok (.if_icmp .ne 6, 3) := by decide +kernel
theorem d1_53 : decode method_2_code 53 = .ok (.bipush 45, 2) := by decide +kernel
theorem d1_55 : decode method_2_code 55 = .ok (.ireturn, 1) := by decide +kernel
theorem d1_56 : decode method_2_code 56 = .ok (.bipush 95, 2) := by decide +kernel
theorem d1_58 : decode method_2_code 58 = .ok (.ireturn, 1) := by decide +kernel
abbrev y_0 : MethodName := ⟨"com/example/bare_queue/barequeue/QueueNameOfPinLaw", "ch", "(I)C"⟩
theorem pn_0 : plainName "com/example/bare_queue/barequeue/QueueNameOfPinLaw" = true := by first | (simp [plainName, overriddenIn]; done) | decide +kernel
-- com/example/bare_queue/barequeue/QueueNameOfPinLaw.ch(I)C
abbrev Rm1 : Room := { frames := 0, cells := 0, slots := 0, locals := 0 }
def Q1 (Z : State) (i1 : Int32) (h0 : Heap) (n0 : Nat) (v : Option Value) (h : Heap) (L : List Loc) : Prop := v = some (.int (if (i1 &&& (63 : Int32)) < (26 : Int32) then (nar .char (((65 : Int32) + (i1 &&& (63 : Int32))).toUInt32.toUInt16.toUInt32.toInt32)) else (if (i1 &&& (63 : Int32)) < (52 : Int32) then (nar .char (((97 : Int32) + ((i1 &&& (63 : Int32)) - (26 : Int32))).toUInt32.toUInt16.toUInt32.toInt32)) else (if (i1 &&& (63 : Int32)) < (62 : Int32) then (nar .char (((48 : Int32) + ((i1 &&& (63 : Int32)) - (52 : Int32))).toUInt32.toUInt16.toUInt32.toInt32)) else (if (i1 &&& (63 : Int32)) = (62 : Int32) then (45 : Int32) else (95 : Int32)))))) ∧ Fr n0 L ∧ h = h0
theorem ef1 (i1 : Int32) (m : MethodId) : entryFrame m #[(.int i1)] 2 = mkF m 0 #[.val (.int i1), .unset] [] := by first | (simp [entryFrame, mkF, argsToLocals, Value.category]; done) | rfl
theorem rm1 (l : Launch) (Z : State) (a0 : Array Value) (hw : ∀ d ∈ tables_1, d.before a0 Z = true) (ws : List Jvm.Cond) (i1 : Int32) (h0 : Heap) (n0 : Nat) (Z0 : n0 ≤ h0.size) :
    OwnMet l Z y_0 method_2_code 2 (some .char) ws Rm1 #[(.int i1)] h0 (Q1 Z i1 h0 n0) := by
  refine own_body (plainFor_of_name pn_0) (ef1 i1) ?_
  intro p e s m below meth c s₁ hx hby hml hown hnm hret hZ X0 e0
  have N0 := Fr.nil n0
  by_cases cc1 : (i1 &&& (63 : Int32)) < (26 : Int32)
  · refine ⟨s₁, _, _, _, (some (.int (nar .char (((65 : Int32) + (i1 &&& (63 : Int32))).toUInt32.toUInt16.toUInt32.toInt32)))), X0, nofun, by decide, by decide, ?_, fun fs hr => ?_⟩
    · show Q1 Z i1 h0 n0 _ s₁.heap _
      rw [e0]
      unfold Q1
      rw [show (if (i1 &&& (63 : Int32)) < (26 : Int32) then (nar .char (((65 : Int32) + (i1 &&& (63 : Int32))).toUInt32.toUInt16.toUInt32.toInt32)) else (if (i1 &&& (63 : Int32)) < (52 : Int32) then (nar .char (((97 : Int32) + ((i1 &&& (63 : Int32)) - (26 : Int32))).toUInt32.toUInt16.toUInt32.toInt32)) else (if (i1 &&& (63 : Int32)) < (62 : Int32) then (nar .char (((48 : Int32) + ((i1 &&& (63 : Int32)) - (52 : Int32))).toUInt32.toUInt16.toUInt32.toInt32)) else (if (i1 &&& (63 : Int32)) = (62 : Int32) then (45 : Int32) else (95 : Int32))))) = (nar .char (((65 : Int32) + (i1 &&& (63 : Int32))).toUInt32.toUInt16.toUInt32.toInt32)) from by rw [if_pos cc1]]
      exact ⟨rfl, N0, rfl⟩
    · show Steps p.tables e below (s₁.setTop (mkF m 0 #[.val (.int i1), .unset] [])) _
      refine XS.iloadN X0.here hx rfl (hb hby d1_0) rfl ?_
      refine XS.bipush X0.here hx rfl (hb hby d1_1) ?_
      refine XS.iand X0.here hx rfl (hb hby d1_3) rfl ?_
      refine XS.istoreN X0.here hx rfl (hb hby d1_4) rfl (l' := #[.val (.int i1), .val (.int (i1 &&& (63 : Int32)))]) rfl ?_
      refine XS.iloadN X0.here hx rfl (hb hby d1_5) rfl ?_
      refine XS.bipush X0.here hx rfl (hb hby d1_6) ?_
      refine XS.icmpNo X0.here hx rfl (hb hby d1_8) rfl (tlt (cc1 : (i1 &&& (63 : Int32)) < (26 : Int32))).2.1 ?_
      refine XS.bipush X0.here hx rfl (hb hby d1_11) ?_
      refine XS.iloadN X0.here hx rfl (hb hby d1_13) rfl ?_
      refine XS.iadd X0.here hx rfl (hb hby d1_14) rfl ?_
      refine XS.i2c X0.here hx rfl (hb hby d1_15) rfl ?_
      exact retN X0 hx (t := .char) hret (by simp) (hb hby d1_16) hr
  · by_cases cc2 : (i1 &&& (63 : Int32)) < (52 : Int32)
    · refine ⟨s₁, _, _, _, (some (.int (nar .char (((97 : Int32) + ((i1 &&& (63 : Int32)) - (26 : Int32))).toUInt32.toUInt16.toUInt32.toInt32)))), X0, nofun, by decide, by decide, ?_, fun fs hr => ?_⟩
      · show Q1 Z i1 h0 n0 _ s₁.heap _
        rw [e0]
        unfold Q1
        rw [show (if (i1 &&& (63 : Int32)) < (26 : Int32) then (nar .char (((65 : Int32) + (i1 &&& (63 : Int32))).toUInt32.toUInt16.toUInt32.toInt32)) else (if (i1 &&& (63 : Int32)) < (52 : Int32) then (nar .char (((97 : Int32) + ((i1 &&& (63 : Int32)) - (26 : Int32))).toUInt32.toUInt16.toUInt32.toInt32)) else (if (i1 &&& (63 : Int32)) < (62 : Int32) then (nar .char (((48 : Int32) + ((i1 &&& (63 : Int32)) - (52 : Int32))).toUInt32.toUInt16.toUInt32.toInt32)) else (if (i1 &&& (63 : Int32)) = (62 : Int32) then (45 : Int32) else (95 : Int32))))) = (nar .char (((97 : Int32) + ((i1 &&& (63 : Int32)) - (26 : Int32))).toUInt32.toUInt16.toUInt32.toInt32)) from by rw [if_neg cc1, if_pos cc2]]
        exact ⟨rfl, N0, rfl⟩
      · show Steps p.tables e below (s₁.setTop (mkF m 0 #[.val (.int i1), .unset] [])) _
        refine XS.iloadN X0.here hx rfl (hb hby d1_0) rfl ?_
        refine XS.bipush X0.here hx rfl (hb hby d1_1) ?_
        refine XS.iand X0.here hx rfl (hb hby d1_3) rfl ?_
        refine XS.istoreN X0.here hx rfl (hb hby d1_4) rfl (l' := #[.val (.int i1), .val (.int (i1 &&& (63 : Int32)))]) rfl ?_
        refine XS.iloadN X0.here hx rfl (hb hby d1_5) rfl ?_
        refine XS.bipush X0.here hx rfl (hb hby d1_6) ?_
        refine XS.icmpYes X0.here hx rfl (pc0 := 8) (pc' := 17) rfl (hb hby d1_8) rfl (flt (cc1 : ¬ ((i1 &&& (63 : Int32)) < (26 : Int32)))).2.1 (by decide) (by decide) ?_
        refine XS.iloadN X0.here hx rfl (hb hby d1_17) rfl ?_
        refine XS.bipush X0.here hx rfl (hb hby d1_18) ?_
        refine XS.icmpNo X0.here hx rfl (hb hby d1_20) rfl (tlt (cc2 : (i1 &&& (63 : Int32)) < (52 : Int32))).2.1 ?_
        refine XS.bipush X0.here hx rfl (hb hby d1_23) ?_
        refine XS.iloadN X0.here hx rfl (hb hby d1_25) rfl ?_
        show Steps p.tables e below (s₁.setTop (mkF m 26 #[.val (.int i1), .val (.int (i1 &&& (63 : Int32)))] [(.int (i1 &&& (63 : Int32))), (.int (97 : Int32))])) _
        refine XS.bipush X0.here hx rfl (hb hby d1_26) ?_
        refine XS.isub X0.here hx rfl (hb hby d1_28) rfl ?_
        refine XS.iadd X0.here hx rfl (hb hby d1_29) rfl ?_
        refine XS.i2c X0.here hx rfl (hb hby d1_30) rfl ?_
        exact retN X0 hx (t := .char) hret (by simp) (hb hby d1_31) hr
    · by_cases cc3 : (i1 &&& (63 : Int32)) < (62 : Int32)
      · refine ⟨s₁, _, _, _, (some (.int (nar .char (((48 : Int32) + ((i1 &&& (63 : Int32)) - (52 : Int32))).toUInt32.toUInt16.toUInt32.toInt32)))), X0, nofun, by decide, by decide, ?_, fun fs hr => ?_⟩
        · show Q1 Z i1 h0 n0 _ s₁.heap _
          rw [e0]
          unfold Q1
          rw [show (if (i1 &&& (63 : Int32)) < (26 : Int32) then (nar .char (((65 : Int32) + (i1 &&& (63 : Int32))).toUInt32.toUInt16.toUInt32.toInt32)) else (if (i1 &&& (63 : Int32)) < (52 : Int32) then (nar .char (((97 : Int32) + ((i1 &&& (63 : Int32)) - (26 : Int32))).toUInt32.toUInt16.toUInt32.toInt32)) else (if (i1 &&& (63 : Int32)) < (62 : Int32) then (nar .char (((48 : Int32) + ((i1 &&& (63 : Int32)) - (52 : Int32))).toUInt32.toUInt16.toUInt32.toInt32)) else (if (i1 &&& (63 : Int32)) = (62 : Int32) then (45 : Int32) else (95 : Int32))))) = (nar .char (((48 : Int32) + ((i1 &&& (63 : Int32)) - (52 : Int32))).toUInt32.toUInt16.toUInt32.toInt32)) from by rw [if_neg cc1, if_neg cc2, if_pos cc3]]
          exact ⟨rfl, N0, rfl⟩
        · show Steps p.tables e below (s₁.setTop (mkF m 0 #[.val (.int i1), .unset] [])) _
          refine XS.iloadN X0.here hx rfl (hb hby d1_0) rfl ?_
          refine XS.bipush X0.here hx rfl (hb hby d1_1) ?_
          refine XS.iand X0.here hx rfl (hb hby d1_3) rfl ?_
          refine XS.istoreN X0.here hx rfl (hb hby d1_4) rfl (l' := #[.val (.int i1), .val (.int (i1 &&& (63 : Int32)))]) rfl ?_
          refine XS.iloadN X0.here hx rfl (hb hby d1_5) rfl ?_
          refine XS.bipush X0.here hx rfl (hb hby d1_6) ?_
          refine XS.icmpYes X0.here hx rfl (pc0 := 8) (pc' := 17) rfl (hb hby d1_8) rfl (flt (cc1 : ¬ ((i1 &&& (63 : Int32)) < (26 : Int32)))).2.1 (by decide) (by decide) ?_
          refine XS.iloadN X0.here hx rfl (hb hby d1_17) rfl ?_
          refine XS.bipush X0.here hx rfl (hb hby d1_18) ?_
          refine XS.icmpYes X0.here hx rfl (pc0 := 20) (pc' := 32) rfl (hb hby d1_20) rfl (flt (cc2 : ¬ ((i1 &&& (63 : Int32)) < (52 : Int32)))).2.1 (by decide) (by decide) ?_
          refine XS.iloadN X0.here hx rfl (hb hby d1_32) rfl ?_
          refine XS.bipush X0.here hx rfl (hb hby d1_33) ?_
          show Steps p.tables e below (s₁.setTop (mkF m 35 #[.val (.int i1), .val (.int (i1 &&& (63 : Int32)))] [(.int (62 : Int32)), (.int (i1 &&& (63 : Int32)))])) _
          refine XS.icmpNo X0.here hx rfl (hb hby d1_35) rfl (tlt (cc3 : (i1 &&& (63 : Int32)) < (62 : Int32))).2.1 ?_
          refine XS.bipush X0.here hx rfl (hb hby d1_38) ?_
          refine XS.iloadN X0.here hx rfl (hb hby d1_40) rfl ?_
          refine XS.bipush X0.here hx rfl (hb hby d1_41) ?_
          refine XS.isub X0.here hx rfl (hb hby d1_43) rfl ?_
          refine XS.iadd X0.here hx rfl (hb hby d1_44) rfl ?_
          refine XS.i2c X0.here hx rfl (hb hby d1_45) rfl ?_
          exact retN X0 hx (t := .char) hret (by simp) (hb hby d1_46) hr
      · by_cases cc4 : (i1 &&& (63 : Int32)) = (62 : Int32)
        · refine ⟨s₁, _, _, _, (some (.int (45 : Int32))), X0, nofun, by decide, by decide, ?_, fun fs hr => ?_⟩
          · show Q1 Z i1 h0 n0 _ s₁.heap _
            rw [e0]
            unfold Q1
            rw [show (if (i1 &&& (63 : Int32)) < (26 : Int32) then (nar .char (((65 : Int32) + (i1 &&& (63 : Int32))).toUInt32.toUInt16.toUInt32.toInt32)) else (if (i1 &&& (63 : Int32)) < (52 : Int32) then (nar .char (((97 : Int32) + ((i1 &&& (63 : Int32)) - (26 : Int32))).toUInt32.toUInt16.toUInt32.toInt32)) else (if (i1 &&& (63 : Int32)) < (62 : Int32) then (nar .char (((48 : Int32) + ((i1 &&& (63 : Int32)) - (52 : Int32))).toUInt32.toUInt16.toUInt32.toInt32)) else (if (i1 &&& (63 : Int32)) = (62 : Int32) then (45 : Int32) else (95 : Int32))))) = (45 : Int32) from by rw [if_neg cc1, if_neg cc2, if_neg cc3, if_pos cc4]]
            exact ⟨rfl, N0, rfl⟩
          · show Steps p.tables e below (s₁.setTop (mkF m 0 #[.val (.int i1), .unset] [])) _
            refine XS.iloadN X0.here hx rfl (hb hby d1_0) rfl ?_
            refine XS.bipush X0.here hx rfl (hb hby d1_1) ?_
            refine XS.iand X0.here hx rfl (hb hby d1_3) rfl ?_
            refine XS.istoreN X0.here hx rfl (hb hby d1_4) rfl (l' := #[.val (.int i1), .val (.int (i1 &&& (63 : Int32)))]) rfl ?_
            refine XS.iloadN X0.here hx rfl (hb hby d1_5) rfl ?_
            refine XS.bipush X0.here hx rfl (hb hby d1_6) ?_
            refine XS.icmpYes X0.here hx rfl (pc0 := 8) (pc' := 17) rfl (hb hby d1_8) rfl (flt (cc1 : ¬ ((i1 &&& (63 : Int32)) < (26 : Int32)))).2.1 (by decide) (by decide) ?_
            refine XS.iloadN X0.here hx rfl (hb hby d1_17) rfl ?_
            refine XS.bipush X0.here hx rfl (hb hby d1_18) ?_
            refine XS.icmpYes X0.here hx rfl (pc0 := 20) (pc' := 32) rfl (hb hby d1_20) rfl (flt (cc2 : ¬ ((i1 &&& (63 : Int32)) < (52 : Int32)))).2.1 (by decide) (by decide) ?_
            refine XS.iloadN X0.here hx rfl (hb hby d1_32) rfl ?_
            refine XS.bipush X0.here hx rfl (hb hby d1_33) ?_
            show Steps p.tables e below (s₁.setTop (mkF m 35 #[.val (.int i1), .val (.int (i1 &&& (63 : Int32)))] [(.int (62 : Int32)), (.int (i1 &&& (63 : Int32)))])) _
            refine XS.icmpYes X0.here hx rfl (pc0 := 35) (pc' := 47) rfl (hb hby d1_35) rfl (flt (cc3 : ¬ ((i1 &&& (63 : Int32)) < (62 : Int32)))).2.1 (by decide) (by decide) ?_
            refine XS.iloadN X0.here hx rfl (hb hby d1_47) rfl ?_
            refine XS.bipush X0.here hx rfl (hb hby d1_48) ?_
            refine XS.icmpNo X0.here hx rfl (hb hby d1_50) rfl (teq (cc4 : (i1 &&& (63 : Int32)) = (62 : Int32))).2 ?_
            refine XS.bipush X0.here hx rfl (hb hby d1_53) ?_
            exact retN X0 hx (t := .char) hret (by simp) (hb hby d1_55) hr
        · refine ⟨s₁, _, _, _, (some (.int (95 : Int32))), X0, nofun, by decide, by decide, ?_, fun fs hr => ?_⟩
          · show Q1 Z i1 h0 n0 _ s₁.heap _
            rw [e0]
            unfold Q1
            rw [show (if (i1 &&& (63 : Int32)) < (26 : Int32) then (nar .char (((65 : Int32) + (i1 &&& (63 : Int32))).toUInt32.toUInt16.toUInt32.toInt32)) else (if (i1 &&& (63 : Int32)) < (52 : Int32) then (nar .char (((97 : Int32) + ((i1 &&& (63 : Int32)) - (26 : Int32))).toUInt32.toUInt16.toUInt32.toInt32)) else (if (i1 &&& (63 : Int32)) < (62 : Int32) then (nar .char (((48 : Int32) + ((i1 &&& (63 : Int32)) - (52 : Int32))).toUInt32.toUInt16.toUInt32.toInt32)) else (if (i1 &&& (63 : Int32)) = (62 : Int32) then (45 : Int32) else (95 : Int32))))) = (95 : Int32) from by rw [if_neg cc1, if_neg cc2, if_neg cc3, if_neg cc4]]
            exact ⟨rfl, N0, rfl⟩
          · show Steps p.tables e below (s₁.setTop (mkF m 0 #[.val (.int i1), .unset] [])) _
            refine XS.iloadN X0.here hx rfl (hb hby d1_0) rfl ?_
            refine XS.bipush X0.here hx rfl (hb hby d1_1) ?_
            refine XS.iand X0.here hx rfl (hb hby d1_3) rfl ?_
            refine XS.istoreN X0.here hx rfl (hb hby d1_4) rfl (l' := #[.val (.int i1), .val (.int (i1 &&& (63 : Int32)))]) rfl ?_
            refine XS.iloadN X0.here hx rfl (hb hby d1_5) rfl ?_
            refine XS.bipush X0.here hx rfl (hb hby d1_6) ?_
            refine XS.icmpYes X0.here hx rfl (pc0 := 8) (pc' := 17) rfl (hb hby d1_8) rfl (flt (cc1 : ¬ ((i1 &&& (63 : Int32)) < (26 : Int32)))).2.1 (by decide) (by decide) ?_
            refine XS.iloadN X0.here hx rfl (hb hby d1_17) rfl ?_
            refine XS.bipush X0.here hx rfl (hb hby d1_18) ?_
            refine XS.icmpYes X0.here hx rfl (pc0 := 20) (pc' := 32) rfl (hb hby d1_20) rfl (flt (cc2 : ¬ ((i1 &&& (63 : Int32)) < (52 : Int32)))).2.1 (by decide) (by decide) ?_
            refine XS.iloadN X0.here hx rfl (hb hby d1_32) rfl ?_
            refine XS.bipush X0.here hx rfl (hb hby d1_33) ?_
            show Steps p.tables e below (s₁.setTop (mkF m 35 #[.val (.int i1), .val (.int (i1 &&& (63 : Int32)))] [(.int (62 : Int32)), (.int (i1 &&& (63 : Int32)))])) _
            refine XS.icmpYes X0.here hx rfl (pc0 := 35) (pc' := 47) rfl (hb hby d1_35) rfl (flt (cc3 : ¬ ((i1 &&& (63 : Int32)) < (62 : Int32)))).2.1 (by decide) (by decide) ?_
            refine XS.iloadN X0.here hx rfl (hb hby d1_47) rfl ?_
            refine XS.bipush X0.here hx rfl (hb hby d1_48) ?_
            refine XS.icmpYes X0.here hx rfl (pc0 := 50) (pc' := 56) rfl (hb hby d1_50) rfl (feq (cc4 : ¬ ((i1 &&& (63 : Int32)) = (62 : Int32)))).2 (by decide) (by decide) ?_
            refine XS.bipush X0.here hx rfl (hb hby d1_56) ?_
            exact retN X0 hx (t := .char) hret (by simp) (hb hby d1_58) hr
theorem pd_0 : parseMethodDescriptor "(I)C" = some ⟨[.int], some .char⟩ := by decide +kernel
theorem w_3 {a0 : Array Value} {Z : State} (hw : ∀ d ∈ tables_1, d.before a0 Z = true) : Jvm.Cond.before (Jvm.Cond.initialized "com/example/bare_queue/barequeue/QueueNameOfPinLaw") a0 Z = true := hw _ (List.mem_of_getElem? (i := 3) rfl)
theorem w_4 {a0 : Array Value} {Z : State} (hw : ∀ d ∈ tables_1, d.before a0 Z = true) : Jvm.Cond.before (Jvm.Cond.code ({ cls := "com/example/bare_queue/barequeue/QueueNameOfPinLaw", name := "ch", desc := "(I)C" } : Jvm.MethodName) method_2_code (2 : Nat) (Option.some Jvm.ClassFile.FieldType.char)) a0 Z = true := hw _ (List.mem_of_getElem? (i := 4) rfl)
theorem w_1 {a0 : Array Value} {Z : State} (hw : ∀ d ∈ tables_1, d.before a0 Z = true) : Jvm.Cond.before (Jvm.Cond.methodLink "com/example/bare_queue/barequeue/QueueNameOfPinLaw" (9 : Nat) ({ cls := "com/example/bare_queue/barequeue/QueueNameOfPinLaw", name := "ch", desc := "(I)C" } : Jvm.MethodName)) a0 Z = true := hw _ (List.mem_of_getElem? (i := 1) rfl)
theorem w_2 {a0 : Array Value} {Z : State} (hw : ∀ d ∈ tables_1, d.before a0 Z = true) : Jvm.Cond.before (Jvm.Cond.static ({ cls := "com/example/bare_queue/barequeue/QueueNameOfPinLaw", name := "ch", desc := "(I)C" } : Jvm.MethodName)) a0 Z = true := hw _ (List.mem_of_getElem? (i := 2) rfl)
theorem w_5 {a0 : Array Value} {Z : State} (hw : ∀ d ∈ tables_1, d.before a0 Z = true) : Jvm.Cond.before (Jvm.Cond.classLink "com/example/bare_queue/barequeue/QueueNameOfPinLaw" (15 : Nat) "java/lang/String") a0 Z = true := hw _ (List.mem_of_getElem? (i := 5) rfl)
theorem d2_0 : decode jdk_42_method_3_code 0 = .ok (.aload_n 0, 1) := by decide +kernel
theorem d2_1 : decode jdk_42_method_3_code 1 = .ok (.aload_n 1, 1) := by decide +kernel
theorem d2_2 : decode jdk_42_method_3_code 2 = .ok (.iconst 0, 1) := by decide +kernel
theorem d2_3 : decode jdk_42_method_3_code 3 = .ok (.aload_n 1, 1) := by decide +kernel
theorem d2_4 : decode jdk_42_method_3_code 4 = .ok (.arraylength, 1) := by decide +kernel
theorem d2_5 : decode jdk_42_method_3_code 5 = .ok (.aconst_null, 1) := by decide +kernel
theorem d2_6 : decode jdk_42_method_3_code 6 = .ok (.invokespecial 27, 3) := by decide +kernel
theorem d3_0 : decode jdk_42_method_149_code 0 = .ok (.aload_n 0, 1) := by decide +kernel
theorem d3_1 : decode jdk_42_method_149_code 1 = .ok (.invokespecial 1, 3) := by decide +kernel
theorem w_15 {a0 : Array Value} {Z : State} (hw : ∀ d ∈ tables_1, d.before a0 Z = true) : Jvm.Cond.before (Jvm.Cond.methodLink "java/lang/String" (1 : Nat) ({ cls := "java/lang/Object", name := "<init>", desc := "()V" } : Jvm.MethodName)) a0 Z = true := hw _ (List.mem_of_getElem? (i := 15) rfl)
theorem w_16 {a0 : Array Value} {Z : State} (hw : ∀ d ∈ tables_1, d.before a0 Z = true) : Jvm.Cond.before (Jvm.Cond.instanceMethod ({ cls := "java/lang/Object", name := "<init>", desc := "()V" } : Jvm.MethodName)) a0 Z = true := hw _ (List.mem_of_getElem? (i := 16) rfl)
theorem w_17 {a0 : Array Value} {Z : State} (hw : ∀ d ∈ tables_1, d.before a0 Z = true) : Jvm.Cond.before (Jvm.Cond.code ({ cls := "java/lang/Object", name := "<init>", desc := "()V" } : Jvm.MethodName) object_method_1_code (1 : Nat) (Option.none : Option Jvm.ClassFile.FieldType)) a0 Z = true := hw _ (List.mem_of_getElem? (i := 17) rfl)
theorem d3_4 : decode jdk_42_method_149_code 4 = .ok (.iload_n 3, 1) := by decide +kernel
theorem d3_5 : decode jdk_42_method_149_code 5 = .ok (.ifCond .ne 22, 3) := by decide +kernel
theorem d3_27 : decode jdk_42_method_149_code 27 = .ok (.getstatic 38, 3) := by decide +kernel
theorem w_18 {a0 : Array Value} {Z : State} (hw : ∀ d ∈ tables_1, d.before a0 Z = true) : Jvm.Cond.before (Jvm.Cond.fieldLink "java/lang/String" (38 : Nat) "java/lang/String" "COMPACT_STRINGS" "Z") a0 Z = true := hw _ (List.mem_of_getElem? (i := 18) rfl)
theorem d3_30 : decode jdk_42_method_149_code 30 = .ok (.ifCond .eq 28, 3) := by decide +kernel
theorem d3_33 : decode jdk_42_method_149_code 33 = .ok (.aload_n 1, 1) := by decide +kernel
theorem d3_34 : decode jdk_42_method_149_code 34 = .ok (.iload_n 2, 1) := by decide +kernel
theorem d3_35 : decode jdk_42_method_149_code 35 = .ok (.iload_n 3, 1) := by decide +kernel
theorem d3_36 : decode jdk_42_method_149_code 36 = .ok (.invokestatic 177, 3) := by decide +kernel
theorem d5_0 : decode jdk_52_method_16_code 0 = .ok (.iload_n 2, 1) := by decide +kernel
theorem d5_1 : decode jdk_52_method_16_code 1 = .ok (.newarray .byte, 2) := by decide +kernel
theorem d5_3 : decode jdk_52_method_16_code 3 = .ok (.astore_n 3, 1) := by decide +kernel
theorem d5_4 : decode jdk_52_method_16_code 4 = .ok (.aload_n 0, 1) := by decide +kernel
theorem d5_5 : decode jdk_52_method_16_code 5 = .ok (.iload_n 1, 1) := by decide +kernel
theorem d5_6 : decode jdk_52_method_16_code 6 = .ok (.aload_n 3, 1) := by decide +kernel
theorem d5_7 : decode jdk_52_method_16_code 7 = .ok (.iconst 0, 1) := by decide +kernel
theorem d5_8 : decode jdk_52_method_16_code 8 = .ok (.iload_n 2, 1) := by decide +kernel
theorem d5_9 : decode jdk_52_method_16_code 9 = .ok (.invokestatic 115, 3) := by decide +kernel
theorem d6_0 : decode jdk_52_method_21_code 0 = .ok (.iconst 0, 1) := by decide +kernel
theorem d6_1 : decode jdk_52_method_21_code 1 = .ok (.istore 5, 2) := by decide +kernel
theorem d6_3 : decode jdk_52_method_21_code 3 = .ok (.iload 5, 2) := by decide +kernel
theorem d6_5 : decode jdk_52_method_21_code 5 = .ok (.iload 4, 2) := by decide +kernel
theorem d6_7 : decode jdk_52_method_21_code 7 = .ok (.if_icmp .ge 37, 3) := by decide +kernel
theorem d6_10 : decode jdk_52_method_21_code 10 = .ok (.aload_n 0, 1) := by decide +kernel
theorem d6_11 : decode jdk_52_method_21_code 11 = .ok (.iload_n 1, 1) := by decide +kernel
theorem d6_12 : decode jdk_52_method_21_code 12 = .ok (.caload, 1) := by decide +kernel
theorem d6_13 : decode jdk_52_method_21_code 13 = .ok (.istore 6, 2) := by decide +kernel
theorem d6_15 : decode jdk_52_method_21_code 15 = .ok (.iload 6, 2) := by decide +kernel
theorem d6_17 : decode jdk_52_method_21_code 17 = .ok (.sipush 255, 3) := by decide +kernel
theorem d6_20 : decode jdk_52_method_21_code 20 = .ok (.if_icmp .le 6, 3) := by decide +kernel
theorem d6_26 : decode jdk_52_method_21_code 26 = .ok (.aload_n 2, 1) := by decide +kernel
theorem d6_27 : decode jdk_52_method_21_code 27 = .ok (.iload_n 3, 1) := by decide +kernel
theorem d6_28 : decode jdk_52_method_21_code 28 = .ok (.iload 6, 2) := by decide +kernel
theorem d6_30 : decode jdk_52_method_21_code 30 = .ok (.i2b, 1) := by decide +kernel
theorem d6_31 : decode jdk_52_method_21_code 31 = .ok (.bastore, 1) := by decide +kernel
theorem d6_32 : decode jdk_52_method_21_code 32 = .ok (.iinc 1 1, 3) := by decide +kernel
theorem d6_35 : decode jdk_52_method_21_code 35 = .ok (.iinc 3 1, 3) := by decide +kernel
theorem d6_38 : decode jdk_52_method_21_code 38 = .ok (.iinc 5 1, 3) := by decide +kernel
theorem d6_41 : decode jdk_52_method_21_code 41 = .ok (.goto (-38), 3) := by decide +kernel
theorem d6_44 : decode jdk_52_method_21_code 44 = .ok (.iload 4, 2) := by decide +kernel
theorem d6_46 : decode jdk_52_method_21_code 46 = .ok (.ireturn, 1) := by decide +kernel
abbrev y_1 : MethodName := ⟨"java/lang/StringUTF16", "compress", "([CI[BII)I"⟩
theorem pn_1 : plainName "java/lang/StringUTF16" = true := by first | (simp [plainName, overriddenIn]; done) | decide +kernel
-- java/lang/StringUTF16.compress([CI[BII)I
abbrev Rm2 : Room := { frames := 0, cells := 0, slots := 0, locals := 0 }
def Q2 (Z : State) (a1 : Addr) (a2 : Addr) (i3 : Int32) (ck4 : ClassId) (ck6 : ClassId) (h0 : Heap) (n0 : Nat) (v : Option Value) (h : Heap) (L : List Loc) : Prop := v = some (.int (1 : Int32)) ∧ Fr n0 L ∧ Keep h0 h [a2] ∧ Exa Z h a2 "[B" ∧ Arv Z h a2 ck6 .byte (1 : Int32) [(.int (nar .byte (i3.toInt8.toInt32)))] (.int (0 : Int32))
theorem ef2 (a1 : Addr) (a2 : Addr) (m : MethodId) : entryFrame m #[(.ref a1), (.int (0 : Int32)), (.ref a2), (.int (0 : Int32)), (.int (1 : Int32))] 7 = mkF m 0 #[.val (.ref a1), .val (.int (0 : Int32)), .val (.ref a2), .val (.int (0 : Int32)), .val (.int (1 : Int32)), .unset, .unset] [] := by first | (simp [entryFrame, mkF, argsToLocals, Value.category]; done) | rfl
theorem rm2 (l : Launch) (Z : State) (a0 : Array Value) (hw : ∀ d ∈ tables_1, d.before a0 Z = true) (ws : List Jvm.Cond) (a1 : Addr) (a2 : Addr) (i3 : Int32) (ck4 : ClassId) (ck6 : ClassId) (h0 : Heap) (n0 : Nat) (Z0 : n0 ≤ h0.size) (V_a1 : Arv Z h0 a1 ck4 .char (1 : Int32) [(.int i3)] (.int (0 : Int32))) (c5 : ¬ ((255 : Int32) < i3)) (V_a2 : Arv Z h0 a2 ck6 .byte (1 : Int32) [(.int (0 : Int32))] (.int (0 : Int32))) (g_a2 : n0 ≤ a2) (E_a2 : Exa Z h0 a2 "[B") :
    OwnMet l Z y_1 jdk_52_method_21_code 7 (some .int) ws Rm2 #[(.ref a1), (.int (0 : Int32)), (.ref a2), (.int (0 : Int32)), (.int (1 : Int32))] h0 (Q2 Z a1 a2 i3 ck4 ck6 h0 n0) := by
  refine own_body (plainFor_of_name pn_1) (ef2 a1 a2) ?_
  intro p e s m below meth c s₁ hx hby hml hown hnm hret hZ X0 e0
  have N0 := Fr.nil n0
  obtain ⟨cl1, Ar1, q1, S1, M1, Hs1, G1⟩ := id V_a1
  have hin2 : ¬ ((0 : Int32) < 0 ∨ cl1.slots.size ≤ ((0 : Int32)).toNatClampNeg) := inb_of S1 ⟨(by decide : ¬ ((0 : Int32) < (0 : Int32))), (by decide : (0 : Int32) < (1 : Int32))⟩
  obtain ⟨cl3, Ar3, q3, S3, M3, Hs3, G3⟩ := id V_a2
  have hin4 : ¬ ((0 : Int32) < 0 ∨ cl3.slots.size ≤ ((0 : Int32)).toNatClampNeg) := inb_of S3 ⟨(by decide : ¬ ((0 : Int32) < (0 : Int32))), (by decide : (0 : Int32) < (1 : Int32))⟩
  obtain ⟨T5, h5, X5, e5, W5, st5⟩ := stB X0 hx hZ e0 Ar3 (j := (0 : Int32)) hin4 (g := (mkF m 31 #[.val (.ref a1), .val (.int (0 : Int32)), .val (.ref a2), .val (.int (0 : Int32)), .val (.int (1 : Int32)), .val (.int (0 : Int32)), .val (.int i3)] [(.int (i3.toInt8.toInt32)), (.int (0 : Int32)), (.ref a2)])) rfl rfl (hb hby d6_31)
  have s0 := (Keep.of_wr W5).1
  have N5 := Fr.snoc X5 N0 g_a2
  have Vs5 : Arv Z h5 a2 ck6 .byte (1 : Int32) [(.int (nar .byte (i3.toInt8.toInt32)))] (.int (0 : Int32)) := Arv.set Ar3 q3 S3 M3 Hs3 G3 (fits_nar_byte _) W5 0 rfl (Nat.le_of_ble_eq_true rfl)
  have Ex6 := (E_a2.wr W5)
  have Kp0 : Keep h0 h5 [a2] := (Keep.refl h0 [a2]).wr W5 (Or.inl (List.mem_of_getElem? (i := 0) rfl))
  refine ⟨T5, _, _, _, (some (.int (1 : Int32))), X5, nofun, by decide, by decide, ?_, fun fs hr => ?_⟩
  · show Q2 Z a1 a2 i3 ck4 ck6 h0 n0 _ T5.heap _
    rw [e5]
    exact ⟨rfl, N5, Kp0, Ex6, Vs5⟩
  · show Steps p.tables e below (s₁.setTop (mkF m 0 #[.val (.ref a1), .val (.int (0 : Int32)), .val (.ref a2), .val (.int (0 : Int32)), .val (.int (1 : Int32)), .unset, .unset] [])) _
    refine XS.iconst X0.here hx rfl (hb hby d6_0) ?_
    refine XS.istore X0.here hx rfl (hb hby d6_1) rfl (l' := #[.val (.ref a1), .val (.int (0 : Int32)), .val (.ref a2), .val (.int (0 : Int32)), .val (.int (1 : Int32)), .val (.int (0 : Int32)), .unset]) rfl ?_
    refine XS.iload X0.here hx rfl (hb hby d6_3) rfl ?_
    refine XS.iload X0.here hx rfl (hb hby d6_5) rfl ?_
    refine XS.icmpNo X0.here hx rfl (hb hby d6_7) rfl (tlt ((by decide : (0 : Int32) < (1 : Int32)) : (0 : Int32) < (1 : Int32))).2.1 ?_
    refine XS.aloadN X0.here hx rfl (hb hby d6_10) rfl rfl ?_
    refine XS.iloadN X0.here hx rfl (hb hby d6_11) rfl ?_
    refine X0.caload hx (j := (0 : Int32)) (v := (.int i3)) (by rw [e0]; exact Ar1.1) (State.isArrayOf_alike hZ.alike Ar1.2.1) Ar1.2.2 hin2 (Has.at Hs1 hin2 rfl) (g := (mkF m 12 #[.val (.ref a1), .val (.int (0 : Int32)), .val (.ref a2), .val (.int (0 : Int32)), .val (.int (1 : Int32)), .val (.int (0 : Int32)), .unset] [(.int (0 : Int32)), (.ref a1)])) rfl rfl (hb hby d6_12) _ ?_
    refine XS.istore X0.here hx rfl (hb hby d6_13) rfl (l' := #[.val (.ref a1), .val (.int (0 : Int32)), .val (.ref a2), .val (.int (0 : Int32)), .val (.int (1 : Int32)), .val (.int (0 : Int32)), .val (.int i3)]) rfl ?_
    refine XS.iload X0.here hx rfl (hb hby d6_15) rfl ?_
    refine XS.sipush X0.here hx rfl (hb hby d6_17) ?_
    refine XS.icmpYes X0.here hx rfl (pc0 := 20) (pc' := 26) rfl (hb hby d6_20) rfl (flt (c5 : ¬ ((255 : Int32) < i3))).2.2.2 (by decide) (by decide) ?_
    show Steps p.tables e below (s₁.setTop (mkF m 26 #[.val (.ref a1), .val (.int (0 : Int32)), .val (.ref a2), .val (.int (0 : Int32)), .val (.int (1 : Int32)), .val (.int (0 : Int32)), .val (.int i3)] [])) _
    refine XS.aloadN X0.here hx rfl (hb hby d6_26) rfl rfl ?_
    refine XS.iloadN X0.here hx rfl (hb hby d6_27) rfl ?_
    refine XS.iload X0.here hx rfl (hb hby d6_28) rfl ?_
    refine XS.i2b X0.here hx rfl (hb hby d6_30) rfl ?_
    refine st5 _ ?_
    refine XS.iinc X5.here hx rfl (hb hby d6_32) rfl (l' := #[.val (.ref a1), .val (.int (1 : Int32)), .val (.ref a2), .val (.int (0 : Int32)), .val (.int (1 : Int32)), .val (.int (0 : Int32)), .val (.int i3)]) rfl ?_
    refine XS.iinc X5.here hx rfl (hb hby d6_35) rfl (l' := #[.val (.ref a1), .val (.int (1 : Int32)), .val (.ref a2), .val (.int (1 : Int32)), .val (.int (1 : Int32)), .val (.int (0 : Int32)), .val (.int i3)]) rfl ?_
    refine XS.iinc X5.here hx rfl (hb hby d6_38) rfl (l' := #[.val (.ref a1), .val (.int (1 : Int32)), .val (.ref a2), .val (.int (1 : Int32)), .val (.int (1 : Int32)), .val (.int (1 : Int32)), .val (.int i3)]) rfl ?_
    refine XS.goto X5.here hx rfl (pc0 := 41) (pc' := 3) rfl (hb hby d6_41) (by decide) (by decide) ?_
    refine XS.iload X5.here hx rfl (hb hby d6_3) rfl ?_
    refine XS.iload X5.here hx rfl (hb hby d6_5) rfl ?_
    refine XS.icmpYes X5.here hx rfl (pc0 := 7) (pc' := 44) rfl (hb hby d6_7) rfl (flt ((by decide : ¬ ((1 : Int32) < (1 : Int32))) : ¬ ((1 : Int32) < (1 : Int32)))).2.1 (by decide) (by decide) ?_
    show Steps p.tables e below (T5.setTop (mkF m 44 #[.val (.ref a1), .val (.int (1 : Int32)), .val (.ref a2), .val (.int (1 : Int32)), .val (.int (1 : Int32)), .val (.int (1 : Int32)), .val (.int i3)] [])) _
    refine XS.iload X5.here hx rfl (hb hby d6_44) rfl ?_
    exact retI X5 hx hret (hb hby d6_46) hr
theorem pd_1 : parseMethodDescriptor "([CI[BII)I" = some ⟨[(.array .char), .int, (.array .byte), .int, .int], some .int⟩ := by decide +kernel
theorem w_21 {a0 : Array Value} {Z : State} (hw : ∀ d ∈ tables_1, d.before a0 Z = true) : Jvm.Cond.before (Jvm.Cond.initialized "java/lang/StringUTF16") a0 Z = true := hw _ (List.mem_of_getElem? (i := 21) rfl)
theorem w_26 {a0 : Array Value} {Z : State} (hw : ∀ d ∈ tables_1, d.before a0 Z = true) : Jvm.Cond.before (Jvm.Cond.code ({ cls := "java/lang/StringUTF16", name := "compress", desc := "([CI[BII)I" } : Jvm.MethodName) jdk_52_method_21_code (7 : Nat) (Option.some Jvm.ClassFile.FieldType.int)) a0 Z = true := hw _ (List.mem_of_getElem? (i := 26) rfl)
theorem w_24 {a0 : Array Value} {Z : State} (hw : ∀ d ∈ tables_1, d.before a0 Z = true) : Jvm.Cond.before (Jvm.Cond.methodLink "java/lang/StringUTF16" (115 : Nat) ({ cls := "java/lang/StringUTF16", name := "compress", desc := "([CI[BII)I" } : Jvm.MethodName)) a0 Z = true := hw _ (List.mem_of_getElem? (i := 24) rfl)
theorem w_25 {a0 : Array Value} {Z : State} (hw : ∀ d ∈ tables_1, d.before a0 Z = true) : Jvm.Cond.before (Jvm.Cond.static ({ cls := "java/lang/StringUTF16", name := "compress", desc := "([CI[BII)I" } : Jvm.MethodName)) a0 Z = true := hw _ (List.mem_of_getElem? (i := 25) rfl)
theorem d5_12 : decode jdk_52_method_16_code 12 = .ok (.istore 4, 2) := by decide +kernel
theorem d5_14 : decode jdk_52_method_16_code 14 = .ok (.iload 4, 2) := by decide +kernel
theorem d5_16 : decode jdk_52_method_16_code 16 = .ok (.iload_n 2, 1) := by decide +kernel
theorem d5_17 : decode jdk_52_method_16_code 17 = .ok (.if_icmp .eq 40, 3) := by decide +kernel
theorem d5_57 : decode jdk_52_method_16_code 57 = .ok (.aload_n 3, 1) := by decide +kernel
theorem d5_58 : decode jdk_52_method_16_code 58 = .ok (.areturn, 1) := by decide +kernel
abbrev y_2 : MethodName := ⟨"java/lang/StringUTF16", "compress", "([CII)[B"⟩
-- java/lang/StringUTF16.compress([CII)[B
abbrev Rm3 : Room := { frames := 1, cells := 1, slots := 1, locals := 18 }
def Q3 (Z : State) (a1 : Addr) (i2 : Int32) (ck3 : ClassId) (h0 : Heap) (n0 : Nat) (v : Option Value) (h : Heap) (L : List Loc) : Prop := ∃ b1 : Addr, ∃ k1 : ClassId, v = some (.ref b1) ∧ Fr n0 L ∧ Keep h0 h [] ∧ h0.size ≤ b1 ∧ Exa Z h b1 "[B" ∧ Arv Z h b1 k1 .byte (1 : Int32) [(.int (nar .byte (i2.toInt8.toInt32)))] (.int (0 : Int32))
theorem ef3 (a1 : Addr) (m : MethodId) : entryFrame m #[(.ref a1), (.int (0 : Int32)), (.int (1 : Int32))] 6 = mkF m 0 #[.val (.ref a1), .val (.int (0 : Int32)), .val (.int (1 : Int32)), .unset, .unset, .unset] [] := by first | (simp [entryFrame, mkF, argsToLocals, Value.category]; done) | rfl
theorem rm3 (l : Launch) (Z : State) (a0 : Array Value) (hw : ∀ d ∈ tables_1, d.before a0 Z = true) (ws : List Jvm.Cond) (a1 : Addr) (i2 : Int32) (ck3 : ClassId) (h0 : Heap) (n0 : Nat) (Z0 : n0 ≤ h0.size) (V_a1 : Arv Z h0 a1 ck3 .char (1 : Int32) [(.int i2)] (.int (0 : Int32))) (c4 : ¬ ((255 : Int32) < i2)) :
    OwnMet l Z y_2 jdk_52_method_16_code 6 (some (.array .byte)) ws Rm3 #[(.ref a1), (.int (0 : Int32)), (.int (1 : Int32))] h0 (Q3 Z a1 i2 ck3 h0 n0) := by
  refine own_body (plainFor_of_name pn_1) (ef3 a1) ?_
  intro p e s m below meth c s₁ hx hby hml hown hnm hret hZ X0 e0
  have N0 := Fr.nil n0
  obtain ⟨T1, h1, k1, X1, e1, E1, A1, B1, st1⟩ := newPE (aty := .byte) X0 hx hZ (w_23 hw) e0 (g := (mkF m 1 #[.val (.ref a1), .val (.int (0 : Int32)), .val (.int (1 : Int32)), .unset, .unset, .unset] [(.int (1 : Int32))])) rfl (hb hby d5_1) rfl (by decide) (cap := 1) (by decide) (by decide) (by decide) (by decide) (ad := "[B") (by decide)
  obtain ⟨b1, g1⟩ : ∃ z, z = h0.size := ⟨_, rfl⟩
  rw [← g1] at A1 B1 st1
  have s0 := E1.1
  have Vn1 : Arv Z h1 b1 k1 .byte (1 : Int32) [(.int (0 : Int32))] (.int (0 : Int32)) := (Arv.new A1 (by decide)).pad (pad_rep [] (.int (0 : Int32)) 1)
  have Va2 := (V_a1.ext E1)
  have g_b1 : n0 ≤ b1 := Nat.le_trans Z0 (Nat.le_of_eq g1.symm)
  have z1 := Nat.le_trans Z0 s0
  obtain ⟨_, T3, L3, X3, hQ3, st3⟩ := own_callS X1 hx hZ hown (y := y_1) (w_24 hw) (w_25 hw) (w_21 hw) (w_26 hw) (rm2 l Z a0 hw [] a1 b1 i2 ck3 k1 h1 n0 z1 Va2 c4 Vn1 g_b1 B1) e1 (Ls := #[.val (.ref a1), .val (.int (0 : Int32)), .val (.int (1 : Int32)), .val (.ref b1), .unset, .unset]) (by rw [hml]; rfl) (argsL := [(.ref a1), (.int (0 : Int32)), (.ref b1), (.int (0 : Int32)), (.int (1 : Int32))]) (rest := []) (lenOf pd_1 rfl) (hb hby d5_9) (W := 0)
  obtain ⟨rfl, Nq3, K3, o3_0, o3_1⟩ := hQ3
  have N3 := Fr.app N0 Nq3
  have s1 := K3.1
  have sz_b1 : h0.size ≤ b1 := (Nat.le_of_eq g1.symm)
  have Kp0 : Keep h0 h1 [] := (Keep.refl h0 []).ext E1
  have Kp1 : Keep h0 T3.heap [] := Kp0.trans K3 (allS (Or.inr sz_b1) all0)
  refine ⟨T3, _, _, _, (some (.ref b1)), X3, nofun, by decide, by decide, ?_, fun fs hr => ?_⟩
  · show Q3 Z a1 i2 ck3 h0 n0 _ T3.heap _
    exact ⟨b1, k1, rfl, N3, Kp1, sz_b1, o3_0, o3_1⟩
  · show Steps p.tables e below (s₁.setTop (mkF m 0 #[.val (.ref a1), .val (.int (0 : Int32)), .val (.int (1 : Int32)), .unset, .unset, .unset] [])) _
    refine XS.iloadN X0.here hx rfl (hb hby d5_0) rfl ?_
    refine st1 _ ?_
    refine XS.astoreN X1.here hx rfl (hb hby d5_3) rfl rfl (l' := #[.val (.ref a1), .val (.int (0 : Int32)), .val (.int (1 : Int32)), .val (.ref b1), .unset, .unset]) rfl ?_
    refine XS.aloadN X1.here hx rfl (hb hby d5_4) rfl rfl ?_
    refine XS.iloadN X1.here hx rfl (hb hby d5_5) rfl ?_
    refine XS.aloadN X1.here hx rfl (hb hby d5_6) rfl rfl ?_
    refine XS.iconst X1.here hx rfl (hb hby d5_7) ?_
    refine XS.iloadN X1.here hx rfl (hb hby d5_8) rfl ?_
    refine st3 _ ?_
    refine XS.istore X3.here hx rfl (hb hby d5_12) rfl (l' := #[.val (.ref a1), .val (.int (0 : Int32)), .val (.int (1 : Int32)), .val (.ref b1), .val (.int (1 : Int32)), .unset]) rfl ?_
    refine XS.iload X3.here hx rfl (hb hby d5_14) rfl ?_
    refine XS.iloadN X3.here hx rfl (hb hby d5_16) rfl ?_
    show Steps p.tables e below (T3.setTop (mkF m 17 #[.val (.ref a1), .val (.int (0 : Int32)), .val (.int (1 : Int32)), .val (.ref b1), .val (.int (1 : Int32)), .unset] [(.int (1 : Int32)), (.int (1 : Int32))])) _
    refine XS.icmpYes X3.here hx rfl (pc0 := 17) (pc' := 57) rfl (hb hby d5_17) rfl (teq ((by decide : (1 : Int32) = (1 : Int32)) : (1 : Int32) = (1 : Int32))).1 (by decide) (by decide) ?_
    refine XS.aloadN X3.here hx rfl (hb hby d5_57) rfl rfl ?_
    exact retOut X3 hx hret rfl (Or.inr (Or.inr (Or.inr (Or.inr ⟨rfl, rfl, rfl⟩)))) (hb hby d5_58) hr
theorem pd_2 : parseMethodDescriptor "([CII)[B" = some ⟨[(.array .char), .int, .int], some (.array .byte)⟩ := by decide +kernel
theorem w_22 {a0 : Array Value} {Z : State} (hw : ∀ d ∈ tables_1, d.before a0 Z = true) : Jvm.Cond.before (Jvm.Cond.code ({ cls := "java/lang/StringUTF16", name := "compress", desc := "([CII)[B" } : Jvm.MethodName) jdk_52_method_16_code (6 : Nat) (Option.some (Jvm.ClassFile.FieldType.array Jvm.ClassFile.FieldType.byte))) a0 Z = true := hw _ (List.mem_of_getElem? (i := 22) rfl)
theorem w_19 {a0 : Array Value} {Z : State} (hw : ∀ d ∈ tables_1, d.before a0 Z = true) : Jvm.Cond.before (Jvm.Cond.methodLink "java/lang/String" (177 : Nat) ({ cls := "java/lang/StringUTF16", name := "compress", desc := "([CII)[B" } : Jvm.MethodName)) a0 Z = true := hw _ (List.mem_of_getElem? (i := 19) rfl)
theorem w_20 {a0 : Array Value} {Z : State} (hw : ∀ d ∈ tables_1, d.before a0 Z = true) : Jvm.Cond.before (Jvm.Cond.static ({ cls := "java/lang/StringUTF16", name := "compress", desc := "([CII)[B" } : Jvm.MethodName)) a0 Z = true := hw _ (List.mem_of_getElem? (i := 20) rfl)
theorem d3_39 : decode jdk_42_method_149_code 39 = .ok (.astore 5, 2) := by decide +kernel
theorem d3_41 : decode jdk_42_method_149_code 41 = .ok (.aload_n 0, 1) := by decide +kernel
theorem d3_42 : decode jdk_42_method_149_code 42 = .ok (.aload 5, 2) := by decide +kernel
theorem d3_44 : decode jdk_42_method_149_code 44 = .ok (.iload_n 3, 1) := by decide +kernel
theorem d3_45 : decode jdk_42_method_149_code 45 = .ok (.invokestatic 47, 3) := by decide +kernel
theorem d7_0 : decode jdk_52_method_15_code 0 = .ok (.iload_n 1, 1) := by decide +kernel
theorem d7_1 : decode jdk_52_method_15_code 1 = .ok (.aload_n 0, 1) := by decide +kernel
theorem d7_2 : decode jdk_52_method_15_code 2 = .ok (.arraylength, 1) := by decide +kernel
theorem d7_3 : decode jdk_52_method_15_code 3 = .ok (.isub, 1) := by decide +kernel
theorem d7_4 : decode jdk_52_method_15_code 4 = .ok (.bipush 31, 2) := by decide +kernel
theorem d7_6 : decode jdk_52_method_15_code 6 = .ok (.iushr, 1) := by decide +kernel
theorem d7_7 : decode jdk_52_method_15_code 7 = .ok (.i2b, 1) := by decide +kernel
theorem d7_8 : decode jdk_52_method_15_code 8 = .ok (.ireturn, 1) := by decide +kernel
abbrev y_3 : MethodName := ⟨"java/lang/StringUTF16", "coderFromArrayLen", "([BI)B"⟩
-- java/lang/StringUTF16.coderFromArrayLen([BI)B
abbrev Rm4 : Room := { frames := 0, cells := 0, slots := 0, locals := 0 }
def Q4 (Z : State) (a1 : Addr) (i2 : Int32) (ck3 : ClassId) (h0 : Heap) (n0 : Nat) (v : Option Value) (h : Heap) (L : List Loc) : Prop := v = some (.int (0 : Int32)) ∧ Fr n0 L ∧ h = h0
theorem ef4 (a1 : Addr) (m : MethodId) : entryFrame m #[(.ref a1), (.int (1 : Int32))] 2 = mkF m 0 #[.val (.ref a1), .val (.int (1 : Int32))] [] := by first | (simp [entryFrame, mkF, argsToLocals, Value.category]; done) | rfl
theorem rm4 (l : Launch) (Z : State) (a0 : Array Value) (hw : ∀ d ∈ tables_1, d.before a0 Z = true) (ws : List Jvm.Cond) (a1 : Addr) (i2 : Int32) (ck3 : ClassId) (h0 : Heap) (n0 : Nat) (Z0 : n0 ≤ h0.size) (V_a1 : Arv Z h0 a1 ck3 .byte (1 : Int32) [(.int i2)] (.int (0 : Int32))) :
    OwnMet l Z y_3 jdk_52_method_15_code 2 (some .byte) ws Rm4 #[(.ref a1), (.int (1 : Int32))] h0 (Q4 Z a1 i2 ck3 h0 n0) := by
  refine own_body (plainFor_of_name pn_1) (ef4 a1) ?_
  intro p e s m below meth c s₁ hx hby hml hown hnm hret hZ X0 e0
  have N0 := Fr.nil n0
  obtain ⟨cl1, Ar1, q1, S1, M1, Hs1, G1⟩ := id V_a1
  refine ⟨s₁, _, _, _, (some (.int (0 : Int32))), X0, nofun, by decide, by decide, ?_, fun fs hr => ?_⟩
  · show Q4 Z a1 i2 ck3 h0 n0 _ s₁.heap _
    rw [e0]
    exact ⟨rfl, N0, rfl⟩
  · show Steps p.tables e below (s₁.setTop (mkF m 0 #[.val (.ref a1), .val (.int (1 : Int32))] [])) _
    refine XS.iloadN X0.here hx rfl (hb hby d7_0) rfl ?_
    refine XS.aloadN X0.here hx rfl (hb hby d7_1) rfl rfl ?_
    refine X0.arraylength hx (by rw [e0]; exact Ar1.1) (State.isArrayOf_alike hZ.alike Ar1.2.1) (g := (mkF m 2 #[.val (.ref a1), .val (.int (1 : Int32))] [(.ref a1), (.int (1 : Int32))])) rfl rfl (hb hby d7_2) _ ?_
    show Steps p.tables e below (s₁.setTop (mkF m 3 #[.val (.ref a1), .val (.int (1 : Int32))] [(.int cl1.slots.size.toInt32), (.int (1 : Int32))])) _
    rw [len_of S1 M1]
    refine XS.isub X0.here hx rfl (hb hby d7_3) rfl ?_
    refine XS.bipush X0.here hx rfl (hb hby d7_4) ?_
    refine XS.iushr X0.here hx rfl (hb hby d7_6) rfl ?_
    refine XS.i2b X0.here hx rfl (hb hby d7_7) rfl ?_
    exact retN X0 hx (t := .byte) hret (by simp) (hb hby d7_8) hr
theorem pd_3 : parseMethodDescriptor "([BI)B" = some ⟨[(.array .byte), .int], some .byte⟩ := by decide +kernel
theorem w_29 {a0 : Array Value} {Z : State} (hw : ∀ d ∈ tables_1, d.before a0 Z = true) : Jvm.Cond.before (Jvm.Cond.code ({ cls := "java/lang/StringUTF16", name := "coderFromArrayLen", desc := "([BI)B" } : Jvm.MethodName) jdk_52_method_15_code (2 : Nat) (Option.some Jvm.ClassFile.FieldType.byte)) a0 Z = true := hw _ (List.mem_of_getElem? (i := 29) rfl)
theorem w_27 {a0 : Array Value} {Z : State} (hw : ∀ d ∈ tables_1, d.before a0 Z = true) : Jvm.Cond.before (Jvm.Cond.methodLink "java/lang/String" (47 : Nat) ({ cls := "java/lang/StringUTF16", name := "coderFromArrayLen", desc := "([BI)B" } : Jvm.MethodName)) a0 Z = true := hw _ (List.mem_of_getElem? (i := 27) rfl)
theorem w_28 {a0 : Array Value} {Z : State} (hw : ∀ d ∈ tables_1, d.before a0 Z = true) : Jvm.Cond.before (Jvm.Cond.static ({ cls := "java/lang/StringUTF16", name := "coderFromArrayLen", desc := "([BI)B" } : Jvm.MethodName)) a0 Z = true := hw _ (List.mem_of_getElem? (i := 28) rfl)
theorem d3_48 : decode jdk_42_method_149_code 48 = .ok (.putfield 15, 3) := by decide +kernel
theorem w_30 {a0 : Array Value} {Z : State} (hw : ∀ d ∈ tables_1, d.before a0 Z = true) : Jvm.Cond.before (Jvm.Cond.fieldLink "java/lang/String" (15 : Nat) "java/lang/String" "coder" "B") a0 Z = true := hw _ (List.mem_of_getElem? (i := 30) rfl)
theorem d3_51 : decode jdk_42_method_149_code 51 = .ok (.aload_n 0, 1) := by decide +kernel
theorem d3_52 : decode jdk_42_method_149_code 52 = .ok (.aload 5, 2) := by decide +kernel
theorem d3_54 : decode jdk_42_method_149_code 54 = .ok (.putfield 9, 3) := by decide +kernel
theorem w_32 {a0 : Array Value} {Z : State} (hw : ∀ d ∈ tables_1, d.before a0 Z = true) : Jvm.Cond.before (Jvm.Cond.fieldLink "java/lang/String" (9 : Nat) "java/lang/String" "value" "[B") a0 Z = true := hw _ (List.mem_of_getElem? (i := 32) rfl)
theorem d3_57 : decode jdk_42_method_149_code 57 = .ok (.return_, 1) := by decide +kernel
abbrev y_4 : MethodName := ⟨"java/lang/String", "<init>", "([CIILjava/lang/Void;)V"⟩
theorem pn_2 : plainName "java/lang/String" = true := by first | (simp [plainName, overriddenIn]; done) | decide +kernel
-- java/lang/String.<init>([CIILjava/lang/Void;)V
abbrev Rm5 : Room := { frames := 2, cells := 1, slots := 1, locals := 35 }
def Q5 (Z : State) (a1 : Addr) (a2 : Addr) (i3 : Int32) (i5 : Int32) (ck6 : ClassId) (h0 : Heap) (n0 : Nat) (v : Option Value) (h : Heap) (L : List Loc) : Prop := ∃ b3_b1 : Addr, ∃ k3_k1 : ClassId, v = none ∧ Fr n0 L ∧ Keep h0 h [a1] ∧ Exa Z h a1 "java/lang/String" ∧ Fld Z h a1 "java/lang/String" "coder" "B" (.int (0 : Int32)) ∧ Fld Z h a1 "java/lang/String" "value" "[B" (.ref b3_b1) ∧ h0.size ≤ b3_b1 ∧ Exa Z h b3_b1 "[B" ∧ Arv Z h b3_b1 k3_k1 .byte (1 : Int32) [(.int (nar .byte (i5.toInt8.toInt32)))] (.int (0 : Int32))
theorem ef5 (a1 : Addr) (a2 : Addr) (m : MethodId) : entryFrame m #[(.ref a1), (.ref a2), (.int (0 : Int32)), (.int (1 : Int32)), .null] 6 = mkF m 0 #[.val (.ref a1), .val (.ref a2), .val (.int (0 : Int32)), .val (.int (1 : Int32)), .val .null, .unset] [] := by first | (simp [entryFrame, mkF, argsToLocals, Value.category]; done) | rfl
theorem rm5 (l : Launch) (Z : State) (a0 : Array Value) (hw : ∀ d ∈ tables_1, d.before a0 Z = true) (ws : List Jvm.Cond) (a1 : Addr) (a2 : Addr) (i3 : Int32) (i5 : Int32) (ck6 : ClassId) (h0 : Heap) (n0 : Nat) (Z0 : n0 ≤ h0.size) (S_COMPACT_STRINGS : Sta Z Z.heap "java/lang/String" "COMPACT_STRINGS" "Z" (.int i3)) (Od0 : Old Z n0 h0) (c4 : ¬ (i3 = (0 : Int32))) (V_a2 : Arv Z h0 a2 ck6 .char (1 : Int32) [(.int i5)] (.int (0 : Int32))) (c7 : ¬ ((255 : Int32) < i5)) (F_coder_a1 : Fld Z h0 a1 "java/lang/String" "coder" "B" (.int (0 : Int32))) (E_a1 : Exa Z h0 a1 "java/lang/String") (g_a1 : n0 ≤ a1) (F_value_a1 : Fld Z h0 a1 "java/lang/String" "value" "[B" .null) :
    OwnMet l Z y_4 jdk_42_method_149_code 6 none ws Rm5 #[(.ref a1), (.ref a2), (.int (0 : Int32)), (.int (1 : Int32)), .null] h0 (Q5 Z a1 a2 i3 i5 ck6 h0 n0) := by
  refine own_body (plainFor_of_name pn_2) (ef5 a1 a2) ?_
  intro p e s m below meth c s₁ hx hby hml hown hnm hret hZ X0 e0
  have N0 := Fr.nil n0
  obtain ⟨T1, X1, e1, st1⟩ := initO X0 hx hZ hown (w_15 hw) (w_16 hw) (w_17 hw) e0 (g := (mkF m 1 #[.val (.ref a1), .val (.ref a2), .val (.int (0 : Int32)), .val (.int (1 : Int32)), .val .null, .unset] [(.ref a1)])) rfl (by rw [hml]; rfl) rfl (hb hby d3_1) (by decide) (W := 0) (by show 2 * 0 + _ ≤ _; exact Nat.le_of_eq rfl) (by decide)
  obtain ⟨T2, X2, e2, st2⟩ := getS2 X1 hx hZ hown (host := "") (Or.inl (w_18 hw)) Via.refl e1 (S_COMPACT_STRINGS.ext Od0.2) (g := (mkF m 27 #[.val (.ref a1), .val (.ref a2), .val (.int (0 : Int32)), .val (.int (1 : Int32)), .val .null, .unset] [])) rfl (hb hby d3_27)
  obtain ⟨_, T3, L3, X3, hQ3, st3⟩ := own_callS X2 hx hZ hown (y := y_2) (w_19 hw) (w_20 hw) (w_21 hw) (w_22 hw) (rm3 l Z a0 hw [] a2 i5 ck6 h0 n0 Z0 V_a2 c7) e2 (Ls := #[.val (.ref a1), .val (.ref a2), .val (.int (0 : Int32)), .val (.int (1 : Int32)), .val .null, .unset]) (by rw [hml]; rfl) (argsL := [(.ref a2), (.int (0 : Int32)), (.int (1 : Int32))]) (rest := []) (lenOf pd_2 rfl) (hb hby d3_36) (W := 0)
  obtain ⟨b3_b1, k3_k1, rfl, Nq3, K3, o3_0, o3_1, o3_2⟩ := hQ3
  have N3 := Fr.app N0 Nq3
  have s0 := K3.1
  have z1 := Nat.le_trans Z0 s0
  obtain ⟨_, T4, L4, X4, hQ4, st4⟩ := own_callS X3 hx hZ hown (y := y_3) (w_27 hw) (w_28 hw) (w_21 hw) (w_29 hw) (rm4 l Z a0 hw [] b3_b1 (nar .byte (i5.toInt8.toInt32)) k3_k1 T3.heap n0 z1 o3_2) rfl (Ls := #[.val (.ref a1), .val (.ref a2), .val (.int (0 : Int32)), .val (.int (1 : Int32)), .val .null, .val (.ref b3_b1)]) (by rw [hml]; rfl) (argsL := [(.ref b3_b1), (.int (1 : Int32))]) (rest := [(.ref a1)]) (lenOf pd_3 rfl) (hb hby d3_45) (W := 1)
  obtain ⟨rfl, Nq4, e4⟩ := hQ4
  have N4 := Fr.app N3 Nq4
  have Fl5 := (F_coder_a1.keep K3 nin0)
  have Ex6 := (E_a1.keep K3)
  obtain ⟨T7, h7, X7, e7, W7, st7⟩ := putFN X4 hx hZ hown (w_30 hw) Via.refl e4 Fl5 Ex6 (Or.inr ⟨(w_31 hw), rfl, hnm⟩) (w_6 hw) (ty := .byte) (v' := (.int (nar .byte (0 : Int32)))) (by decide) rfl (fits_nar_byte _) (g := (mkF m 48 #[.val (.ref a1), .val (.ref a2), .val (.int (0 : Int32)), .val (.int (1 : Int32)), .val .null, .val (.ref b3_b1)] [(.int (0 : Int32)), (.ref a1)])) rfl rfl (hb hby d3_48)
  have s1 := (Keep.of_wr W7).1
  have N7 := Fr.snoc X7 N4 g_a1
  have Fw7 : Fld Z h7 a1 "java/lang/String" "coder" "B" (.int (0 : Int32)) := Fl5.same W7
  have Ex8 := (Ex6.wr W7)
  have Fl9 := ((F_value_a1.keep K3 nin0).other W7 (Or.inr (slot_ne (Or.inr (w_33 hw)) (Or.inr (w_31 hw)) (by decide) (t := (.array .byte)) (t' := .byte) (by decide) (by decide))))
  obtain ⟨T10, h10, X10, e10, W10, st10⟩ := putF X7 hx hZ hown (host := "") (Or.inl (w_32 hw)) Via.refl e7 Fl9 Ex8 (Or.inr ⟨(w_33 hw), rfl, hnm⟩) (w_6 hw) (ty := (.array .byte)) (by decide) rfl rfl (g := (mkF m 54 #[.val (.ref a1), .val (.ref a2), .val (.int (0 : Int32)), .val (.int (1 : Int32)), .val .null, .val (.ref b3_b1)] [(.ref b3_b1), (.ref a1)])) rfl rfl (hb hby d3_54)
  have s2 := (Keep.of_wr W10).1
  have N10 := Fr.snoc X10 N7 g_a1
  have Fw10 : Fld Z h10 a1 "java/lang/String" "value" "[B" (.ref b3_b1) := Fl9.same W10
  have Ex11 := (Ex8.wr W10)
  have Fl12 := (Fw7.other W10 (Or.inr (slot_ne (Or.inr (w_31 hw)) (Or.inr (w_33 hw)) (by decide) (t := .byte) (t' := (.array .byte)) (by decide) (by decide))))
  have sz_b3_b1 : h0.size ≤ b3_b1 := o3_0
  have Ex13 := ((o3_1.wr W7).wr W10)
  have ne_a1_b3_b1 := Nat.ne_of_lt (Nat.lt_of_lt_of_le F_value_a1.lt o3_0)
  have Va14 := ((o3_2.other W7 (Ne.symm ne_a1_b3_b1)).other W10 (Ne.symm ne_a1_b3_b1))
  have Kp0 : Keep h0 T3.heap [a1] := (Keep.refl h0 [a1]).trans K3 all0
  have Kp1 : Keep h0 h7 [a1] := Kp0.wr W7 (Or.inl (List.mem_of_getElem? (i := 0) rfl))
  have Kp2 : Keep h0 h10 [a1] := Kp1.wr W10 (Or.inl (List.mem_of_getElem? (i := 0) rfl))
  refine ⟨T10, _, _, _, none, X10, (fun _ => rfl), by decide, by decide, ?_, fun fs hr => ?_⟩
  · show Q5 Z a1 a2 i3 i5 ck6 h0 n0 _ T10.heap _
    rw [e10]
    exact ⟨b3_b1, k3_k1, rfl, N10, Kp2, Ex11, Fl12, Fw10, sz_b3_b1, Ex13, Va14⟩
  · show Steps p.tables e below (s₁.setTop (mkF m 0 #[.val (.ref a1), .val (.ref a2), .val (.int (0 : Int32)), .val (.int (1 : Int32)), .val .null, .unset] [])) _
    refine XS.aloadN X0.here hx rfl (hb hby d3_0) rfl rfl ?_
    refine st1 _ ?_
    refine XS.iloadN X1.here hx rfl (hb hby d3_4) rfl ?_
    refine XS.ifYes X1.here hx rfl (pc0 := 5) (pc' := 27) rfl (hb hby d3_5) rfl ((if0 _ _).trans (feq ((by decide : ¬ ((1 : Int32) = (0 : Int32))) : ¬ ((1 : Int32) = (0 : Int32)))).2) (by decide) (by decide) ?_
    refine st2 _ ?_
    refine XS.ifNo X2.here hx rfl (hb hby d3_30) rfl ((if0 _ _).trans (feq (c4 : ¬ (i3 = (0 : Int32)))).1) ?_
    refine XS.aloadN X2.here hx rfl (hb hby d3_33) rfl rfl ?_
    refine XS.iloadN X2.here hx rfl (hb hby d3_34) rfl ?_
    refine XS.iloadN X2.here hx rfl (hb hby d3_35) rfl ?_
    refine st3 _ ?_
    refine XS.astore X3.here hx rfl (hb hby d3_39) rfl rfl (l' := #[.val (.ref a1), .val (.ref a2), .val (.int (0 : Int32)), .val (.int (1 : Int32)), .val .null, .val (.ref b3_b1)]) rfl ?_
    refine XS.aloadN X3.here hx rfl (hb hby d3_41) rfl rfl ?_
    show Steps p.tables e below (T3.setTop (mkF m 42 #[.val (.ref a1), .val (.ref a2), .val (.int (0 : Int32)), .val (.int (1 : Int32)), .val .null, .val (.ref b3_b1)] [(.ref a1)])) _
    refine XS.aload X3.here hx rfl (hb hby d3_42) rfl rfl ?_
    refine XS.iloadN X3.here hx rfl (hb hby d3_44) rfl ?_
    refine st4 _ ?_
    refine st7 _ ?_
    refine XS.aloadN X7.here hx rfl (hb hby d3_51) rfl rfl ?_
    refine XS.aload X7.here hx rfl (hb hby d3_52) rfl rfl ?_
    refine st10 _ ?_
    exact X10.returnOut hx hret (hb hby d3_57) hr
theorem pd_4 : parseMethodDescriptor "([CIILjava/lang/Void;)V" = some ⟨[(.array .char), .int, .int, (.object "java/lang/Void")], none⟩ := by decide +kernel
theorem w_14 {a0 : Array Value} {Z : State} (hw : ∀ d ∈ tables_1, d.before a0 Z = true) : Jvm.Cond.before (Jvm.Cond.code ({ cls := "java/lang/String", name := "<init>", desc := "([CIILjava/lang/Void;)V" } : Jvm.MethodName) jdk_42_method_149_code (6 : Nat) (Option.none : Option Jvm.ClassFile.FieldType)) a0 Z = true := hw _ (List.mem_of_getElem? (i := 14) rfl)
theorem w_11 {a0 : Array Value} {Z : State} (hw : ∀ d ∈ tables_1, d.before a0 Z = true) : Jvm.Cond.before (Jvm.Cond.methodLink "java/lang/String" (27 : Nat) ({ cls := "java/lang/String", name := "<init>", desc := "([CIILjava/lang/Void;)V" } : Jvm.MethodName)) a0 Z = true := hw _ (List.mem_of_getElem? (i := 11) rfl)
theorem w_12 {a0 : Array Value} {Z : State} (hw : ∀ d ∈ tables_1, d.before a0 Z = true) : Jvm.Cond.before (Jvm.Cond.instanceMethod ({ cls := "java/lang/String", name := "<init>", desc := "([CIILjava/lang/Void;)V" } : Jvm.MethodName)) a0 Z = true := hw _ (List.mem_of_getElem? (i := 12) rfl)
theorem d2_9 : decode jdk_42_method_3_code 9 = .ok (.return_, 1) := by decide +kernel
abbrev y_5 : MethodName := ⟨"java/lang/String", "<init>", "([C)V"⟩
-- java/lang/String.<init>([C)V
abbrev Rm6 : Room := { frames := 3, cells := 1, slots := 1, locals := 52 }
def Q6 (Z : State) (a1 : Addr) (a2 : Addr) (i3 : Int32) (ck4 : ClassId) (i5 : Int32) (h0 : Heap) (n0 : Nat) (v : Option Value) (h : Heap) (L : List Loc) : Prop := ∃ b2_b3_b1 : Addr, ∃ k2_k3_k1 : ClassId, v = none ∧ Fr n0 L ∧ Keep h0 h [a1] ∧ Exa Z h a1 "java/lang/String" ∧ Fld Z h a1 "java/lang/String" "coder" "B" (.int (0 : Int32)) ∧ Fld Z h a1 "java/lang/String" "value" "[B" (.ref b2_b3_b1) ∧ h0.size ≤ b2_b3_b1 ∧ Exa Z h b2_b3_b1 "[B" ∧ Arv Z h b2_b3_b1 k2_k3_k1 .byte (1 : Int32) [(.int (nar .byte (i3.toInt8.toInt32)))] (.int (0 : Int32))
theorem ef6 (a1 : Addr) (a2 : Addr) (m : MethodId) : entryFrame m #[(.ref a1), (.ref a2)] 2 = mkF m 0 #[.val (.ref a1), .val (.ref a2)] [] := by first | (simp [entryFrame, mkF, argsToLocals, Value.category]; done) | rfl
theorem rm6 (l : Launch) (Z : State) (a0 : Array Value) (hw : ∀ d ∈ tables_1, d.before a0 Z = true) (ws : List Jvm.Cond) (a1 : Addr) (a2 : Addr) (i3 : Int32) (ck4 : ClassId) (i5 : Int32) (h0 : Heap) (n0 : Nat) (Z0 : n0 ≤ h0.size) (V_a2 : Arv Z h0 a2 ck4 .char (1 : Int32) [(.int i3)] (.int (0 : Int32))) (S_COMPACT_STRINGS : Sta Z Z.heap "java/lang/String" "COMPACT_STRINGS" "Z" (.int i5)) (Od0 : Old Z n0 h0) (c6 : ¬ (i5 = (0 : Int32))) (c7 : ¬ ((255 : Int32) < i3)) (F_coder_a1 : Fld Z h0 a1 "java/lang/String" "coder" "B" (.int (0 : Int32))) (E_a1 : Exa Z h0 a1 "java/lang/String") (g_a1 : n0 ≤ a1) (F_value_a1 : Fld Z h0 a1 "java/lang/String" "value" "[B" .null) :
    OwnMet l Z y_5 jdk_42_method_3_code 2 none ws Rm6 #[(.ref a1), (.ref a2)] h0 (Q6 Z a1 a2 i3 ck4 i5 h0 n0) := by
  refine own_body (plainFor_of_name pn_2) (ef6 a1 a2) ?_
  intro p e s m below meth c s₁ hx hby hml hown hnm hret hZ X0 e0
  have N0 := Fr.nil n0
  obtain ⟨cl1, Ar1, q1, S1, M1, Hs1, G1⟩ := id V_a2
  obtain ⟨_, T2, L2, X2, hQ2, st2⟩ := own_special X0 hx hZ hown (y := y_4) (a := a1) (w_11 hw) (w_12 hw) (w_7 hw) (w_14 hw) (rm5 l Z a0 hw [] a1 a2 i5 i3 ck4 h0 n0 Z0 S_COMPACT_STRINGS Od0 c6 V_a2 c7 F_coder_a1 E_a1 g_a1 F_value_a1) e0 (Ls := #[.val (.ref a1), .val (.ref a2)]) (by rw [hml]; rfl) (argsL := [(.ref a2), (.int (0 : Int32)), (.int (1 : Int32)), .null]) (rest := []) (lenOf pd_4 rfl) (hb hby d2_6) (W := 0)
  obtain ⟨b2_b3_b1, k2_k3_k1, rfl, Nq2, K2, o2_0, o2_1, o2_2, o2_3, o2_4, o2_5⟩ := hQ2
  have N2 := Fr.app N0 Nq2
  have s0 := K2.1
  have sz_b2_b3_b1 : h0.size ≤ b2_b3_b1 := o2_3
  have Kp0 : Keep h0 T2.heap [a1] := (Keep.refl h0 [a1]).trans K2 (allS (Or.inl (List.mem_of_getElem? (i := 0) rfl)) all0)
  refine ⟨T2, _, _, _, none, X2, (fun _ => rfl), by decide, by decide, ?_, fun fs hr => ?_⟩
  · show Q6 Z a1 a2 i3 ck4 i5 h0 n0 _ T2.heap _
    exact ⟨b2_b3_b1, k2_k3_k1, rfl, N2, Kp0, o2_0, o2_1, o2_2, sz_b2_b3_b1, o2_4, o2_5⟩
  · show Steps p.tables e below (s₁.setTop (mkF m 0 #[.val (.ref a1), .val (.ref a2)] [])) _
    refine XS.aloadN X0.here hx rfl (hb hby d2_0) rfl rfl ?_
    refine XS.aloadN X0.here hx rfl (hb hby d2_1) rfl rfl ?_
    refine XS.iconst X0.here hx rfl (hb hby d2_2) ?_
    refine XS.aloadN X0.here hx rfl (hb hby d2_3) rfl rfl ?_
    refine X0.arraylength hx (by rw [e0]; exact Ar1.1) (State.isArrayOf_alike hZ.alike Ar1.2.1) (g := (mkF m 4 #[.val (.ref a1), .val (.ref a2)] [(.ref a2), (.int (0 : Int32)), (.ref a2), (.ref a1)])) rfl rfl (hb hby d2_4) _ ?_
    show Steps p.tables e below (s₁.setTop (mkF m 5 #[.val (.ref a1), .val (.ref a2)] [(.int cl1.slots.size.toInt32), (.int (0 : Int32)), (.ref a2), (.ref a1)])) _
    rw [len_of S1 M1]
    refine XS.aconstNull X0.here hx rfl (hb hby d2_5) ?_
    refine st2 _ ?_
    exact X2.returnOut hx hret (hb hby d2_9) hr
theorem pd_5 : parseMethodDescriptor "([C)V" = some ⟨[(.array .char)], none⟩ := by decide +kernel
theorem w_10 {a0 : Array Value} {Z : State} (hw : ∀ d ∈ tables_1, d.before a0 Z = true) : Jvm.Cond.before (Jvm.Cond.code ({ cls := "java/lang/String", name := "<init>", desc := "([C)V" } : Jvm.MethodName) jdk_42_method_3_code (2 : Nat) (Option.none : Option Jvm.ClassFile.FieldType)) a0 Z = true := hw _ (List.mem_of_getElem? (i := 10) rfl)
theorem w_8 {a0 : Array Value} {Z : State} (hw : ∀ d ∈ tables_1, d.before a0 Z = true) : Jvm.Cond.before (Jvm.Cond.methodLink "com/example/bare_queue/barequeue/QueueNameOfPinLaw" (17 : Nat) ({ cls := "java/lang/String", name := "<init>", desc := "([C)V" } : Jvm.MethodName)) a0 Z = true := hw _ (List.mem_of_getElem? (i := 8) rfl)
theorem w_9 {a0 : Array Value} {Z : State} (hw : ∀ d ∈ tables_1, d.before a0 Z = true) : Jvm.Cond.before (Jvm.Cond.instanceMethod ({ cls := "java/lang/String", name := "<init>", desc := "([C)V" } : Jvm.MethodName)) a0 Z = true := hw _ (List.mem_of_getElem? (i := 9) rfl)
theorem d8_0 : decode prog_12_method_2_code 0 = .ok (.aload_n 0, 1) := by decide +kernel
theorem d8_1 : decode prog_12_method_2_code 1 = .ok (.ifnull 10, 3) := by decide +kernel
theorem d8_4 : decode prog_12_method_2_code 4 = .ok (.aload_n 0, 1) := by decide +kernel
theorem d8_5 : decode prog_12_method_2_code 5 = .ok (.invokevirtual 13, 3) := by decide +kernel
theorem d9_0 : decode jdk_42_method_55_code 0 = .ok (.aload_n 0, 1) := by decide +kernel
theorem d9_1 : decode jdk_42_method_55_code 1 = .ok (.getfield 9, 3) := by decide +kernel
theorem d9_4 : decode jdk_42_method_55_code 4 = .ok (.arraylength, 1) := by decide +kernel
theorem d9_5 : decode jdk_42_method_55_code 5 = .ok (.ifCond .ne 7, 3) := by decide +kernel
theorem d9_12 : decode jdk_42_method_55_code 12 = .ok (.iconst 0, 1) := by decide +kernel
theorem d9_13 : decode jdk_42_method_55_code 13 = .ok (.ireturn, 1) := by decide +kernel
abbrev y_6 : MethodName := ⟨"java/lang/String", "isEmpty", "()Z"⟩
-- java/lang/String.isEmpty()Z
abbrev Rm7 : Room := { frames := 0, cells := 0, slots := 0, locals := 0 }
def Q7 (Z : State) (a1 : Addr) (a2 : Addr) (i3 : Int32) (ck4 : ClassId) (h0 : Heap) (n0 : Nat) (v : Option Value) (h : Heap) (L : List Loc) : Prop := v = some (.int (0 : Int32)) ∧ Fr n0 L ∧ h = h0
theorem ef7 (a1 : Addr) (m : MethodId) : entryFrame m #[(.ref a1)] 1 = mkF m 0 #[.val (.ref a1)] [] := by first | (simp [entryFrame, mkF, argsToLocals, Value.category]; done) | rfl
theorem rm7 (l : Launch) (Z : State) (a0 : Array Value) (hw : ∀ d ∈ tables_1, d.before a0 Z = true) (ws : List Jvm.Cond) (a1 : Addr) (a2 : Addr) (i3 : Int32) (ck4 : ClassId) (h0 : Heap) (n0 : Nat) (Z0 : n0 ≤ h0.size) (F_value_a1 : Fld Z h0 a1 "java/lang/String" "value" "[B" (.ref a2)) (V_a2 : Arv Z h0 a2 ck4 .byte (1 : Int32) [(.int i3)] (.int (0 : Int32))) :
    OwnMet l Z y_6 jdk_42_method_55_code 1 (some .boolean) ws Rm7 #[(.ref a1)] h0 (Q7 Z a1 a2 i3 ck4 h0 n0) := by
  refine own_body (plainFor_of_name pn_2) (ef7 a1) ?_
  intro p e s m below meth c s₁ hx hby hml hown hnm hret hZ X0 e0
  have N0 := Fr.nil n0
  obtain ⟨T1, X1, e1, st1⟩ := getF X0 hx hZ hown (host := "") (Or.inl (w_32 hw)) Via.refl e0 F_value_a1 (g := (mkF m 1 #[.val (.ref a1)] [(.ref a1)])) rfl rfl (hb hby d9_1)
  obtain ⟨cl2, Ar2, q2, S2, M2, Hs2, G2⟩ := id V_a2
  refine ⟨T1, _, _, _, (some (.int (0 : Int32))), X1, nofun, by decide, by decide, ?_, fun fs hr => ?_⟩
  · show Q7 Z a1 a2 i3 ck4 h0 n0 _ T1.heap _
    rw [e1]
    exact ⟨rfl, N0, rfl⟩
  · show Steps p.tables e below (s₁.setTop (mkF m 0 #[.val (.ref a1)] [])) _
    refine XS.aloadN X0.here hx rfl (hb hby d9_0) rfl rfl ?_
    refine st1 _ ?_
    refine X1.arraylength hx (by rw [e1]; exact Ar2.1) (State.isArrayOf_alike hZ.alike Ar2.2.1) (g := (mkF m 4 #[.val (.ref a1)] [(.ref a2)])) rfl rfl (hb hby d9_4) _ ?_
    show Steps p.tables e below (T1.setTop (mkF m 5 #[.val (.ref a1)] [(.int cl2.slots.size.toInt32)])) _
    rw [len_of S2 M2]
    refine XS.ifYes X1.here hx rfl (pc0 := 5) (pc' := 12) rfl (hb hby d9_5) rfl ((if0 _ _).trans (feq ((by decide : ¬ ((1 : Int32) = (0 : Int32))) : ¬ ((1 : Int32) = (0 : Int32)))).2) (by decide) (by decide) ?_
    refine XS.iconst X1.here hx rfl (hb hby d9_12) ?_
    exact retN X1 hx (t := .boolean) hret (by simp) (hb hby d9_13) hr
theorem pd_6 : parseMethodDescriptor "()Z" = some ⟨[], some .boolean⟩ := by decide +kernel
theorem w_42 {a0 : Array Value} {Z : State} (hw : ∀ d ∈ tables_1, d.before a0 Z = true) : Jvm.Cond.before (Jvm.Cond.code ({ cls := "java/lang/String", name := "isEmpty", desc := "()Z" } : Jvm.MethodName) jdk_42_method_55_code (1 : Nat) (Option.some Jvm.ClassFile.FieldType.boolean)) a0 Z = true := hw _ (List.mem_of_getElem? (i := 42) rfl)
theorem w_38 {a0 : Array Value} {Z : State} (hw : ∀ d ∈ tables_1, d.before a0 Z = true) : Jvm.Cond.before (Jvm.Cond.methodLink "com/example/bare_queue/barequeue/QueueName" (13 : Nat) ({ cls := "java/lang/String", name := "isEmpty", desc := "()Z" } : Jvm.MethodName)) a0 Z = true := hw _ (List.mem_of_getElem? (i := 38) rfl)
theorem w_41 {a0 : Array Value} {Z : State} (hw : ∀ d ∈ tables_1, d.before a0 Z = true) : Jvm.Cond.before (Jvm.Cond.selects "java/lang/String" ({ cls := "java/lang/String", name := "isEmpty", desc := "()Z" } : Jvm.MethodName) ({ cls := "java/lang/String", name := "isEmpty", desc := "()Z" } : Jvm.MethodName)) a0 Z = true := hw _ (List.mem_of_getElem? (i := 41) rfl)
theorem w_39 {a0 : Array Value} {Z : State} (hw : ∀ d ∈ tables_1, d.before a0 Z = true) : Jvm.Cond.before (Jvm.Cond.declares ({ cls := "java/lang/String", name := "isEmpty", desc := "()Z" } : Jvm.MethodName)) a0 Z = true := hw _ (List.mem_of_getElem? (i := 39) rfl)
theorem w_40 {a0 : Array Value} {Z : State} (hw : ∀ d ∈ tables_1, d.before a0 Z = true) : Jvm.Cond.before (Jvm.Cond.instanceMethod ({ cls := "java/lang/String", name := "isEmpty", desc := "()Z" } : Jvm.MethodName)) a0 Z = true := hw _ (List.mem_of_getElem? (i := 40) rfl)
theorem d8_8 : decode prog_12_method_2_code 8 = .ok (.ifCond .eq 13, 3) := by decide +kernel
theorem d8_21 : decode prog_12_method_2_code 21 = .ok (.iconst 0, 1) := by decide +kernel
theorem d8_22 : decode prog_12_method_2_code 22 = .ok (.istore_n 1, 1) := by decide +kernel
theorem d8_23 : decode prog_12_method_2_code 23 = .ok (.iload_n 1, 1) := by decide +kernel
theorem d8_24 : decode prog_12_method_2_code 24 = .ok (.aload_n 0, 1) := by decide +kernel
theorem d8_25 : decode prog_12_method_2_code 25 = .ok (.invokevirtual 26, 3) := by decide +kernel
theorem d10_0 : decode jdk_42_method_54_code 0 = .ok (.aload_n 0, 1) := by decide +kernel
theorem d10_1 : decode jdk_42_method_54_code 1 = .ok (.getfield 9, 3) := by decide +kernel
theorem d10_4 : decode jdk_42_method_54_code 4 = .ok (.arraylength, 1) := by decide +kernel
theorem d10_5 : decode jdk_42_method_54_code 5 = .ok (.aload_n 0, 1) := by decide +kernel
theorem d10_6 : decode jdk_42_method_54_code 6 = .ok (.invokevirtual 335, 3) := by decide +kernel
theorem d11_0 : decode jdk_42_method_152_code 0 = .ok (.getstatic 38, 3) := by decide +kernel
theorem d11_3 : decode jdk_42_method_152_code 3 = .ok (.ifCond .eq 10, 3) := by decide +kernel
theorem d11_6 : decode jdk_42_method_152_code 6 = .ok (.aload_n 0, 1) := by decide +kernel
theorem d11_7 : decode jdk_42_method_152_code 7 = .ok (.getfield 15, 3) := by decide +kernel
theorem d11_10 : decode jdk_42_method_152_code 10 = .ok (.goto 4, 3) := by decide +kernel
theorem d11_14 : decode jdk_42_method_152_code 14 = .ok (.ireturn, 1) := by decide +kernel
abbrev y_7 : MethodName := ⟨"java/lang/String", "coder", "()B"⟩
-- java/lang/String.coder()B
abbrev Rm8 : Room := { frames := 0, cells := 0, slots := 0, locals := 0 }
def Q8 (Z : State) (a1 : Addr) (i2 : Int32) (h0 : Heap) (n0 : Nat) (v : Option Value) (h : Heap) (L : List Loc) : Prop := v = some (.int (0 : Int32)) ∧ Fr n0 L ∧ h = h0
theorem ef8 (a1 : Addr) (m : MethodId) : entryFrame m #[(.ref a1)] 1 = mkF m 0 #[.val (.ref a1)] [] := by first | (simp [entryFrame, mkF, argsToLocals, Value.category]; done) | rfl
theorem rm8 (l : Launch) (Z : State) (a0 : Array Value) (hw : ∀ d ∈ tables_1, d.before a0 Z = true) (ws : List Jvm.Cond) (a1 : Addr) (i2 : Int32) (h0 : Heap) (n0 : Nat) (Z0 : n0 ≤ h0.size) (S_COMPACT_STRINGS : Sta Z Z.heap "java/lang/String" "COMPACT_STRINGS" "Z" (.int i2)) (Od0 : Old Z n0 h0) (c3 : ¬ (i2 = (0 : Int32))) (F_coder_a1 : Fld Z h0 a1 "java/lang/String" "coder" "B" (.int (0 : Int32))) :
    OwnMet l Z y_7 jdk_42_method_152_code 1 (some .byte) ws Rm8 #[(.ref a1)] h0 (Q8 Z a1 i2 h0 n0) := by
  refine own_body (plainFor_of_name pn_2) (ef8 a1) ?_
  intro p e s m below meth c s₁ hx hby hml hown hnm hret hZ X0 e0
  have N0 := Fr.nil n0
  obtain ⟨T1, X1, e1, st1⟩ := getS2 X0 hx hZ hown (host := "") (Or.inl (w_18 hw)) Via.refl e0 (S_COMPACT_STRINGS.ext Od0.2) (g := (mkF m 0 #[.val (.ref a1)] [])) rfl (hb hby d11_0)
  obtain ⟨T2, X2, e2, st2⟩ := getF X1 hx hZ hown (host := "") (Or.inl (w_30 hw)) Via.refl e1 F_coder_a1 (g := (mkF m 7 #[.val (.ref a1)] [(.ref a1)])) rfl rfl (hb hby d11_7)
  refine ⟨T2, _, _, _, (some (.int (0 : Int32))), X2, nofun, by decide, by decide, ?_, fun fs hr => ?_⟩
  · show Q8 Z a1 i2 h0 n0 _ T2.heap _
    rw [e2]
    exact ⟨rfl, N0, rfl⟩
  · show Steps p.tables e below (s₁.setTop (mkF m 0 #[.val (.ref a1)] [])) _
    refine st1 _ ?_
    refine XS.ifNo X1.here hx rfl (hb hby d11_3) rfl ((if0 _ _).trans (feq (c3 : ¬ (i2 = (0 : Int32)))).1) ?_
    refine XS.aloadN X1.here hx rfl (hb hby d11_6) rfl rfl ?_
    refine st2 _ ?_
    refine XS.goto X2.here hx rfl (pc0 := 10) (pc' := 14) rfl (hb hby d11_10) (by decide) (by decide) ?_
    exact retN X2 hx (t := .byte) hret (by simp) (hb hby d11_14) hr
theorem pd_7 : parseMethodDescriptor "()B" = some ⟨[], some .byte⟩ := by decide +kernel
theorem w_52 {a0 : Array Value} {Z : State} (hw : ∀ d ∈ tables_1, d.before a0 Z = true) : Jvm.Cond.before (Jvm.Cond.code ({ cls := "java/lang/String", name := "coder", desc := "()B" } : Jvm.MethodName) jdk_42_method_152_code (1 : Nat) (Option.some Jvm.ClassFile.FieldType.byte)) a0 Z = true := hw _ (List.mem_of_getElem? (i := 52) rfl)
theorem w_48 {a0 : Array Value} {Z : State} (hw : ∀ d ∈ tables_1, d.before a0 Z = true) : Jvm.Cond.before (Jvm.Cond.methodLink "java/lang/String" (335 : Nat) ({ cls := "java/lang/String", name := "coder", desc := "()B" } : Jvm.MethodName)) a0 Z = true := hw _ (List.mem_of_getElem? (i := 48) rfl)
theorem w_51 {a0 : Array Value} {Z : State} (hw : ∀ d ∈ tables_1, d.before a0 Z = true) : Jvm.Cond.before (Jvm.Cond.selects "java/lang/String" ({ cls := "java/lang/String", name := "coder", desc := "()B" } : Jvm.MethodName) ({ cls := "java/lang/String", name := "coder", desc := "()B" } : Jvm.MethodName)) a0 Z = true := hw _ (List.mem_of_getElem? (i := 51) rfl)
theorem w_49 {a0 : Array Value} {Z : State} (hw : ∀ d ∈ tables_1, d.before a0 Z = true) : Jvm.Cond.before (Jvm.Cond.declares ({ cls := "java/lang/String", name := "coder", desc := "()B" } : Jvm.MethodName)) a0 Z = true := hw _ (List.mem_of_getElem? (i := 49) rfl)
theorem w_50 {a0 : Array Value} {Z : State} (hw : ∀ d ∈ tables_1, d.before a0 Z = true) : Jvm.Cond.before (Jvm.Cond.instanceMethod ({ cls := "java/lang/String", name := "coder", desc := "()B" } : Jvm.MethodName)) a0 Z = true := hw _ (List.mem_of_getElem? (i := 50) rfl)
theorem d10_9 : decode jdk_42_method_54_code 9 = .ok (.ishr, 1) := by decide +kernel
theorem d10_10 : decode jdk_42_method_54_code 10 = .ok (.ireturn, 1) := by decide +kernel
abbrev y_8 : MethodName := ⟨"java/lang/String", "length", "()I"⟩
-- java/lang/String.length()I
abbrev Rm9 : Room := { frames := 1, cells := 0, slots := 0, locals := 13 }
def Q9 (Z : State) (a1 : Addr) (a2 : Addr) (u3 : List Value) (ck4 : ClassId) (i5 : Int32) (i6 : Int32) (h0 : Heap) (n0 : Nat) (v : Option Value) (h : Heap) (L : List Loc) : Prop := v = some (.int (i5 >>> ((0 : Int32) &&& 31))) ∧ Fr n0 L ∧ h = h0
theorem ef9 (a1 : Addr) (m : MethodId) : entryFrame m #[(.ref a1)] 1 = mkF m 0 #[.val (.ref a1)] [] := by first | (simp [entryFrame, mkF, argsToLocals, Value.category]; done) | rfl
theorem rm9 (l : Launch) (Z : State) (a0 : Array Value) (hw : ∀ d ∈ tables_1, d.before a0 Z = true) (ws : List Jvm.Cond) (a1 : Addr) (a2 : Addr) (u3 : List Value) (ck4 : ClassId) (i5 : Int32) (i6 : Int32) (h0 : Heap) (n0 : Nat) (Z0 : n0 ≤ h0.size) (F_value_a1 : Fld Z h0 a1 "java/lang/String" "value" "[B" (.ref a2)) (V_a2 : Arv Z h0 a2 ck4 .byte i5 u3 (.int (0 : Int32))) (E_a1 : Exa Z h0 a1 "java/lang/String") (S_COMPACT_STRINGS : Sta Z Z.heap "java/lang/String" "COMPACT_STRINGS" "Z" (.int i6)) (Od0 : Old Z n0 h0) (c7 : ¬ (i6 = (0 : Int32))) (F_coder_a1 : Fld Z h0 a1 "java/lang/String" "coder" "B" (.int (0 : Int32))) :
    OwnMet l Z y_8 jdk_42_method_54_code 1 (some .int) ws Rm9 #[(.ref a1)] h0 (Q9 Z a1 a2 u3 ck4 i5 i6 h0 n0) := by
  refine own_body (plainFor_of_name pn_2) (ef9 a1) ?_
  intro p e s m below meth c s₁ hx hby hml hown hnm hret hZ X0 e0
  have N0 := Fr.nil n0
  obtain ⟨T1, X1, e1, st1⟩ := getF X0 hx hZ hown (host := "") (Or.inl (w_32 hw)) Via.refl e0 F_value_a1 (g := (mkF m 1 #[.val (.ref a1)] [(.ref a1)])) rfl rfl (hb hby d10_1)
  obtain ⟨cl2, Ar2, q2, S2, M2, Hs2, G2⟩ := id V_a2
  obtain ⟨_, T3, L3, X3, hQ3, st3⟩ := own_virtual X1 hx hZ hown (y := y_7) (z := y_7) E_a1 (w_48 hw) (w_49 hw) (notFace_of_selects (args := #[]) (mvT hZ (w_51 hw))) (w_51 hw) (w_50 hw) (w_7 hw) (w_52 hw) (rm8 l Z a0 hw [] a1 i6 h0 n0 Z0 S_COMPACT_STRINGS Od0 c7 F_coder_a1) e1 (Ls := #[.val (.ref a1)]) (by rw [hml]; rfl) (argsL := []) (rest := [(.int i5)]) (lenOf pd_7 rfl) (hb hby d10_6) (W := 1)
  obtain ⟨rfl, Nq3, e3⟩ := hQ3
  have N3 := Fr.app N0 Nq3
  refine ⟨T3, _, _, _, (some (.int (i5 >>> ((0 : Int32) &&& 31)))), X3, nofun, by decide, by decide, ?_, fun fs hr => ?_⟩
  · show Q9 Z a1 a2 u3 ck4 i5 i6 h0 n0 _ T3.heap _
    rw [e3]
    exact ⟨rfl, N3, rfl⟩
  · show Steps p.tables e below (s₁.setTop (mkF m 0 #[.val (.ref a1)] [])) _
    refine XS.aloadN X0.here hx rfl (hb hby d10_0) rfl rfl ?_
    refine st1 _ ?_
    refine X1.arraylength hx (by rw [e1]; exact Ar2.1) (State.isArrayOf_alike hZ.alike Ar2.2.1) (g := (mkF m 4 #[.val (.ref a1)] [(.ref a2)])) rfl rfl (hb hby d10_4) _ ?_
    show Steps p.tables e below (T1.setTop (mkF m 5 #[.val (.ref a1)] [(.int cl2.slots.size.toInt32)])) _
    rw [len_of S2 M2]
    refine XS.aloadN X1.here hx rfl (hb hby d10_5) rfl rfl ?_
    refine st3 _ ?_
    refine XS.ishr X3.here hx rfl (hb hby d10_9) rfl ?_
    exact retI X3 hx hret (hb hby d10_10) hr
theorem pd_8 : parseMethodDescriptor "()I" = some ⟨[], some .int⟩ := by decide +kernel
theorem w_47 {a0 : Array Value} {Z : State} (hw : ∀ d ∈ tables_1, d.before a0 Z = true) : Jvm.Cond.before (Jvm.Cond.code ({ cls := "java/lang/String", name := "length", desc := "()I" } : Jvm.MethodName) jdk_42_method_54_code (1 : Nat) (Option.some Jvm.ClassFile.FieldType.int)) a0 Z = true := hw _ (List.mem_of_getElem? (i := 47) rfl)
theorem w_43 {a0 : Array Value} {Z : State} (hw : ∀ d ∈ tables_1, d.before a0 Z = true) : Jvm.Cond.before (Jvm.Cond.methodLink "com/example/bare_queue/barequeue/QueueName" (26 : Nat) ({ cls := "java/lang/String", name := "length", desc := "()I" } : Jvm.MethodName)) a0 Z = true := hw _ (List.mem_of_getElem? (i := 43) rfl)
theorem w_46 {a0 : Array Value} {Z : State} (hw : ∀ d ∈ tables_1, d.before a0 Z = true) : Jvm.Cond.before (Jvm.Cond.selects "java/lang/String" ({ cls := "java/lang/String", name := "length", desc := "()I" } : Jvm.MethodName) ({ cls := "java/lang/String", name := "length", desc := "()I" } : Jvm.MethodName)) a0 Z = true := hw _ (List.mem_of_getElem? (i := 46) rfl)
theorem w_44 {a0 : Array Value} {Z : State} (hw : ∀ d ∈ tables_1, d.before a0 Z = true) : Jvm.Cond.before (Jvm.Cond.declares ({ cls := "java/lang/String", name := "length", desc := "()I" } : Jvm.MethodName)) a0 Z = true := hw _ (List.mem_of_getElem? (i := 44) rfl)
theorem w_45 {a0 : Array Value} {Z : State} (hw : ∀ d ∈ tables_1, d.before a0 Z = true) : Jvm.Cond.before (Jvm.Cond.instanceMethod ({ cls := "java/lang/String", name := "length", desc := "()I" } : Jvm.MethodName)) a0 Z = true := hw _ (List.mem_of_getElem? (i := 45) rfl)
theorem d8_28 : decode prog_12_method_2_code 28 = .ok (.if_icmp .ge 64, 3) := by decide +kernel
theorem d8_31 : decode prog_12_method_2_code 31 = .ok (.aload_n 0, 1) := by decide +kernel
theorem d8_32 : decode prog_12_method_2_code 32 = .ok (.iload_n 1, 1) := by decide +kernel
theorem d8_33 : decode prog_12_method_2_code 33 = .ok (.invokevirtual 30, 3) := by decide +kernel
theorem d12_0 : decode jdk_42_method_56_code 0 = .ok (.aload_n 0, 1) := by decide +kernel
theorem d12_1 : decode jdk_42_method_56_code 1 = .ok (.invokevirtual 492, 3) := by decide +kernel
theorem d13_0 : decode jdk_42_method_154_code 0 = .ok (.getstatic 38, 3) := by decide +kernel
theorem d13_3 : decode jdk_42_method_154_code 3 = .ok (.ifCond .eq 14, 3) := by decide +kernel
theorem d13_6 : decode jdk_42_method_154_code 6 = .ok (.aload_n 0, 1) := by decide +kernel
theorem d13_7 : decode jdk_42_method_154_code 7 = .ok (.getfield 15, 3) := by decide +kernel
theorem d13_10 : decode jdk_42_method_154_code 10 = .ok (.ifCond .ne 7, 3) := by decide +kernel
theorem d13_13 : decode jdk_42_method_154_code 13 = .ok (.iconst 1, 1) := by decide +kernel
theorem d13_14 : decode jdk_42_method_154_code 14 = .ok (.goto 4, 3) := by decide +kernel
theorem d13_18 : decode jdk_42_method_154_code 18 = .ok (.ireturn, 1) := by decide +kernel
abbrev y_9 : MethodName := ⟨"java/lang/String", "isLatin1", "()Z"⟩
-- java/lang/String.isLatin1()Z
abbrev Rm10 : Room := { frames := 0, cells := 0, slots := 0, locals := 0 }
def Q10 (Z : State) (a1 : Addr) (i2 : Int32) (h0 : Heap) (n0 : Nat) (v : Option Value) (h : Heap) (L : List Loc) : Prop := v = some (.int (1 : Int32)) ∧ Fr n0 L ∧ h = h0
theorem ef10 (a1 : Addr) (m : MethodId) : entryFrame m #[(.ref a1)] 1 = mkF m 0 #[.val (.ref a1)] [] := by first | (simp [entryFrame, mkF, argsToLocals, Value.category]; done) | rfl
theorem rm10 (l : Launch) (Z : State) (a0 : Array Value) (hw : ∀ d ∈ tables_1, d.before a0 Z = true) (ws : List Jvm.Cond) (a1 : Addr) (i2 : Int32) (h0 : Heap) (n0 : Nat) (Z0 : n0 ≤ h0.size) (S_COMPACT_STRINGS : Sta Z Z.heap "java/lang/String" "COMPACT_STRINGS" "Z" (.int i2)) (Od0 : Old Z n0 h0) (c3 : ¬ (i2 = (0 : Int32))) (F_coder_a1 : Fld Z h0 a1 "java/lang/String" "coder" "B" (.int (0 : Int32))) :
    OwnMet l Z y_9 jdk_42_method_154_code 1 (some .boolean) ws Rm10 #[(.ref a1)] h0 (Q10 Z a1 i2 h0 n0) := by
  refine own_body (plainFor_of_name pn_2) (ef10 a1) ?_
  intro p e s m below meth c s₁ hx hby hml hown hnm hret hZ X0 e0
  have N0 := Fr.nil n0
  obtain ⟨T1, X1, e1, st1⟩ := getS2 X0 hx hZ hown (host := "") (Or.inl (w_18 hw)) Via.refl e0 (S_COMPACT_STRINGS.ext Od0.2) (g := (mkF m 0 #[.val (.ref a1)] [])) rfl (hb hby d13_0)
  obtain ⟨T2, X2, e2, st2⟩ := getF X1 hx hZ hown (host := "") (Or.inl (w_30 hw)) Via.refl e1 F_coder_a1 (g := (mkF m 7 #[.val (.ref a1)] [(.ref a1)])) rfl rfl (hb hby d13_7)
  refine ⟨T2, _, _, _, (some (.int (1 : Int32))), X2, nofun, by decide, by decide, ?_, fun fs hr => ?_⟩
  · show Q10 Z a1 i2 h0 n0 _ T2.heap _
    rw [e2]
    exact ⟨rfl, N0, rfl⟩
  · show Steps p.tables e below (s₁.setTop (mkF m 0 #[.val (.ref a1)] [])) _
    refine st1 _ ?_
    refine XS.ifNo X1.here hx rfl (hb hby d13_3) rfl ((if0 _ _).trans (feq (c3 : ¬ (i2 = (0 : Int32)))).1) ?_
    refine XS.aloadN X1.here hx rfl (hb hby d13_6) rfl rfl ?_
    refine st2 _ ?_
    refine XS.ifNo X2.here hx rfl (hb hby d13_10) rfl ((if0 _ _).trans (teq ((by decide : (0 : Int32) = (0 : Int32)) : (0 : Int32) = (0 : Int32))).2) ?_
    refine XS.iconst X2.here hx rfl (hb hby d13_13) ?_
    refine XS.goto X2.here hx rfl (pc0 := 14) (pc' := 18) rfl (hb hby d13_14) (by decide) (by decide) ?_
    exact retN X2 hx (t := .boolean) hret (by simp) (hb hby d13_18) hr
theorem w_62 {a0 : Array Value} {Z : State} (hw : ∀ d ∈ tables_1, d.before a0 Z = true) : Jvm.Cond.before (Jvm.Cond.code ({ cls := "java/lang/String", name := "isLatin1", desc := "()Z" } : Jvm.MethodName) jdk_42_method_154_code (1 : Nat) (Option.some Jvm.ClassFile.FieldType.boolean)) a0 Z = true := hw _ (List.mem_of_getElem? (i := 62) rfl)
theorem w_58 {a0 : Array Value} {Z : State} (hw : ∀ d ∈ tables_1, d.before a0 Z = true) : Jvm.Cond.before (Jvm.Cond.methodLink "java/lang/String" (492 : Nat) ({ cls := "java/lang/String", name := "isLatin1", desc := "()Z" } : Jvm.MethodName)) a0 Z = true := hw _ (List.mem_of_getElem? (i := 58) rfl)
theorem w_61 {a0 : Array Value} {Z : State} (hw : ∀ d ∈ tables_1, d.before a0 Z = true) : Jvm.Cond.before (Jvm.Cond.selects "java/lang/String" ({ cls := "java/lang/String", name := "isLatin1", desc := "()Z" } : Jvm.MethodName) ({ cls := "java/lang/String", name := "isLatin1", desc := "()Z" } : Jvm.MethodName)) a0 Z = true := hw _ (List.mem_of_getElem? (i := 61) rfl)
theorem w_59 {a0 : Array Value} {Z : State} (hw : ∀ d ∈ tables_1, d.before a0 Z = true) : Jvm.Cond.before (Jvm.Cond.declares ({ cls := "java/lang/String", name := "isLatin1", desc := "()Z" } : Jvm.MethodName)) a0 Z = true := hw _ (List.mem_of_getElem? (i := 59) rfl)
theorem w_60 {a0 : Array Value} {Z : State} (hw : ∀ d ∈ tables_1, d.before a0 Z = true) : Jvm.Cond.before (Jvm.Cond.instanceMethod ({ cls := "java/lang/String", name := "isLatin1", desc := "()Z" } : Jvm.MethodName)) a0 Z = true := hw _ (List.mem_of_getElem? (i := 60) rfl)
theorem d12_4 : decode jdk_42_method_56_code 4 = .ok (.ifCond .eq 12, 3) := by decide +kernel
theorem d12_7 : decode jdk_42_method_56_code 7 = .ok (.aload_n 0, 1) := by decide +kernel
theorem d12_8 : decode jdk_42_method_56_code 8 = .ok (.getfield 9, 3) := by decide +kernel
theorem d12_11 : decode jdk_42_method_56_code 11 = .ok (.iload_n 1, 1) := by decide +kernel
theorem d12_12 : decode jdk_42_method_56_code 12 = .ok (.invokestatic 495, 3) := by decide +kernel
theorem d14_0 : decode jdk_43_method_2_code 0 = .ok (.iload_n 1, 1) := by decide +kernel
theorem d14_1 : decode jdk_43_method_2_code 1 = .ok (.aload_n 0, 1) := by decide +kernel
theorem d14_2 : decode jdk_43_method_2_code 2 = .ok (.arraylength, 1) := by decide +kernel
theorem d14_3 : decode jdk_43_method_2_code 3 = .ok (.invokestatic 9, 3) := by decide +kernel
theorem d15_0 : decode jdk_42_method_155_code 0 = .ok (.iload_n 0, 1) := by decide +kernel
theorem d15_1 : decode jdk_42_method_155_code 1 = .ok (.iload_n 1, 1) := by decide +kernel
theorem d15_2 : decode jdk_42_method_155_code 2 = .ok (.getstatic 1053, 3) := by decide +kernel
theorem w_70 {a0 : Array Value} {Z : State} (hw : ∀ d ∈ tables_1, d.before a0 Z = true) : Jvm.Cond.before (Jvm.Cond.fieldLink "java/lang/String" (1053 : Nat) "jdk/internal/util/Preconditions" "SIOOBE_FORMATTER" "Ljava/util/function/BiFunction;") a0 Z = true := hw _ (List.mem_of_getElem? (i := 70) rfl)
theorem d15_5 : decode jdk_42_method_155_code 5 = .ok (.invokestatic 1059, 3) := by decide +kernel
theorem d16_0 : decode jdk_41_method_11_code 0 = .ok (.iload_n 0, 1) := by decide +kernel
theorem d16_1 : decode jdk_41_method_11_code 1 = .ok (.ifCond .lt 8, 3) := by decide +kernel
theorem d16_4 : decode jdk_41_method_11_code 4 = .ok (.iload_n 0, 1) := by decide +kernel
theorem d16_5 : decode jdk_41_method_11_code 5 = .ok (.iload_n 1, 1) := by decide +kernel
theorem d16_6 : decode jdk_41_method_11_code 6 = .ok (.if_icmp .lt 10, 3) := by decide +kernel
theorem d16_16 : decode jdk_41_method_11_code 16 = .ok (.iload_n 0, 1) := by decide +kernel
theorem d16_17 : decode jdk_41_method_11_code 17 = .ok (.ireturn, 1) := by decide +kernel
abbrev y_10 : MethodName := ⟨"jdk/internal/util/Preconditions", "checkIndex", "(IILjava/util/function/BiFunction;)I"⟩
theorem pn_3 : plainName "jdk/internal/util/Preconditions" = true := by first | (simp [plainName, overriddenIn]; done) | decide +kernel
-- jdk/internal/util/Preconditions.checkIndex(IILjava/util/function/BiFunction;)I
abbrev Rm11 : Room := { frames := 0, cells := 0, slots := 0, locals := 0 }
def Q11 (Z : State) (i1 : Int32) (i2 : Int32) (r3 : Value) (h0 : Heap) (n0 : Nat) (v : Option Value) (h : Heap) (L : List Loc) : Prop := v = some (.int i1) ∧ Fr n0 L ∧ h = h0
theorem ef11 (i1 : Int32) (i2 : Int32) (r3 : Value) (R_r3 : r3.isRef = true) (m : MethodId) : entryFrame m #[(.int i1), (.int i2), r3] 3 = mkF m 0 #[.val (.int i1), .val (.int i2), .val r3] [] := by rcases ref_cases R_r3 with rfl | ⟨_, rfl⟩ <;> first | rfl | (simp [entryFrame, mkF, argsToLocals, Value.category]; done)
theorem rm11 (l : Launch) (Z : State) (a0 : Array Value) (hw : ∀ d ∈ tables_1, d.before a0 Z = true) (ws : List Jvm.Cond) (i1 : Int32) (i2 : Int32) (r3 : Value) (h0 : Heap) (n0 : Nat) (Z0 : n0 ≤ h0.size) (R_r3 : r3.isRef = true) (c4 : ¬ (i1 < (0 : Int32))) (c5 : i1 < i2) :
    OwnMet l Z y_10 jdk_41_method_11_code 3 (some .int) ws Rm11 #[(.int i1), (.int i2), r3] h0 (Q11 Z i1 i2 r3 h0 n0) := by
  refine own_body (plainFor_of_name pn_3) (ef11 i1 i2 r3 R_r3) ?_
  intro p e s m below meth c s₁ hx hby hml hown hnm hret hZ X0 e0
  have N0 := Fr.nil n0
  refine ⟨s₁, _, _, _, (some (.int i1)), X0, nofun, by decide, by decide, ?_, fun fs hr => ?_⟩
  · show Q11 Z i1 i2 r3 h0 n0 _ s₁.heap _
    rw [e0]
    exact ⟨rfl, N0, rfl⟩
  · show Steps p.tables e below (s₁.setTop (mkF m 0 #[.val (.int i1), .val (.int i2), .val r3] [])) _
    refine XS.iloadN X0.here hx rfl (hb hby d16_0) rfl ?_
    refine XS.ifNo X0.here hx rfl (hb hby d16_1) rfl ((if0 _ _).trans (flt (c4 : ¬ (i1 < (0 : Int32)))).1) ?_
    refine XS.iloadN X0.here hx rfl (hb hby d16_4) rfl ?_
    refine XS.iloadN X0.here hx rfl (hb hby d16_5) rfl ?_
    refine XS.icmpYes X0.here hx rfl (pc0 := 6) (pc' := 16) rfl (hb hby d16_6) rfl (tlt (c5 : i1 < i2)).1 (by decide) (by decide) ?_
    refine XS.iloadN X0.here hx rfl (hb hby d16_16) rfl ?_
    exact retI X0 hx hret (hb hby d16_17) hr
theorem pd_9 : parseMethodDescriptor "(IILjava/util/function/BiFunction;)I" = some ⟨[.int, .int, (.object "java/util/function/BiFunction")], some .int⟩ := by decide +kernel
theorem w_71 {a0 : Array Value} {Z : State} (hw : ∀ d ∈ tables_1, d.before a0 Z = true) : Jvm.Cond.before (Jvm.Cond.initialized "jdk/internal/util/Preconditions") a0 Z = true := hw _ (List.mem_of_getElem? (i := 71) rfl)
theorem w_74 {a0 : Array Value} {Z : State} (hw : ∀ d ∈ tables_1, d.before a0 Z = true) : Jvm.Cond.before (Jvm.Cond.code ({ cls := "jdk/internal/util/Preconditions", name := "checkIndex", desc := "(IILjava/util/function/BiFunction;)I" } : Jvm.MethodName) jdk_41_method_11_code (3 : Nat) (Option.some Jvm.ClassFile.FieldType.int)) a0 Z = true := hw _ (List.mem_of_getElem? (i := 74) rfl)
theorem w_72 {a0 : Array Value} {Z : State} (hw : ∀ d ∈ tables_1, d.before a0 Z = true) : Jvm.Cond.before (Jvm.Cond.methodLink "java/lang/String" (1059 : Nat) ({ cls := "jdk/internal/util/Preconditions", name := "checkIndex", desc := "(IILjava/util/function/BiFunction;)I" } : Jvm.MethodName)) a0 Z = true := hw _ (List.mem_of_getElem? (i := 72) rfl)
theorem w_73 {a0 : Array Value} {Z : State} (hw : ∀ d ∈ tables_1, d.before a0 Z = true) : Jvm.Cond.before (Jvm.Cond.static ({ cls := "jdk/internal/util/Preconditions", name := "checkIndex", desc := "(IILjava/util/function/BiFunction;)I" } : Jvm.MethodName)) a0 Z = true := hw _ (List.mem_of_getElem? (i := 73) rfl)
theorem d15_8 : decode jdk_42_method_155_code 8 = .ok (.pop, 1) := by decide +kernel
theorem d15_9 : decode jdk_42_method_155_code 9 = .ok (.return_, 1) := by decide +kernel
abbrev y_11 : MethodName := ⟨"java/lang/String", "checkIndex", "(II)V"⟩
-- java/lang/String.checkIndex(II)V
abbrev Rm12 : Room := { frames := 1, cells := 0, slots := 0, locals := 14 }
def Q12 (Z : State) (i1 : Int32) (i2 : Int32) (r3 : Value) (h0 : Heap) (n0 : Nat) (v : Option Value) (h : Heap) (L : List Loc) : Prop := v = none ∧ Fr n0 L ∧ h = h0
theorem ef12 (i1 : Int32) (i2 : Int32) (m : MethodId) : entryFrame m #[(.int i1), (.int i2)] 2 = mkF m 0 #[.val (.int i1), .val (.int i2)] [] := by first | (simp [entryFrame, mkF, argsToLocals, Value.category]; done) | rfl
theorem rm12 (l : Launch) (Z : State) (a0 : Array Value) (hw : ∀ d ∈ tables_1, d.before a0 Z = true) (ws : List Jvm.Cond) (i1 : Int32) (i2 : Int32) (r3 : Value) (h0 : Heap) (n0 : Nat) (Z0 : n0 ≤ h0.size) (R_r3 : r3.isRef = true) (S_SIOOBE_FORMATTER : Sta Z Z.heap "jdk/internal/util/Preconditions" "SIOOBE_FORMATTER" "Ljava/util/function/BiFunction;" r3) (Od0 : Old Z n0 h0) (c4 : ¬ (i1 < (0 : Int32))) (c5 : i1 < i2) :
    OwnMet l Z y_11 jdk_42_method_155_code 2 none ws Rm12 #[(.int i1), (.int i2)] h0 (Q12 Z i1 i2 r3 h0 n0) := by
  refine own_body (plainFor_of_name pn_2) (ef12 i1 i2) ?_
  intro p e s m below meth c s₁ hx hby hml hown hnm hret hZ X0 e0
  have N0 := Fr.nil n0
  obtain ⟨T1, X1, e1, st1⟩ := getS2 X0 hx hZ hown (host := "") (Or.inl (w_70 hw)) Via.refl e0 (S_SIOOBE_FORMATTER.ext Od0.2) (g := (mkF m 2 #[.val (.int i1), .val (.int i2)] [(.int i2), (.int i1)])) rfl (hb hby d15_2)
  obtain ⟨_, T2, L2, X2, hQ2, st2⟩ := own_callS X1 hx hZ hown (y := y_10) (w_72 hw) (w_73 hw) (w_71 hw) (w_74 hw) (rm11 l Z a0 hw [] i1 i2 r3 h0 n0 Z0 R_r3 c4 c5) e1 (Ls := #[.val (.int i1), .val (.int i2)]) (by rw [hml]; rfl) (argsL := [(.int i1), (.int i2), r3]) (rest := []) (lenOf pd_9 rfl) (hb hby d15_5) (W := 0)
  obtain ⟨rfl, Nq2, e2⟩ := hQ2
  have N2 := Fr.app N0 Nq2
  refine ⟨T2, _, _, _, none, X2, (fun _ => rfl), by decide, by decide, ?_, fun fs hr => ?_⟩
  · show Q12 Z i1 i2 r3 h0 n0 _ T2.heap _
    rw [e2]
    exact ⟨rfl, N2, rfl⟩
  · show Steps p.tables e below (s₁.setTop (mkF m 0 #[.val (.int i1), .val (.int i2)] [])) _
    refine XS.iloadN X0.here hx rfl (hb hby d15_0) rfl ?_
    refine XS.iloadN X0.here hx rfl (hb hby d15_1) rfl ?_
    refine st1 _ ?_
    refine st2 _ ?_
    refine XS.pop X2.here hx rfl (hb hby d15_8) rfl rfl ?_
    exact X2.returnOut hx hret (hb hby d15_9) hr
theorem pd_10 : parseMethodDescriptor "(II)V" = some ⟨[.int, .int], none⟩ := by decide +kernel
theorem w_69 {a0 : Array Value} {Z : State} (hw : ∀ d ∈ tables_1, d.before a0 Z = true) : Jvm.Cond.before (Jvm.Cond.code ({ cls := "java/lang/String", name := "checkIndex", desc := "(II)V" } : Jvm.MethodName) jdk_42_method_155_code (2 : Nat) (Option.none : Option Jvm.ClassFile.FieldType)) a0 Z = true := hw _ (List.mem_of_getElem? (i := 69) rfl)
theorem w_67 {a0 : Array Value} {Z : State} (hw : ∀ d ∈ tables_1, d.before a0 Z = true) : Jvm.Cond.before (Jvm.Cond.methodLink "java/lang/StringLatin1" (9 : Nat) ({ cls := "java/lang/String", name := "checkIndex", desc := "(II)V" } : Jvm.MethodName)) a0 Z = true := hw _ (List.mem_of_getElem? (i := 67) rfl)
theorem w_68 {a0 : Array Value} {Z : State} (hw : ∀ d ∈ tables_1, d.before a0 Z = true) : Jvm.Cond.before (Jvm.Cond.static ({ cls := "java/lang/String", name := "checkIndex", desc := "(II)V" } : Jvm.MethodName)) a0 Z = true := hw _ (List.mem_of_getElem? (i := 68) rfl)
theorem d14_6 : decode jdk_43_method_2_code 6 = .ok (.aload_n 0, 1) := by decide +kernel
theorem d14_7 : decode jdk_43_method_2_code 7 = .ok (.iload_n 1, 1) := by decide +kernel
theorem d14_8 : decode jdk_43_method_2_code 8 = .ok (.baload, 1) := by decide +kernel
theorem d14_9 : decode jdk_43_method_2_code 9 = .ok (.sipush 255, 3) := by decide +kernel
theorem d14_12 : decode jdk_43_method_2_code 12 = .ok (.iand, 1) := by decide +kernel
theorem d14_13 : decode jdk_43_method_2_code 13 = .ok (.i2c, 1) := by decide +kernel
theorem d14_14 : decode jdk_43_method_2_code 14 = .ok (.ireturn, 1) := by decide +kernel
abbrev y_12 : MethodName := ⟨"java/lang/StringLatin1", "charAt", "([BI)C"⟩
theorem pn_4 : plainName "java/lang/StringLatin1" = true := by first | (simp [plainName, overriddenIn]; done) | decide +kernel
-- java/lang/StringLatin1.charAt([BI)C
abbrev Rm13 : Room := { frames := 2, cells := 0, slots := 0, locals := 27 }
def Q13 (Z : State) (a1 : Addr) (i2 : Int32) (u3 : List Value) (ck4 : ClassId) (i5 : Int32) (r6 : Value) (i9 : Int32) (h0 : Heap) (n0 : Nat) (v : Option Value) (h : Heap) (L : List Loc) : Prop := v = some (.int (nar .char ((i9 &&& (255 : Int32)).toUInt32.toUInt16.toUInt32.toInt32))) ∧ Fr n0 L ∧ h = h0
theorem ef13 (a1 : Addr) (i2 : Int32) (m : MethodId) : entryFrame m #[(.ref a1), (.int i2)] 2 = mkF m 0 #[.val (.ref a1), .val (.int i2)] [] := by first | (simp [entryFrame, mkF, argsToLocals, Value.category]; done) | rfl
theorem rm13 (l : Launch) (Z : State) (a0 : Array Value) (hw : ∀ d ∈ tables_1, d.before a0 Z = true) (ws : List Jvm.Cond) (a1 : Addr) (i2 : Int32) (u3 : List Value) (ck4 : ClassId) (i5 : Int32) (r6 : Value) (i9 : Int32) (h0 : Heap) (n0 : Nat) (Z0 : n0 ≤ h0.size) (V_a1 : Arv Z h0 a1 ck4 .byte i5 u3 (.int (0 : Int32))) (R_r6 : r6.isRef = true) (S_SIOOBE_FORMATTER : Sta Z Z.heap "jdk/internal/util/Preconditions" "SIOOBE_FORMATTER" "Ljava/util/function/BiFunction;" r6) (Od0 : Old Z n0 h0) (c7 : ¬ (i2 < (0 : Int32))) (c8 : i2 < i5) (rd10 : u3.getD (i2).toNatClampNeg (.int (0 : Int32)) = (.int i9)) :
    OwnMet l Z y_12 jdk_43_method_2_code 2 (some .char) ws Rm13 #[(.ref a1), (.int i2)] h0 (Q13 Z a1 i2 u3 ck4 i5 r6 i9 h0 n0) := by
  refine own_body (plainFor_of_name pn_4) (ef13 a1 i2) ?_
  intro p e s m below meth c s₁ hx hby hml hown hnm hret hZ X0 e0
  have N0 := Fr.nil n0
  obtain ⟨cl1, Ar1, q1, S1, M1, Hs1, G1⟩ := id V_a1
  obtain ⟨_, T2, L2, X2, hQ2, st2⟩ := own_callS X0 hx hZ hown (y := y_11) (w_67 hw) (w_68 hw) (w_7 hw) (w_69 hw) (rm12 l Z a0 hw [] i2 i5 r6 h0 n0 Z0 R_r6 S_SIOOBE_FORMATTER Od0 c7 c8) e0 (Ls := #[.val (.ref a1), .val (.int i2)]) (by rw [hml]; rfl) (argsL := [(.int i2), (.int i5)]) (rest := []) (lenOf pd_10 rfl) (hb hby d14_3) (W := 0)
  obtain ⟨rfl, Nq2, e2⟩ := hQ2
  have N2 := Fr.app N0 Nq2
  have hin3 : ¬ (i2 < 0 ∨ cl1.slots.size ≤ (i2).toNatClampNeg) := inb_of S1 ⟨c7, c8⟩
  refine ⟨T2, _, _, _, (some (.int (nar .char ((i9 &&& (255 : Int32)).toUInt32.toUInt16.toUInt32.toInt32)))), X2, nofun, by decide, by decide, ?_, fun fs hr => ?_⟩
  · show Q13 Z a1 i2 u3 ck4 i5 r6 i9 h0 n0 _ T2.heap _
    rw [e2]
    exact ⟨rfl, N2, rfl⟩
  · show Steps p.tables e below (s₁.setTop (mkF m 0 #[.val (.ref a1), .val (.int i2)] [])) _
    refine XS.iloadN X0.here hx rfl (hb hby d14_0) rfl ?_
    refine XS.aloadN X0.here hx rfl (hb hby d14_1) rfl rfl ?_
    refine X0.arraylength hx (by rw [e0]; exact Ar1.1) (State.isArrayOf_alike hZ.alike Ar1.2.1) (g := (mkF m 2 #[.val (.ref a1), .val (.int i2)] [(.ref a1), (.int i2)])) rfl rfl (hb hby d14_2) _ ?_
    show Steps p.tables e below (s₁.setTop (mkF m 3 #[.val (.ref a1), .val (.int i2)] [(.int cl1.slots.size.toInt32), (.int i2)])) _
    rw [len_of S1 M1]
    refine st2 _ ?_
    refine XS.aloadN X2.here hx rfl (hb hby d14_6) rfl rfl ?_
    refine XS.iloadN X2.here hx rfl (hb hby d14_7) rfl ?_
    refine X2.baloadBytes hx (j := i2) (v := (.int i9)) (by rw [e2]; exact Ar1.1) (State.isArrayOf_alike hZ.alike Ar1.2.1) Ar1.2.2 hin3 (Has.at Hs1 hin3 rd10) (g := (mkF m 8 #[.val (.ref a1), .val (.int i2)] [(.int i2), (.ref a1)])) rfl rfl (hb hby d14_8) _ ?_
    refine XS.sipush X2.here hx rfl (hb hby d14_9) ?_
    refine XS.iand X2.here hx rfl (hb hby d14_12) rfl ?_
    refine XS.i2c X2.here hx rfl (hb hby d14_13) rfl ?_
    exact retN X2 hx (t := .char) hret (by simp) (hb hby d14_14) hr
theorem pd_11 : parseMethodDescriptor "([BI)C" = some ⟨[(.array .byte), .int], some .char⟩ := by decide +kernel
theorem w_65 {a0 : Array Value} {Z : State} (hw : ∀ d ∈ tables_1, d.before a0 Z = true) : Jvm.Cond.before (Jvm.Cond.initialized "java/lang/StringLatin1") a0 Z = true := hw _ (List.mem_of_getElem? (i := 65) rfl)
theorem w_66 {a0 : Array Value} {Z : State} (hw : ∀ d ∈ tables_1, d.before a0 Z = true) : Jvm.Cond.before (Jvm.Cond.code ({ cls := "java/lang/StringLatin1", name := "charAt", desc := "([BI)C" } : Jvm.MethodName) jdk_43_method_2_code (2 : Nat) (Option.some Jvm.ClassFile.FieldType.char)) a0 Z = true := hw _ (List.mem_of_getElem? (i := 66) rfl)
theorem w_63 {a0 : Array Value} {Z : State} (hw : ∀ d ∈ tables_1, d.before a0 Z = true) : Jvm.Cond.before (Jvm.Cond.methodLink "java/lang/String" (495 : Nat) ({ cls := "java/lang/StringLatin1", name := "charAt", desc := "([BI)C" } : Jvm.MethodName)) a0 Z = true := hw _ (List.mem_of_getElem? (i := 63) rfl)
theorem w_64 {a0 : Array Value} {Z : State} (hw : ∀ d ∈ tables_1, d.before a0 Z = true) : Jvm.Cond.before (Jvm.Cond.static ({ cls := "java/lang/StringLatin1", name := "charAt", desc := "([BI)C" } : Jvm.MethodName)) a0 Z = true := hw _ (List.mem_of_getElem? (i := 64) rfl)
theorem d12_15 : decode jdk_42_method_56_code 15 = .ok (.ireturn, 1) := by decide +kernel
abbrev y_13 : MethodName := ⟨"java/lang/String", "charAt", "(I)C"⟩
-- java/lang/String.charAt(I)C
abbrev Rm14 : Room := { frames := 3, cells := 0, slots := 0, locals := 40 }
def Q14 (Z : State) (a1 : Addr) (i2 : Int32) (i3 : Int32) (a5 : Addr) (u6 : List Value) (ck7 : ClassId) (i8 : Int32) (r9 : Value) (i12 : Int32) (h0 : Heap) (n0 : Nat) (v : Option Value) (h : Heap) (L : List Loc) : Prop := v = some (.int (nar .char (nar .char ((i12 &&& (255 : Int32)).toUInt32.toUInt16.toUInt32.toInt32)))) ∧ Fr n0 L ∧ h = h0
theorem ef14 (a1 : Addr) (i2 : Int32) (m : MethodId) : entryFrame m #[(.ref a1), (.int i2)] 2 = mkF m 0 #[.val (.ref a1), .val (.int i2)] [] := by first | (simp [entryFrame, mkF, argsToLocals, Value.category]; done) | rfl
theorem rm14 (l : Launch) (Z : State) (a0 : Array Value) (hw : ∀ d ∈ tables_1, d.before a0 Z = true) (ws : List Jvm.Cond) (a1 : Addr) (i2 : Int32) (i3 : Int32) (a5 : Addr) (u6 : List Value) (ck7 : ClassId) (i8 : Int32) (r9 : Value) (i12 : Int32) (h0 : Heap) (n0 : Nat) (Z0 : n0 ≤ h0.size) (E_a1 : Exa Z h0 a1 "java/lang/String") (S_COMPACT_STRINGS : Sta Z Z.heap "java/lang/String" "COMPACT_STRINGS" "Z" (.int i3)) (Od0 : Old Z n0 h0) (c4 : ¬ (i3 = (0 : Int32))) (F_coder_a1 : Fld Z h0 a1 "java/lang/String" "coder" "B" (.int (0 : Int32))) (F_value_a1 : Fld Z h0 a1 "java/lang/String" "value" "[B" (.ref a5)) (V_a5 : Arv Z h0 a5 ck7 .byte i8 u6 (.int (0 : Int32))) (R_r9 : r9.isRef = true) (S_SIOOBE_FORMATTER : Sta Z Z.heap "jdk/internal/util/Preconditions" "SIOOBE_FORMATTER" "Ljava/util/function/BiFunction;" r9) (c10 : ¬ (i2 < (0 : Int32))) (c11 : i2 < i8) (rd13 : u6.getD (i2).toNatClampNeg (.int (0 : Int32)) = (.int i12)) :
    OwnMet l Z y_13 jdk_42_method_56_code 2 (some .char) ws Rm14 #[(.ref a1), (.int i2)] h0 (Q14 Z a1 i2 i3 a5 u6 ck7 i8 r9 i12 h0 n0) := by
  refine own_body (plainFor_of_name pn_2) (ef14 a1 i2) ?_
  intro p e s m below meth c s₁ hx hby hml hown hnm hret hZ X0 e0
  have N0 := Fr.nil n0
  obtain ⟨_, T1, L1, X1, hQ1, st1⟩ := own_virtual X0 hx hZ hown (y := y_9) (z := y_9) E_a1 (w_58 hw) (w_59 hw) (notFace_of_selects (args := #[]) (mvT hZ (w_61 hw))) (w_61 hw) (w_60 hw) (w_7 hw) (w_62 hw) (rm10 l Z a0 hw [] a1 i3 h0 n0 Z0 S_COMPACT_STRINGS Od0 c4 F_coder_a1) e0 (Ls := #[.val (.ref a1), .val (.int i2)]) (by rw [hml]; rfl) (argsL := []) (rest := []) (lenOf pd_6 rfl) (hb hby d12_1) (W := 0)
  obtain ⟨rfl, Nq1, e1⟩ := hQ1
  have N1 := Fr.app N0 Nq1
  obtain ⟨T2, X2, e2, st2⟩ := getF X1 hx hZ hown (host := "") (Or.inl (w_32 hw)) Via.refl e1 F_value_a1 (g := (mkF m 8 #[.val (.ref a1), .val (.int i2)] [(.ref a1)])) rfl rfl (hb hby d12_8)
  obtain ⟨_, T3, L3, X3, hQ3, st3⟩ := own_callS X2 hx hZ hown (y := y_12) (w_63 hw) (w_64 hw) (w_65 hw) (w_66 hw) (rm13 l Z a0 hw [] a5 i2 u6 ck7 i8 r9 i12 h0 n0 Z0 V_a5 R_r9 S_SIOOBE_FORMATTER Od0 c10 c11 rd13) e2 (Ls := #[.val (.ref a1), .val (.int i2)]) (by rw [hml]; rfl) (argsL := [(.ref a5), (.int i2)]) (rest := []) (lenOf pd_11 rfl) (hb hby d12_12) (W := 0)
  obtain ⟨rfl, Nq3, e3⟩ := hQ3
  have N3 := Fr.app N1 Nq3
  refine ⟨T3, _, _, _, (some (.int (nar .char (nar .char ((i12 &&& (255 : Int32)).toUInt32.toUInt16.toUInt32.toInt32))))), X3, nofun, by decide, by decide, ?_, fun fs hr => ?_⟩
  · show Q14 Z a1 i2 i3 a5 u6 ck7 i8 r9 i12 h0 n0 _ T3.heap _
    rw [e3]
    exact ⟨rfl, N3, rfl⟩
  · show Steps p.tables e below (s₁.setTop (mkF m 0 #[.val (.ref a1), .val (.int i2)] [])) _
    refine XS.aloadN X0.here hx rfl (hb hby d12_0) rfl rfl ?_
    refine st1 _ ?_
    refine XS.ifNo X1.here hx rfl (hb hby d12_4) rfl ((if0 _ _).trans (feq ((by decide : ¬ ((1 : Int32) = (0 : Int32))) : ¬ ((1 : Int32) = (0 : Int32)))).1) ?_
    refine XS.aloadN X1.here hx rfl (hb hby d12_7) rfl rfl ?_
    refine st2 _ ?_
    refine XS.iloadN X2.here hx rfl (hb hby d12_11) rfl ?_
    refine st3 _ ?_
    exact retN X3 hx (t := .char) hret (by simp) (hb hby d12_15) hr
theorem w_57 {a0 : Array Value} {Z : State} (hw : ∀ d ∈ tables_1, d.before a0 Z = true) : Jvm.Cond.before (Jvm.Cond.code ({ cls := "java/lang/String", name := "charAt", desc := "(I)C" } : Jvm.MethodName) jdk_42_method_56_code (2 : Nat) (Option.some Jvm.ClassFile.FieldType.char)) a0 Z = true := hw _ (List.mem_of_getElem? (i := 57) rfl)
theorem w_53 {a0 : Array Value} {Z : State} (hw : ∀ d ∈ tables_1, d.before a0 Z = true) : Jvm.Cond.before (Jvm.Cond.methodLink "com/example/bare_queue/barequeue/QueueName" (30 : Nat) ({ cls := "java/lang/String", name := "charAt", desc := "(I)C" } : Jvm.MethodName)) a0 Z = true := hw _ (List.mem_of_getElem? (i := 53) rfl)
theorem w_56 {a0 : Array Value} {Z : State} (hw : ∀ d ∈ tables_1, d.before a0 Z = true) : Jvm.Cond.before (Jvm.Cond.selects "java/lang/String" ({ cls := "java/lang/String", name := "charAt", desc := "(I)C" } : Jvm.MethodName) ({ cls := "java/lang/String", name := "charAt", desc := "(I)C" } : Jvm.MethodName)) a0 Z = true := hw _ (List.mem_of_getElem? (i := 56) rfl)
theorem w_54 {a0 : Array Value} {Z : State} (hw : ∀ d ∈ tables_1, d.before a0 Z = true) : Jvm.Cond.before (Jvm.Cond.declares ({ cls := "java/lang/String", name := "charAt", desc := "(I)C" } : Jvm.MethodName)) a0 Z = true := hw _ (List.mem_of_getElem? (i := 54) rfl)
theorem w_55 {a0 : Array Value} {Z : State} (hw : ∀ d ∈ tables_1, d.before a0 Z = true) : Jvm.Cond.before (Jvm.Cond.instanceMethod ({ cls := "java/lang/String", name := "charAt", desc := "(I)C" } : Jvm.MethodName)) a0 Z = true := hw _ (List.mem_of_getElem? (i := 55) rfl)
theorem d8_36 : decode prog_12_method_2_code 36 = .ok (.invokestatic 34, 3) := by decide +kernel
theorem d17_0 : decode prog_12_method_3_code 0 = .ok (.iload_n 0, 1) := by decide +kernel
theorem d17_1 : decode prog_12_method_3_code 1 = .ok (.bipush 65, 2) := by decide +kernel
theorem d17_3 : decode prog_12_method_3_code 3 = .ok (.if_icmp .lt 9, 3) := by decide +kernel
theorem d17_12 : decode prog_12_method_3_code 12 = .ok (.iload_n 0, 1) := by decide +kernel
theorem d17_13 : decode prog_12_method_3_code 13 = .ok (.bipush 97, 2) := by decide +kernel
theorem d17_15 : decode prog_12_method_3_code 15 = .ok (.if_icmp .lt 9, 3) := by decide +kernel
theorem d17_24 : decode prog_12_method_3_code 24 = .ok (.iload_n 0, 1) := by decide +kernel
theorem d17_25 : decode prog_12_method_3_code 25 = .ok (.bipush 48, 2) := by decide +kernel
theorem d17_27 : decode prog_12_method_3_code 27 = .ok (.if_icmp .lt 9, 3) := by decide +kernel
theorem d17_36 : decode prog_12_method_3_code 36 = .ok (.iload_n 0, 1) := by decide +kernel
theorem d17_37 : decode prog_12_method_3_code 37 = .ok (.bipush 45, 2) := by decide +kernel
theorem d17_39 : decode prog_12_method_3_code 39 = .ok (.if_icmp .eq 9, 3) := by decide +kernel
theorem d17_48 : decode prog_12_method_3_code 48 = .ok (.iconst 1, 1) := by decide +kernel
theorem d17_49 : decode prog_12_method_3_code 49 = .ok (.goto 4, 3) := by decide +kernel
theorem d17_53 : decode prog_12_method_3_code 53 = .ok (.ireturn, 1) := by decide +kernel
theorem d17_42 : decode prog_12_method_3_code 42 = .ok (.iload_n 0, 1) := by decide +kernel
theorem d17_43 : decode prog_12_method_3_code 43 = .ok (.bipush 95, 2) := by decide +kernel
theorem d17_45 : decode prog_12_method_3_code 45 = .ok (.if_icmp .ne 7, 3) := by decide +kernel
theorem d17_52 : decode prog_12_method_3_code 52 = .ok (.iconst 0, 1) := by decide +kernel
theorem d17_30 : decode prog_12_method_3_code 30 = .ok (.iload_n 0, 1) := by decide +kernel
theorem d17_31 : decode prog_12_method_3_code 31 = .ok (.bipush 57, 2) := by decide +kernel
theorem d17_33 : decode prog_12_method_3_code 33 = .ok (.if_icmp .le 15, 3) := by decide +kernel
theorem d17_6 : decode prog_12_method_3_code 6 = .ok (.iload_n 0, 1) := by decide +kernel
theorem d17_7 : decode prog_12_method_3_code 7 = .ok (.bipush 90, 2) := by decide +kernel
theorem d17_9 : decode prog_12_method_3_code 9 = .ok (.if_icmp .le 39, 3) := by decide +kernel
theorem d17_18 : decode prog_12_method_3_code 18 = .ok (.iload_n 0, 1) := by decide +kernel
theorem d17_19 : decode prog_12_method_3_code 19 = .ok (.bipush 122, 2) := by decide +kernel
theorem d17_21 : decode prog_12_method_3_code 21 = .ok (.if_icmp .le 27, 3) := by decide +kernel
abbrev y_14 : MethodName := ⟨"com/example/bare_queue/barequeue/QueueName", "isAllowed", "(C)Z"⟩
theorem pn_5 : plainName "com/example/bare_queue/barequeue/QueueName" = true := by first | (simp [plainName, overriddenIn]; done) | decide +kernel
-- com/example/bare_queue/barequeue/QueueName.isAllowed(C)Z
abbrev Rm15 : Room := { frames := 0, cells := 0, slots := 0, locals := 0 }
def Q15 (Z : State) (i1 : Int32) (h0 : Heap) (n0 : Nat) (v : Option Value) (h : Heap) (L : List Loc) : Prop := v = some (.int (if i1 < (65 : Int32) then (if i1 < (48 : Int32) then (if i1 = (45 : Int32) then (1 : Int32) else (0 : Int32)) else (if (57 : Int32) < i1 then (0 : Int32) else (1 : Int32))) else (if (90 : Int32) < i1 then (if i1 < (97 : Int32) then (if i1 = (95 : Int32) then (1 : Int32) else (0 : Int32)) else (1 : Int32)) else (1 : Int32)))) ∧ Fr n0 L ∧ h = h0
theorem ef15 (i1 : Int32) (m : MethodId) : entryFrame m #[(.int i1)] 1 = mkF m 0 #[.val (.int i1)] [] := by first | (simp [entryFrame, mkF, argsToLocals, Value.category]; done) | rfl
theorem rm15 (l : Launch) (Z : State) (a0 : Array Value) (hw : ∀ d ∈ tables_1, d.before a0 Z = true) (ws : List Jvm.Cond) (i1 : Int32) (h0 : Heap) (n0 : Nat) (Z0 : n0 ≤ h0.size) (c2 : ¬ ((122 : Int32) < i1)) :
    OwnMet l Z y_14 prog_12_method_3_code 1 (some .boolean) ws Rm15 #[(.int i1)] h0 (Q15 Z i1 h0 n0) := by
  refine own_body (plainFor_of_name pn_5) (ef15 i1) ?_
  intro p e s m below meth c s₁ hx hby hml hown hnm hret hZ X0 e0
  have N0 := Fr.nil n0
  by_cases cc1 : i1 < (65 : Int32)
  · by_cases cc2 : i1 < (48 : Int32)
    · have cd1 : i1 < (97 : Int32) := (by rw [Int32.lt_iff_toInt_lt]; have := And.intro (trivial) (own_ub cc2 48 (by decide)); have := rng32 i1; have : ((97 : Int32)).toInt = 97 := (by decide); omega)
      by_cases cc3 : i1 = (45 : Int32)
      · refine ⟨s₁, _, _, _, (some (.int (1 : Int32))), X0, nofun, by decide, by decide, ?_, fun fs hr => ?_⟩
        · show Q15 Z i1 h0 n0 _ s₁.heap _
          rw [e0]
          unfold Q15
          rw [show (if i1 < (65 : Int32) then (if i1 < (48 : Int32) then (if i1 = (45 : Int32) then (1 : Int32) else (0 : Int32)) else (if (57 : Int32) < i1 then (0 : Int32) else (1 : Int32))) else (if (90 : Int32) < i1 then (if i1 < (97 : Int32) then (if i1 = (95 : Int32) then (1 : Int32) else (0 : Int32)) else (1 : Int32)) else (1 : Int32))) = (1 : Int32) from by rw [if_pos cc1, if_pos cc2, if_pos cc3]]
          exact ⟨rfl, N0, rfl⟩
        · show Steps p.tables e below (s₁.setTop (mkF m 0 #[.val (.int i1)] [])) _
          refine XS.iloadN X0.here hx rfl (hb hby d17_0) rfl ?_
          refine XS.bipush X0.here hx rfl (hb hby d17_1) ?_
          refine XS.icmpYes X0.here hx rfl (pc0 := 3) (pc' := 12) rfl (hb hby d17_3) rfl (tlt (cc1 : i1 < (65 : Int32))).1 (by decide) (by decide) ?_
          refine XS.iloadN X0.here hx rfl (hb hby d17_12) rfl ?_
          refine XS.bipush X0.here hx rfl (hb hby d17_13) ?_
          refine XS.icmpYes X0.here hx rfl (pc0 := 15) (pc' := 24) rfl (hb hby d17_15) rfl (tlt (cd1 : i1 < (97 : Int32))).1 (by decide) (by decide) ?_
          refine XS.iloadN X0.here hx rfl (hb hby d17_24) rfl ?_
          refine XS.bipush X0.here hx rfl (hb hby d17_25) ?_
          refine XS.icmpYes X0.here hx rfl (pc0 := 27) (pc' := 36) rfl (hb hby d17_27) rfl (tlt (cc2 : i1 < (48 : Int32))).1 (by decide) (by decide) ?_
          refine XS.iloadN X0.here hx rfl (hb hby d17_36) rfl ?_
          refine XS.bipush X0.here hx rfl (hb hby d17_37) ?_
          refine XS.icmpYes X0.here hx rfl (pc0 := 39) (pc' := 48) rfl (hb hby d17_39) rfl (teq (cc3 : i1 = (45 : Int32))).1 (by decide) (by decide) ?_
          show Steps p.tables e below (s₁.setTop (mkF m 48 #[.val (.int i1)] [])) _
          refine XS.iconst X0.here hx rfl (hb hby d17_48) ?_
          refine XS.goto X0.here hx rfl (pc0 := 49) (pc' := 53) rfl (hb hby d17_49) (by decide) (by decide) ?_
          exact retN X0 hx (t := .boolean) hret (by simp) (hb hby d17_53) hr
      · have cd2 : ¬ (i1 = (95 : Int32)) := (by intro q; have q' := congrArg Int32.toInt q; have := And.intro (trivial) (own_ub cc2 48 (by decide)); have := rng32 i1; have : ((95 : Int32)).toInt = 95 := (by decide); omega)
        refine ⟨s₁, _, _, _, (some (.int (0 : Int32))), X0, nofun, by decide, by decide, ?_, fun fs hr => ?_⟩
        · show Q15 Z i1 h0 n0 _ s₁.heap _
          rw [e0]
          unfold Q15
          rw [show (if i1 < (65 : Int32) then (if i1 < (48 : Int32) then (if i1 = (45 : Int32) then (1 : Int32) else (0 : Int32)) else (if (57 : Int32) < i1 then (0 : Int32) else (1 : Int32))) else (if (90 : Int32) < i1 then (if i1 < (97 : Int32) then (if i1 = (95 : Int32) then (1 : Int32) else (0 : Int32)) else (1 : Int32)) else (1 : Int32))) = (0 : Int32) from by rw [if_pos cc1, if_pos cc2, if_neg cc3]]
          exact ⟨rfl, N0, rfl⟩
        · show Steps p.tables e below (s₁.setTop (mkF m 0 #[.val (.int i1)] [])) _
          refine XS.iloadN X0.here hx rfl (hb hby d17_0) rfl ?_
          refine XS.bipush X0.here hx rfl (hb hby d17_1) ?_
          refine XS.icmpYes X0.here hx rfl (pc0 := 3) (pc' := 12) rfl (hb hby d17_3) rfl (tlt (cc1 : i1 < (65 : Int32))).1 (by decide) (by decide) ?_
          refine XS.iloadN X0.here hx rfl (hb hby d17_12) rfl ?_
          refine XS.bipush X0.here hx rfl (hb hby d17_13) ?_
          refine XS.icmpYes X0.here hx rfl (pc0 := 15) (pc' := 24) rfl (hb hby d17_15) rfl (tlt (cd1 : i1 < (97 : Int32))).1 (by decide) (by decide) ?_
          refine XS.iloadN X0.here hx rfl (hb hby d17_24) rfl ?_
          refine XS.bipush X0.here hx rfl (hb hby d17_25) ?_
          refine XS.icmpYes X0.here hx rfl (pc0 := 27) (pc' := 36) rfl (hb hby d17_27) rfl (tlt (cc2 : i1 < (48 : Int32))).1 (by decide) (by decide) ?_
          refine XS.iloadN X0.here hx rfl (hb hby d17_36) rfl ?_
          refine XS.bipush X0.here hx rfl (hb hby d17_37) ?_
          refine XS.icmpNo X0.here hx rfl (hb hby d17_39) rfl (feq (cc3 : ¬ (i1 = (45 : Int32)))).1 ?_
          show Steps p.tables e below (s₁.setTop (mkF m 42 #[.val (.int i1)] [])) _
          refine XS.iloadN X0.here hx rfl (hb hby d17_42) rfl ?_
          refine XS.bipush X0.here hx rfl (hb hby d17_43) ?_
          refine XS.icmpYes X0.here hx rfl (pc0 := 45) (pc' := 52) rfl (hb hby d17_45) rfl (feq (cd2 : ¬ (i1 = (95 : Int32)))).2 (by decide) (by decide) ?_
          refine XS.iconst X0.here hx rfl (hb hby d17_52) ?_
          exact retN X0 hx (t := .boolean) hret (by simp) (hb hby d17_53) hr
    · by_cases cc3 : (57 : Int32) < i1
      · have cd1 : i1 < (97 : Int32) := (by rw [Int32.lt_iff_toInt_lt]; have := And.intro (own_lb cc3 57 (by decide)) (own_ub cc1 65 (by decide)); have := rng32 i1; have : ((97 : Int32)).toInt = 97 := (by decide); omega)
        have cd2 : ¬ (i1 = (45 : Int32)) := (by intro q; have q' := congrArg Int32.toInt q; have := And.intro (own_lb cc3 57 (by decide)) (own_ub cc1 65 (by decide)); have := rng32 i1; have : ((45 : Int32)).toInt = 45 := (by decide); omega)
        have cd3 : ¬ (i1 = (95 : Int32)) := (by intro q; have q' := congrArg Int32.toInt q; have := And.intro (own_lb cc3 57 (by decide)) (own_ub cc1 65 (by decide)); have := rng32 i1; have : ((95 : Int32)).toInt = 95 := (by decide); omega)
        refine ⟨s₁, _, _, _, (some (.int (0 : Int32))), X0, nofun, by decide, by decide, ?_, fun fs hr => ?_⟩
        · show Q15 Z i1 h0 n0 _ s₁.heap _
          rw [e0]
          unfold Q15
          rw [show (if i1 < (65 : Int32) then (if i1 < (48 : Int32) then (if i1 = (45 : Int32) then (1 : Int32) else (0 : Int32)) else (if (57 : Int32) < i1 then (0 : Int32) else (1 : Int32))) else (if (90 : Int32) < i1 then (if i1 < (97 : Int32) then (if i1 = (95 : Int32) then (1 : Int32) else (0 : Int32)) else (1 : Int32)) else (1 : Int32))) = (0 : Int32) from by rw [if_pos cc1, if_neg cc2, if_pos cc3]]
          exact ⟨rfl, N0, rfl⟩
        · show Steps p.tables e below (s₁.setTop (mkF m 0 #[.val (.int i1)] [])) _
          refine XS.iloadN X0.here hx rfl (hb hby d17_0) rfl ?_
          refine XS.bipush X0.here hx rfl (hb hby d17_1) ?_
          refine XS.icmpYes X0.here hx rfl (pc0 := 3) (pc' := 12) rfl (hb hby d17_3) rfl (tlt (cc1 : i1 < (65 : Int32))).1 (by decide) (by decide) ?_
          refine XS.iloadN X0.here hx rfl (hb hby d17_12) rfl ?_
          refine XS.bipush X0.here hx rfl (hb hby d17_13) ?_
          refine XS.icmpYes X0.here hx rfl (pc0 := 15) (pc' := 24) rfl (hb hby d17_15) rfl (tlt (cd1 : i1 < (97 : Int32))).1 (by decide) (by decide) ?_
          refine XS.iloadN X0.here hx rfl (hb hby d17_24) rfl ?_
          refine XS.bipush X0.here hx rfl (hb hby d17_25) ?_
          refine XS.icmpNo X0.here hx rfl (hb hby d17_27) rfl (flt (cc2 : ¬ (i1 < (48 : Int32)))).1 ?_
          refine XS.iloadN X0.here hx rfl (hb hby d17_30) rfl ?_
          refine XS.bipush X0.here hx rfl (hb hby d17_31) ?_
          refine XS.icmpNo X0.here hx rfl (hb hby d17_33) rfl (tlt (cc3 : (57 : Int32) < i1)).2.2.2 ?_
          show Steps p.tables e below (s₁.setTop (mkF m 36 #[.val (.int i1)] [])) _
          refine XS.iloadN X0.here hx rfl (hb hby d17_36) rfl ?_
          refine XS.bipush X0.here hx rfl (hb hby d17_37) ?_
          refine XS.icmpNo X0.here hx rfl (hb hby d17_39) rfl (feq (cd2 : ¬ (i1 = (45 : Int32)))).1 ?_
          refine XS.iloadN X0.here hx rfl (hb hby d17_42) rfl ?_
          refine XS.bipush X0.here hx rfl (hb hby d17_43) ?_
          refine XS.icmpYes X0.here hx rfl (pc0 := 45) (pc' := 52) rfl (hb hby d17_45) rfl (feq (cd3 : ¬ (i1 = (95 : Int32)))).2 (by decide) (by decide) ?_
          refine XS.iconst X0.here hx rfl (hb hby d17_52) ?_
          exact retN X0 hx (t := .boolean) hret (by simp) (hb hby d17_53) hr
      · have cd1 : i1 < (97 : Int32) := (by rw [Int32.lt_iff_toInt_lt]; have := And.intro (own_nub cc2 48 (by decide)) (own_nlb cc3 57 (by decide)); have := rng32 i1; have : ((97 : Int32)).toInt = 97 := (by decide); omega)
        refine ⟨s₁, _, _, _, (some (.int (1 : Int32))), X0, nofun, by decide, by decide, ?_, fun fs hr => ?_⟩
        · show Q15 Z i1 h0 n0 _ s₁.heap _
          rw [e0]
          unfold Q15
          rw [show (if i1 < (65 : Int32) then (if i1 < (48 : Int32) then (if i1 = (45 : Int32) then (1 : Int32) else (0 : Int32)) else (if (57 : Int32) < i1 then (0 : Int32) else (1 : Int32))) else (if (90 : Int32) < i1 then (if i1 < (97 : Int32) then (if i1 = (95 : Int32) then (1 : Int32) else (0 : Int32)) else (1 : Int32)) else (1 : Int32))) = (1 : Int32) from by rw [if_pos cc1, if_neg cc2, if_neg cc3]]
          exact ⟨rfl, N0, rfl⟩
        · show Steps p.tables e below (s₁.setTop (mkF m 0 #[.val (.int i1)] [])) _
          refine XS.iloadN X0.here hx rfl (hb hby d17_0) rfl ?_
          refine XS.bipush X0.here hx rfl (hb hby d17_1) ?_
          refine XS.icmpYes X0.here hx rfl (pc0 := 3) (pc' := 12) rfl (hb hby d17_3) rfl (tlt (cc1 : i1 < (65 : Int32))).1 (by decide) (by decide) ?_
          refine XS.iloadN X0.here hx rfl (hb hby d17_12) rfl ?_
          refine XS.bipush X0.here hx rfl (hb hby d17_13) ?_
          refine XS.icmpYes X0.here hx rfl (pc0 := 15) (pc' := 24) rfl (hb hby d17_15) rfl (tlt (cd1 : i1 < (97 : Int32))).1 (by decide) (by decide) ?_
          refine XS.iloadN X0.here hx rfl (hb hby d17_24) rfl ?_
          refine XS.bipush X0.here hx rfl (hb hby d17_25) ?_
          refine XS.icmpNo X0.here hx rfl (hb hby d17_27) rfl (flt (cc2 : ¬ (i1 < (48 : Int32)))).1 ?_
          refine XS.iloadN X0.here hx rfl (hb hby d17_30) rfl ?_
          refine XS.bipush X0.here hx rfl (hb hby d17_31) ?_
          refine XS.icmpYes X0.here hx rfl (pc0 := 33) (pc' := 48) rfl (hb hby d17_33) rfl (flt (cc3 : ¬ ((57 : Int32) < i1))).2.2.2 (by decide) (by decide) ?_
          show Steps p.tables e below (s₁.setTop (mkF m 48 #[.val (.int i1)] [])) _
          refine XS.iconst X0.here hx rfl (hb hby d17_48) ?_
          refine XS.goto X0.here hx rfl (pc0 := 49) (pc' := 53) rfl (hb hby d17_49) (by decide) (by decide) ?_
          exact retN X0 hx (t := .boolean) hret (by simp) (hb hby d17_53) hr
  · by_cases cc2 : (90 : Int32) < i1
    · by_cases cc3 : i1 < (97 : Int32)
      · have cd1 : ¬ (i1 < (48 : Int32)) := (by rw [Int32.lt_iff_toInt_lt]; have := And.intro (own_lb cc2 90 (by decide)) (own_ub cc3 97 (by decide)); have := rng32 i1; have : ((48 : Int32)).toInt = 48 := (by decide); omega)
        have cd2 : (57 : Int32) < i1 := (by rw [Int32.lt_iff_toInt_lt]; have : ((57 : Int32)).toInt = 57 := (by decide); have := And.intro (own_lb cc2 90 (by decide)) (own_ub cc3 97 (by decide)); have := rng32 i1; omega)
        have cd3 : ¬ (i1 = (45 : Int32)) := (by intro q; have q' := congrArg Int32.toInt q; have := And.intro (own_lb cc2 90 (by decide)) (own_ub cc3 97 (by decide)); have := rng32 i1; have : ((45 : Int32)).toInt = 45 := (by decide); omega)
        by_cases cc4 : i1 = (95 : Int32)
        · refine ⟨s₁, _, _, _, (some (.int (1 : Int32))), X0, nofun, by decide, by decide, ?_, fun fs hr => ?_⟩
          · show Q15 Z i1 h0 n0 _ s₁.heap _
            rw [e0]
            unfold Q15
            rw [show (if i1 < (65 : Int32) then (if i1 < (48 : Int32) then (if i1 = (45 : Int32) then (1 : Int32) else (0 : Int32)) else (if (57 : Int32) < i1 then (0 : Int32) else (1 : Int32))) else (if (90 : Int32) < i1 then (if i1 < (97 : Int32) then (if i1 = (95 : Int32) then (1 : Int32) else (0 : Int32)) else (1 : Int32)) else (1 : Int32))) = (1 : Int32) from by rw [if_neg cc1, if_pos cc2, if_pos cc3, if_pos cc4]]
            exact ⟨rfl, N0, rfl⟩
          · show Steps p.tables e below (s₁.setTop (mkF m 0 #[.val (.int i1)] [])) _
            refine XS.iloadN X0.here hx rfl (hb hby d17_0) rfl ?_
            refine XS.bipush X0.here hx rfl (hb hby d17_1) ?_
            refine XS.icmpNo X0.here hx rfl (hb hby d17_3) rfl (flt (cc1 : ¬ (i1 < (65 : Int32)))).1 ?_
            refine XS.iloadN X0.here hx rfl (hb hby d17_6) rfl ?_
            refine XS.bipush X0.here hx rfl (hb hby d17_7) ?_
            refine XS.icmpNo X0.here hx rfl (hb hby d17_9) rfl (tlt (cc2 : (90 : Int32) < i1)).2.2.2 ?_
            refine XS.iloadN X0.here hx rfl (hb hby d17_12) rfl ?_
            refine XS.bipush X0.here hx rfl (hb hby d17_13) ?_
            refine XS.icmpYes X0.here hx rfl (pc0 := 15) (pc' := 24) rfl (hb hby d17_15) rfl (tlt (cc3 : i1 < (97 : Int32))).1 (by decide) (by decide) ?_
            refine XS.iloadN X0.here hx rfl (hb hby d17_24) rfl ?_
            refine XS.bipush X0.here hx rfl (hb hby d17_25) ?_
            refine XS.icmpNo X0.here hx rfl (hb hby d17_27) rfl (flt (cd1 : ¬ (i1 < (48 : Int32)))).1 ?_
            show Steps p.tables e below (s₁.setTop (mkF m 30 #[.val (.int i1)] [])) _
            refine XS.iloadN X0.here hx rfl (hb hby d17_30) rfl ?_
            refine XS.bipush X0.here hx rfl (hb hby d17_31) ?_
            refine XS.icmpNo X0.here hx rfl (hb hby d17_33) rfl (tlt (cd2 : (57 : Int32) < i1)).2.2.2 ?_
            refine XS.iloadN X0.here hx rfl (hb hby d17_36) rfl ?_
            refine XS.bipush X0.here hx rfl (hb hby d17_37) ?_
            refine XS.icmpNo X0.here hx rfl (hb hby d17_39) rfl (feq (cd3 : ¬ (i1 = (45 : Int32)))).1 ?_
            refine XS.iloadN X0.here hx rfl (hb hby d17_42) rfl ?_
            refine XS.bipush X0.here hx rfl (hb hby d17_43) ?_
            refine XS.icmpNo X0.here hx rfl (hb hby d17_45) rfl (teq (cc4 : i1 = (95 : Int32))).2 ?_
            refine XS.iconst X0.here hx rfl (hb hby d17_48) ?_
            refine XS.goto X0.here hx rfl (pc0 := 49) (pc' := 53) rfl (hb hby d17_49) (by decide) (by decide) ?_
            exact retN X0 hx (t := .boolean) hret (by simp) (hb hby d17_53) hr
        · refine ⟨s₁, _, _, _, (some (.int (0 : Int32))), X0, nofun, by decide, by decide, ?_, fun fs hr => ?_⟩
          · show Q15 Z i1 h0 n0 _ s₁.heap _
            rw [e0]
            unfold Q15
            rw [show (if i1 < (65 : Int32) then (if i1 < (48 : Int32) then (if i1 = (45 : Int32) then (1 : Int32) else (0 : Int32)) else (if (57 : Int32) < i1 then (0 : Int32) else (1 : Int32))) else (if (90 : Int32) < i1 then (if i1 < (97 : Int32) then (if i1 = (95 : Int32) then (1 : Int32) else (0 : Int32)) else (1 : Int32)) else (1 : Int32))) = (0 : Int32) from by rw [if_neg cc1, if_pos cc2, if_pos cc3, if_neg cc4]]
            exact ⟨rfl, N0, rfl⟩
          · show Steps p.tables e below (s₁.setTop (mkF m 0 #[.val (.int i1)] [])) _
            refine XS.iloadN X0.here hx rfl (hb hby d17_0) rfl ?_
            refine XS.bipush X0.here hx rfl (hb hby d17_1) ?_
            refine XS.icmpNo X0.here hx rfl (hb hby d17_3) rfl (flt (cc1 : ¬ (i1 < (65 : Int32)))).1 ?_
            refine XS.iloadN X0.here hx rfl (hb hby d17_6) rfl ?_
            refine XS.bipush X0.here hx rfl (hb hby d17_7) ?_
            refine XS.icmpNo X0.here hx rfl (hb hby d17_9) rfl (tlt (cc2 : (90 : Int32) < i1)).2.2.2 ?_
            refine XS.iloadN X0.here hx rfl (hb hby d17_12) rfl ?_
            refine XS.bipush X0.here hx rfl (hb hby d17_13) ?_
            refine XS.icmpYes X0.here hx rfl (pc0 := 15) (pc' := 24) rfl (hb hby d17_15) rfl (tlt (cc3 : i1 < (97 : Int32))).1 (by decide) (by decide) ?_
            refine XS.iloadN X0.here hx rfl (hb hby d17_24) rfl ?_
            refine XS.bipush X0.here hx rfl (hb hby d17_25) ?_
            refine XS.icmpNo X0.here hx rfl (hb hby d17_27) rfl (flt (cd1 : ¬ (i1 < (48 : Int32)))).1 ?_
            show Steps p.tables e below (s₁.setTop (mkF m 30 #[.val (.int i1)] [])) _
            refine XS.iloadN X0.here hx rfl (hb hby d17_30) rfl ?_
            refine XS.bipush X0.here hx rfl (hb hby d17_31) ?_
            refine XS.icmpNo X0.here hx rfl (hb hby d17_33) rfl (tlt (cd2 : (57 : Int32) < i1)).2.2.2 ?_
            refine XS.iloadN X0.here hx rfl (hb hby d17_36) rfl ?_
            refine XS.bipush X0.here hx rfl (hb hby d17_37) ?_
            refine XS.icmpNo X0.here hx rfl (hb hby d17_39) rfl (feq (cd3 : ¬ (i1 = (45 : Int32)))).1 ?_
            refine XS.iloadN X0.here hx rfl (hb hby d17_42) rfl ?_
            refine XS.bipush X0.here hx rfl (hb hby d17_43) ?_
            refine XS.icmpYes X0.here hx rfl (pc0 := 45) (pc' := 52) rfl (hb hby d17_45) rfl (feq (cc4 : ¬ (i1 = (95 : Int32)))).2 (by decide) (by decide) ?_
            refine XS.iconst X0.here hx rfl (hb hby d17_52) ?_
            exact retN X0 hx (t := .boolean) hret (by simp) (hb hby d17_53) hr
      · refine ⟨s₁, _, _, _, (some (.int (1 : Int32))), X0, nofun, by decide, by decide, ?_, fun fs hr => ?_⟩
        · show Q15 Z i1 h0 n0 _ s₁.heap _
          rw [e0]
          unfold Q15
          rw [show (if i1 < (65 : Int32) then (if i1 < (48 : Int32) then (if i1 = (45 : Int32) then (1 : Int32) else (0 : Int32)) else (if (57 : Int32) < i1 then (0 : Int32) else (1 : Int32))) else (if (90 : Int32) < i1 then (if i1 < (97 : Int32) then (if i1 = (95 : Int32) then (1 : Int32) else (0 : Int32)) else (1 : Int32)) else (1 : Int32))) = (1 : Int32) from by rw [if_neg cc1, if_pos cc2, if_neg cc3]]
          exact ⟨rfl, N0, rfl⟩
        · show Steps p.tables e below (s₁.setTop (mkF m 0 #[.val (.int i1)] [])) _
          refine XS.iloadN X0.here hx rfl (hb hby d17_0) rfl ?_
          refine XS.bipush X0.here hx rfl (hb hby d17_1) ?_
          refine XS.icmpNo X0.here hx rfl (hb hby d17_3) rfl (flt (cc1 : ¬ (i1 < (65 : Int32)))).1 ?_
          refine XS.iloadN X0.here hx rfl (hb hby d17_6) rfl ?_
          refine XS.bipush X0.here hx rfl (hb hby d17_7) ?_
          refine XS.icmpNo X0.here hx rfl (hb hby d17_9) rfl (tlt (cc2 : (90 : Int32) < i1)).2.2.2 ?_
          refine XS.iloadN X0.here hx rfl (hb hby d17_12) rfl ?_
          refine XS.bipush X0.here hx rfl (hb hby d17_13) ?_
          refine XS.icmpNo X0.here hx rfl (hb hby d17_15) rfl (flt (cc3 : ¬ (i1 < (97 : Int32)))).1 ?_
          refine XS.iloadN X0.here hx rfl (hb hby d17_18) rfl ?_
          refine XS.bipush X0.here hx rfl (hb hby d17_19) ?_
          refine XS.icmpYes X0.here hx rfl (pc0 := 21) (pc' := 48) rfl (hb hby d17_21) rfl (flt (c2 : ¬ ((122 : Int32) < i1))).2.2.2 (by decide) (by decide) ?_
          show Steps p.tables e below (s₁.setTop (mkF m 48 #[.val (.int i1)] [])) _
          refine XS.iconst X0.here hx rfl (hb hby d17_48) ?_
          refine XS.goto X0.here hx rfl (pc0 := 49) (pc' := 53) rfl (hb hby d17_49) (by decide) (by decide) ?_
          exact retN X0 hx (t := .boolean) hret (by simp) (hb hby d17_53) hr
    · refine ⟨s₁, _, _, _, (some (.int (1 : Int32))), X0, nofun, by decide, by decide, ?_, fun fs hr => ?_⟩
      · show Q15 Z i1 h0 n0 _ s₁.heap _
        rw [e0]
        unfold Q15
        rw [show (if i1 < (65 : Int32) then (if i1 < (48 : Int32) then (if i1 = (45 : Int32) then (1 : Int32) else (0 : Int32)) else (if (57 : Int32) < i1 then (0 : Int32) else (1 : Int32))) else (if (90 : Int32) < i1 then (if i1 < (97 : Int32) then (if i1 = (95 : Int32) then (1 : Int32) else (0 : Int32)) else (1 : Int32)) else (1 : Int32))) = (1 : Int32) from by rw [if_neg cc1, if_neg cc2]]
        exact ⟨rfl, N0, rfl⟩
      · show Steps p.tables e below (s₁.setTop (mkF m 0 #[.val (.int i1)] [])) _
        refine XS.iloadN X0.here hx rfl (hb hby d17_0) rfl ?_
        refine XS.bipush X0.here hx rfl (hb hby d17_1) ?_
        refine XS.icmpNo X0.here hx rfl (hb hby d17_3) rfl (flt (cc1 : ¬ (i1 < (65 : Int32)))).1 ?_
        refine XS.iloadN X0.here hx rfl (hb hby d17_6) rfl ?_
        refine XS.bipush X0.here hx rfl (hb hby d17_7) ?_
        refine XS.icmpYes X0.here hx rfl (pc0 := 9) (pc' := 48) rfl (hb hby d17_9) rfl (flt (cc2 : ¬ ((90 : Int32) < i1))).2.2.2 (by decide) (by decide) ?_
        refine XS.iconst X0.here hx rfl (hb hby d17_48) ?_
        refine XS.goto X0.here hx rfl (pc0 := 49) (pc' := 53) rfl (hb hby d17_49) (by decide) (by decide) ?_
        exact retN X0 hx (t := .boolean) hret (by simp) (hb hby d17_53) hr
theorem pd_12 : parseMethodDescriptor "(C)Z" = some ⟨[.char], some .boolean⟩ := by decide +kernel
theorem w_36 {a0 : Array Value} {Z : State} (hw : ∀ d ∈ tables_1, d.before a0 Z = true) : Jvm.Cond.before (Jvm.Cond.initialized "com/example/bare_queue/barequeue/QueueName") a0 Z = true := hw _ (List.mem_of_getElem? (i := 36) rfl)
theorem w_77 {a0 : Array Value} {Z : State} (hw : ∀ d ∈ tables_1, d.before a0 Z = true) : Jvm.Cond.before (Jvm.Cond.code ({ cls := "com/example/bare_queue/barequeue/QueueName", name := "isAllowed", desc := "(C)Z" } : Jvm.MethodName) prog_12_method_3_code (1 : Nat) (Option.some Jvm.ClassFile.FieldType.boolean)) a0 Z = true := hw _ (List.mem_of_getElem? (i := 77) rfl)
theorem w_75 {a0 : Array Value} {Z : State} (hw : ∀ d ∈ tables_1, d.before a0 Z = true) : Jvm.Cond.before (Jvm.Cond.methodLink "com/example/bare_queue/barequeue/QueueName" (34 : Nat) ({ cls := "com/example/bare_queue/barequeue/QueueName", name := "isAllowed", desc := "(C)Z" } : Jvm.MethodName)) a0 Z = true := hw _ (List.mem_of_getElem? (i := 75) rfl)
theorem w_76 {a0 : Array Value} {Z : State} (hw : ∀ d ∈ tables_1, d.before a0 Z = true) : Jvm.Cond.before (Jvm.Cond.static ({ cls := "com/example/bare_queue/barequeue/QueueName", name := "isAllowed", desc := "(C)Z" } : Jvm.MethodName)) a0 Z = true := hw _ (List.mem_of_getElem? (i := 76) rfl)
theorem d8_39 : decode prog_12_method_2_code 39 = .ok (.ifCond .ne 47, 3) := by decide +kernel
theorem d8_86 : decode prog_12_method_2_code 86 = .ok (.iinc 1 1, 3) := by decide +kernel
theorem d8_89 : decode prog_12_method_2_code 89 = .ok (.goto (-66), 3) := by decide +kernel
abbrev RmT8 : Room := { frames := 6, cells := 1, slots := 4, locals := 120 }
-- a turn of com/example/bare_queue/barequeue/QueueName.of(Ljava/lang/String;)Lcom/example/bare_queue/barequeue/QueueName;
theorem tn16 (l : Launch) (Z : State) (a0 : Array Value) (hw : ∀ d ∈ tables_1, d.before a0 Z = true) (a1 : Addr) (i2 : Int32) (a3 : Addr) (u4 : List Value) (ck5 : ClassId) (i6 : Int32) (i7 : Int32) (r10 : Value) (i13 : Int32) (h0 : Heap) (n0 : Nat) (Z0 : n0 ≤ h0.size) (E_a1 : Exa Z h0 a1 "java/lang/String") (F_value_a1 : Fld Z h0 a1 "java/lang/String" "value" "[B" (.ref a3)) (V_a3 : Arv Z h0 a3 ck5 .byte i6 u4 (.int (0 : Int32))) (S_COMPACT_STRINGS : Sta Z Z.heap "java/lang/String" "COMPACT_STRINGS" "Z" (.int i7)) (Od0 : Old Z n0 h0) (c8 : ¬ (i7 = (0 : Int32))) (F_coder_a1 : Fld Z h0 a1 "java/lang/String" "coder" "B" (.int (0 : Int32))) (c9 : i2 < (i6 >>> ((0 : Int32) &&& 31))) (R_r10 : r10.isRef = true) (S_SIOOBE_FORMATTER : Sta Z Z.heap "jdk/internal/util/Preconditions" "SIOOBE_FORMATTER" "Ljava/util/function/BiFunction;" r10) (c11 : ¬ (i2 < (0 : Int32))) (c12 : i2 < i6) (rd14 : u4.getD (i2).toNatClampNeg (.int (0 : Int32)) = (.int i13)) (c15 : ¬ ((122 : Int32) < (nar .char (nar .char ((i13 &&& (255 : Int32)).toUInt32.toUInt16.toUInt32.toInt32))))) (c16 : ¬ ((if (nar .char (nar .char ((i13 &&& (255 : Int32)).toUInt32.toUInt16.toUInt32.toInt32))) < (65 : Int32) then (if (nar .char (nar .char ((i13 &&& (255 : Int32)).toUInt32.toUInt16.toUInt32.toInt32))) < (48 : Int32) then (if (nar .char (nar .char ((i13 &&& (255 : Int32)).toUInt32.toUInt16.toUInt32.toInt32))) = (45 : Int32) then (1 : Int32) else (0 : Int32)) else (if (57 : Int32) < (nar .char (nar .char ((i13 &&& (255 : Int32)).toUInt32.toUInt16.toUInt32.toInt32))) then (0 : Int32) else (1 : Int32))) else (if (90 : Int32) < (nar .char (nar .char ((i13 &&& (255 : Int32)).toUInt32.toUInt16.toUInt32.toInt32))) then (if (nar .char (nar .char ((i13 &&& (255 : Int32)).toUInt32.toUInt16.toUInt32.toInt32))) < (97 : Int32) then (if (nar .char (nar .char ((i13 &&& (255 : Int32)).toUInt32.toUInt16.toUInt32.toInt32))) = (95 : Int32) then (1 : Int32) else (0 : Int32)) else (1 : Int32)) else (1 : Int32))) = (0 : Int32))) {p : Program} {e : Env} {s : State} {m : MethodId} {args : Array Value} {below : List Frame} {meth : Method} {c : Code} {s₁ : State} {L0 : List Loc} {ce sl : Nat} (hx : p.tables.exec = Jvm.exec) (hby : c.code = prog_12_method_2_code) (hml : c.maxLocals = 3) (hown : s.vm.findClass "com/example/bare_queue/barequeue/QueueName" = some m.cls) (hZ : Z.Warmed39 s.vm) (X0 : Stand p l e RmT8 s m args below meth c s₁ L0 ce sl) (e0 : s₁.heap = h0) (N0 : Fr n0 L0) (hce : ce ≤ RmT8.cells) (hsl : sl ≤ RmT8.slots) :
    ∃ (T : State) (L : List Loc), Stand p l e RmT8 s m args below meth c T L ce sl ∧ T.heap = h0 ∧ Fr n0 L ∧ ∀ target, Steps p.tables e below (T.setTop (mkF m 23 #[.val (.ref a1), .val (.int (i2 + (1 : Int32))), .unset] [])) target → Steps p.tables e below (s₁.setTop (mkF m 23 #[.val (.ref a1), .val (.int i2), .unset] [])) target := by
  obtain ⟨_, T1, L1, X1, hQ1, st1⟩ := own_virtual X0 hx hZ hown (y := y_8) (z := y_8) E_a1 (w_43 hw) (w_44 hw) (notFace_of_selects (args := #[]) (mvT hZ (w_46 hw))) (w_46 hw) (w_45 hw) (w_7 hw) (w_47 hw) (rm9 l Z a0 hw [] a1 a3 u4 ck5 i6 i7 h0 n0 Z0 F_value_a1 V_a3 E_a1 S_COMPACT_STRINGS Od0 c8 F_coder_a1) e0 (Ls := #[.val (.ref a1), .val (.int i2), .unset]) (by rw [hml]; rfl) (argsL := []) (rest := [(.int i2)]) (lenOf pd_8 rfl) (hb hby d8_25) (W := 1) (hc := hce) (hs := hsl)
  obtain ⟨rfl, Nq1, e1⟩ := hQ1
  have N1 := Fr.app N0 Nq1
  obtain ⟨_, T2, L2, X2, hQ2, st2⟩ := own_virtual X1 hx hZ hown (y := y_13) (z := y_13) E_a1 (w_53 hw) (w_54 hw) (notFace_of_selects (args := #[]) (mvT hZ (w_56 hw))) (w_56 hw) (w_55 hw) (w_7 hw) (w_57 hw) (rm14 l Z a0 hw [] a1 i2 i7 a3 u4 ck5 i6 r10 i13 h0 n0 Z0 E_a1 S_COMPACT_STRINGS Od0 c8 F_coder_a1 F_value_a1 V_a3 R_r10 S_SIOOBE_FORMATTER c11 c12 rd14) e1 (Ls := #[.val (.ref a1), .val (.int i2), .unset]) (by rw [hml]; rfl) (argsL := [(.int i2)]) (rest := []) (lenOf pd_0 rfl) (hb hby d8_33) (W := 0) (hc := hce) (hs := hsl)
  obtain ⟨rfl, Nq2, e2⟩ := hQ2
  have N2 := Fr.app N1 Nq2
  obtain ⟨_, T3, L3, X3, hQ3, st3⟩ := own_callS X2 hx hZ hown (y := y_14) (w_75 hw) (w_76 hw) (w_36 hw) (w_77 hw) (rm15 l Z a0 hw [] (nar .char (nar .char ((i13 &&& (255 : Int32)).toUInt32.toUInt16.toUInt32.toInt32))) h0 n0 Z0 c15) e2 (Ls := #[.val (.ref a1), .val (.int i2), .unset]) (by rw [hml]; rfl) (argsL := [(.int (nar .char (nar .char ((i13 &&& (255 : Int32)).toUInt32.toUInt16.toUInt32.toInt32))))]) (rest := []) (lenOf pd_12 rfl) (hb hby d8_36) (W := 0) (hc := hce) (hs := hsl)
  obtain ⟨rfl, Nq3, e3⟩ := hQ3
  have N3 := Fr.app N2 Nq3
  obtain ⟨x4, ex4⟩ : ∃ z, z = (if (nar .char (nar .char ((i13 &&& (255 : Int32)).toUInt32.toUInt16.toUInt32.toInt32))) < (65 : Int32) then (if (nar .char (nar .char ((i13 &&& (255 : Int32)).toUInt32.toUInt16.toUInt32.toInt32))) < (48 : Int32) then (if (nar .char (nar .char ((i13 &&& (255 : Int32)).toUInt32.toUInt16.toUInt32.toInt32))) = (45 : Int32) then (1 : Int32) else (0 : Int32)) else (if (57 : Int32) < (nar .char (nar .char ((i13 &&& (255 : Int32)).toUInt32.toUInt16.toUInt32.toInt32))) then (0 : Int32) else (1 : Int32))) else (if (90 : Int32) < (nar .char (nar .char ((i13 &&& (255 : Int32)).toUInt32.toUInt16.toUInt32.toInt32))) then (if (nar .char (nar .char ((i13 &&& (255 : Int32)).toUInt32.toUInt16.toUInt32.toInt32))) < (97 : Int32) then (if (nar .char (nar .char ((i13 &&& (255 : Int32)).toUInt32.toUInt16.toUInt32.toInt32))) = (95 : Int32) then (1 : Int32) else (0 : Int32)) else (1 : Int32)) else (1 : Int32))) := ⟨_, rfl⟩
  refine ⟨T3, _, X3, e3, N3, fun target hr => ?_⟩
  show Steps p.tables e below (s₁.setTop (mkF m 23 #[.val (.ref a1), .val (.int i2), .unset] [])) _
  refine XS.iloadN X0.here hx rfl (hb hby d8_23) rfl ?_
  refine XS.aloadN X0.here hx rfl (hb hby d8_24) rfl rfl ?_
  refine st1 _ ?_
  refine XS.icmpNo X1.here hx rfl (hb hby d8_28) rfl (tlt (c9 : i2 < (i6 >>> ((0 : Int32) &&& 31)))).2.1 ?_
  refine XS.aloadN X1.here hx rfl (hb hby d8_31) rfl rfl ?_
  refine XS.iloadN X1.here hx rfl (hb hby d8_32) rfl ?_
  refine st2 _ ?_
  refine st3 _ ?_
  show Steps p.tables e below (T3.setTop (mkF m 39 #[.val (.ref a1), .val (.int i2), .unset] [(.int (if (nar .char (nar .char ((i13 &&& (255 : Int32)).toUInt32.toUInt16.toUInt32.toInt32))) < (65 : Int32) then (if (nar .char (nar .char ((i13 &&& (255 : Int32)).toUInt32.toUInt16.toUInt32.toInt32))) < (48 : Int32) then (if (nar .char (nar .char ((i13 &&& (255 : Int32)).toUInt32.toUInt16.toUInt32.toInt32))) = (45 : Int32) then (1 : Int32) else (0 : Int32)) else (if (57 : Int32) < (nar .char (nar .char ((i13 &&& (255 : Int32)).toUInt32.toUInt16.toUInt32.toInt32))) then (0 : Int32) else (1 : Int32))) else (if (90 : Int32) < (nar .char (nar .char ((i13 &&& (255 : Int32)).toUInt32.toUInt16.toUInt32.toInt32))) then (if (nar .char (nar .char ((i13 &&& (255 : Int32)).toUInt32.toUInt16.toUInt32.toInt32))) < (97 : Int32) then (if (nar .char (nar .char ((i13 &&& (255 : Int32)).toUInt32.toUInt16.toUInt32.toInt32))) = (95 : Int32) then (1 : Int32) else (0 : Int32)) else (1 : Int32)) else (1 : Int32))))])) _
  rw [← ex4]
  refine XS.ifYes X3.here hx rfl (pc0 := 39) (pc' := 86) rfl (hb hby d8_39) rfl ((if0 _ _).trans (feq ((by rw [ex4]; exact c16) : ¬ (x4 = (0 : Int32)))).2) (by decide) (by decide) ?_
  refine XS.iinc X3.here hx rfl (hb hby d8_86) rfl (l' := #[.val (.ref a1), .val (.int (i2 + (1 : Int32))), .unset]) rfl ?_
  refine XS.goto X3.here hx rfl (pc0 := 89) (pc' := 23) rfl (hb hby d8_89) (by decide) (by decide) ?_
  subst ex4
  exact hr
-- a turn of com/example/bare_queue/barequeue/QueueName.of(Ljava/lang/String;)Lcom/example/bare_queue/barequeue/QueueName;
theorem tn17 (l : Launch) (Z : State) (a0 : Array Value) (hw : ∀ d ∈ tables_1, d.before a0 Z = true) (a1 : Addr) (i2 : Int32) (a3 : Addr) (u4 : List Value) (ck5 : ClassId) (i6 : Int32) (i7 : Int32) (h0 : Heap) (n0 : Nat) (Z0 : n0 ≤ h0.size) (E_a1 : Exa Z h0 a1 "java/lang/String") (F_value_a1 : Fld Z h0 a1 "java/lang/String" "value" "[B" (.ref a3)) (V_a3 : Arv Z h0 a3 ck5 .byte i6 u4 (.int (0 : Int32))) (S_COMPACT_STRINGS : Sta Z Z.heap "java/lang/String" "COMPACT_STRINGS" "Z" (.int i7)) (Od0 : Old Z n0 h0) (c8 : ¬ (i7 = (0 : Int32))) (F_coder_a1 : Fld Z h0 a1 "java/lang/String" "coder" "B" (.int (0 : Int32))) (c9 : ¬ (i2 < (i6 >>> ((0 : Int32) &&& 31)))) {p : Program} {e : Env} {s : State} {m : MethodId} {args : Array Value} {below : List Frame} {meth : Method} {c : Code} {s₁ : State} {L0 : List Loc} {ce sl : Nat} (hx : p.tables.exec = Jvm.exec) (hby : c.code = prog_12_method_2_code) (hml : c.maxLocals = 3) (hown : s.vm.findClass "com/example/bare_queue/barequeue/QueueName" = some m.cls) (hZ : Z.Warmed39 s.vm) (X0 : Stand p l e RmT8 s m args below meth c s₁ L0 ce sl) (e0 : s₁.heap = h0) (N0 : Fr n0 L0) (hce : ce ≤ RmT8.cells) (hsl : sl ≤ RmT8.slots) :
    ∃ (T : State) (L : List Loc), Stand p l e RmT8 s m args below meth c T L ce sl ∧ T.heap = h0 ∧ Fr n0 L ∧ ∀ target, Steps p.tables e below (T.setTop (mkF m 92 #[.val (.ref a1), .val (.int i2), .unset] [])) target → Steps p.tables e below (s₁.setTop (mkF m 23 #[.val (.ref a1), .val (.int i2), .unset] [])) target := by
  obtain ⟨_, T1, L1, X1, hQ1, st1⟩ := own_virtual X0 hx hZ hown (y := y_8) (z := y_8) E_a1 (w_43 hw) (w_44 hw) (notFace_of_selects (args := #[]) (mvT hZ (w_46 hw))) (w_46 hw) (w_45 hw) (w_7 hw) (w_47 hw) (rm9 l Z a0 hw [] a1 a3 u4 ck5 i6 i7 h0 n0 Z0 F_value_a1 V_a3 E_a1 S_COMPACT_STRINGS Od0 c8 F_coder_a1) e0 (Ls := #[.val (.ref a1), .val (.int i2), .unset]) (by rw [hml]; rfl) (argsL := []) (rest := [(.int i2)]) (lenOf pd_8 rfl) (hb hby d8_25) (W := 1) (hc := hce) (hs := hsl)
  obtain ⟨rfl, Nq1, e1⟩ := hQ1
  have N1 := Fr.app N0 Nq1
  refine ⟨T1, _, X1, e1, N1, fun target hr => ?_⟩
  show Steps p.tables e below (s₁.setTop (mkF m 23 #[.val (.ref a1), .val (.int i2), .unset] [])) _
  refine XS.iloadN X0.here hx rfl (hb hby d8_23) rfl ?_
  refine XS.aloadN X0.here hx rfl (hb hby d8_24) rfl rfl ?_
  refine st1 _ ?_
  refine XS.icmpYes X1.here hx rfl (pc0 := 28) (pc' := 92) rfl (hb hby d8_28) rfl (flt (c9 : ¬ (i2 < (i6 >>> ((0 : Int32) &&& 31))))).2.1 (by decide) (by decide) ?_
  exact hr
theorem d8_92 : decode prog_12_method_2_code 92 = .ok (.aload_n 0, 1) := by decide +kernel
theorem d8_93 : decode prog_12_method_2_code 93 = .ok (.invokevirtual 26, 3) := by decide +kernel
-- java/lang/String.length()I
abbrev Rm18 : Room := { frames := 1, cells := 0, slots := 0, locals := 13 }
def Q18 (Z : State) (a1 : Addr) (a2 : Addr) (i3 : Int32) (ck4 : ClassId) (i5 : Int32) (h0 : Heap) (n0 : Nat) (v : Option Value) (h : Heap) (L : List Loc) : Prop := v = some (.int (1 : Int32)) ∧ Fr n0 L ∧ h = h0
theorem ef18 (a1 : Addr) (m : MethodId) : entryFrame m #[(.ref a1)] 1 = mkF m 0 #[.val (.ref a1)] [] := by first | (simp [entryFrame, mkF, argsToLocals, Value.category]; done) | rfl
theorem rm18 (l : Launch) (Z : State) (a0 : Array Value) (hw : ∀ d ∈ tables_1, d.before a0 Z = true) (ws : List Jvm.Cond) (a1 : Addr) (a2 : Addr) (i3 : Int32) (ck4 : ClassId) (i5 : Int32) (h0 : Heap) (n0 : Nat) (Z0 : n0 ≤ h0.size) (F_value_a1 : Fld Z h0 a1 "java/lang/String" "value" "[B" (.ref a2)) (V_a2 : Arv Z h0 a2 ck4 .byte (1 : Int32) [(.int i3)] (.int (0 : Int32))) (E_a1 : Exa Z h0 a1 "java/lang/String") (S_COMPACT_STRINGS : Sta Z Z.heap "java/lang/String" "COMPACT_STRINGS" "Z" (.int i5)) (Od0 : Old Z n0 h0) (c6 : ¬ (i5 = (0 : Int32))) (F_coder_a1 : Fld Z h0 a1 "java/lang/String" "coder" "B" (.int (0 : Int32))) :
    OwnMet l Z y_8 jdk_42_method_54_code 1 (some .int) ws Rm18 #[(.ref a1)] h0 (Q18 Z a1 a2 i3 ck4 i5 h0 n0) := by
  refine own_body (plainFor_of_name pn_2) (ef18 a1) ?_
  intro p e s m below meth c s₁ hx hby hml hown hnm hret hZ X0 e0
  have N0 := Fr.nil n0
  obtain ⟨T1, X1, e1, st1⟩ := getF X0 hx hZ hown (host := "") (Or.inl (w_32 hw)) Via.refl e0 F_value_a1 (g := (mkF m 1 #[.val (.ref a1)] [(.ref a1)])) rfl rfl (hb hby d10_1)
  obtain ⟨cl2, Ar2, q2, S2, M2, Hs2, G2⟩ := id V_a2
  obtain ⟨_, T3, L3, X3, hQ3, st3⟩ := own_virtual X1 hx hZ hown (y := y_7) (z := y_7) E_a1 (w_48 hw) (w_49 hw) (notFace_of_selects (args := #[]) (mvT hZ (w_51 hw))) (w_51 hw) (w_50 hw) (w_7 hw) (w_52 hw) (rm8 l Z a0 hw [] a1 i5 h0 n0 Z0 S_COMPACT_STRINGS Od0 c6 F_coder_a1) e1 (Ls := #[.val (.ref a1)]) (by rw [hml]; rfl) (argsL := []) (rest := [(.int (1 : Int32))]) (lenOf pd_7 rfl) (hb hby d10_6) (W := 1)
  obtain ⟨rfl, Nq3, e3⟩ := hQ3
  have N3 := Fr.app N0 Nq3
  refine ⟨T3, _, _, _, (some (.int (1 : Int32))), X3, nofun, by decide, by decide, ?_, fun fs hr => ?_⟩
  · show Q18 Z a1 a2 i3 ck4 i5 h0 n0 _ T3.heap _
    rw [e3]
    exact ⟨rfl, N3, rfl⟩
  · show Steps p.tables e below (s₁.setTop (mkF m 0 #[.val (.ref a1)] [])) _
    refine XS.aloadN X0.here hx rfl (hb hby d10_0) rfl rfl ?_
    refine st1 _ ?_
    refine X1.arraylength hx (by rw [e1]; exact Ar2.1) (State.isArrayOf_alike hZ.alike Ar2.2.1) (g := (mkF m 4 #[.val (.ref a1)] [(.ref a2)])) rfl rfl (hb hby d10_4) _ ?_
    show Steps p.tables e below (T1.setTop (mkF m 5 #[.val (.ref a1)] [(.int cl2.slots.size.toInt32)])) _
    rw [len_of S2 M2]
    refine XS.aloadN X1.here hx rfl (hb hby d10_5) rfl rfl ?_
    refine st3 _ ?_
    refine XS.ishr X3.here hx rfl (hb hby d10_9) rfl ?_
    exact retI X3 hx hret (hb hby d10_10) hr
theorem d8_96 : decode prog_12_method_2_code 96 = .ok (.bipush 80, 2) := by decide +kernel
theorem d8_98 : decode prog_12_method_2_code 98 = .ok (.if_icmp .le 20, 3) := by decide +kernel
theorem d8_118 : decode prog_12_method_2_code 118 = .ok (.new 1, 3) := by decide +kernel
theorem w_78 {a0 : Array Value} {Z : State} (hw : ∀ d ∈ tables_1, d.before a0 Z = true) : Jvm.Cond.before (Jvm.Cond.classLink "com/example/bare_queue/barequeue/QueueName" (1 : Nat) "com/example/bare_queue/barequeue/QueueName") a0 Z = true := hw _ (List.mem_of_getElem? (i := 78) rfl)
theorem w_79 {a0 : Array Value} {Z : State} (hw : ∀ d ∈ tables_1, d.before a0 Z = true) : Jvm.Cond.before (Jvm.Cond.instantiable "com/example/bare_queue/barequeue/QueueName" (1 : Nat)) a0 Z = true := hw _ (List.mem_of_getElem? (i := 79) rfl)
theorem w_85 {a0 : Array Value} {Z : State} (hw : ∀ d ∈ tables_1, d.before a0 Z = true) : Jvm.Cond.before (Jvm.Cond.laysFinal "com/example/bare_queue/barequeue/QueueName" "com/example/bare_queue/barequeue/QueueName" "value" "Ljava/lang/String;") a0 Z = true := hw _ (List.mem_of_getElem? (i := 85) rfl)
theorem d8_121 : decode prog_12_method_2_code 121 = .ok (.dup, 1) := by decide +kernel
theorem d8_122 : decode prog_12_method_2_code 122 = .ok (.aload_n 0, 1) := by decide +kernel
theorem d8_123 : decode prog_12_method_2_code 123 = .ok (.invokespecial 61, 3) := by decide +kernel
theorem d18_0 : decode prog_12_method_1_code 0 = .ok (.aload_n 0, 1) := by decide +kernel
theorem d18_1 : decode prog_12_method_1_code 1 = .ok (.invokespecial 3, 3) := by decide +kernel
theorem w_83 {a0 : Array Value} {Z : State} (hw : ∀ d ∈ tables_1, d.before a0 Z = true) : Jvm.Cond.before (Jvm.Cond.methodLink "com/example/bare_queue/barequeue/QueueName" (3 : Nat) ({ cls := "java/lang/Object", name := "<init>", desc := "()V" } : Jvm.MethodName)) a0 Z = true := hw _ (List.mem_of_getElem? (i := 83) rfl)
theorem d18_4 : decode prog_12_method_1_code 4 = .ok (.aload_n 0, 1) := by decide +kernel
theorem d18_5 : decode prog_12_method_1_code 5 = .ok (.aload_n 1, 1) := by decide +kernel
theorem d18_6 : decode prog_12_method_1_code 6 = .ok (.putfield 9, 3) := by decide +kernel
theorem w_84 {a0 : Array Value} {Z : State} (hw : ∀ d ∈ tables_1, d.before a0 Z = true) : Jvm.Cond.before (Jvm.Cond.fieldLink "com/example/bare_queue/barequeue/QueueName" (9 : Nat) "com/example/bare_queue/barequeue/QueueName" "value" "Ljava/lang/String;") a0 Z = true := hw _ (List.mem_of_getElem? (i := 84) rfl)
theorem d18_9 : decode prog_12_method_1_code 9 = .ok (.return_, 1) := by decide +kernel
abbrev y_15 : MethodName := ⟨"com/example/bare_queue/barequeue/QueueName", "<init>", "(Ljava/lang/String;)V"⟩
-- com/example/bare_queue/barequeue/QueueName.<init>(Ljava/lang/String;)V
abbrev Rm19 : Room := { frames := 1, cells := 0, slots := 0, locals := 12 }
def Q19 (Z : State) (a1 : Addr) (a2 : Addr) (h0 : Heap) (n0 : Nat) (v : Option Value) (h : Heap) (L : List Loc) : Prop := v = none ∧ Fr n0 L ∧ Keep h0 h [a1] ∧ Exa Z h a1 "com/example/bare_queue/barequeue/QueueName" ∧ Fld Z h a1 "com/example/bare_queue/barequeue/QueueName" "value" "Ljava/lang/String;" (.ref a2)
theorem ef19 (a1 : Addr) (a2 : Addr) (m : MethodId) : entryFrame m #[(.ref a1), (.ref a2)] 2 = mkF m 0 #[.val (.ref a1), .val (.ref a2)] [] := by first | (simp [entryFrame, mkF, argsToLocals, Value.category]; done) | rfl
theorem rm19 (l : Launch) (Z : State) (a0 : Array Value) (hw : ∀ d ∈ tables_1, d.before a0 Z = true) (ws : List Jvm.Cond) (a1 : Addr) (a2 : Addr) (h0 : Heap) (n0 : Nat) (Z0 : n0 ≤ h0.size) (F_value_a1 : Fld Z h0 a1 "com/example/bare_queue/barequeue/QueueName" "value" "Ljava/lang/String;" .null) (E_a1 : Exa Z h0 a1 "com/example/bare_queue/barequeue/QueueName") (g_a1 : n0 ≤ a1) :
    OwnMet l Z y_15 prog_12_method_1_code 2 none ws Rm19 #[(.ref a1), (.ref a2)] h0 (Q19 Z a1 a2 h0 n0) := by
  refine own_body (plainFor_of_name pn_5) (ef19 a1 a2) ?_
  intro p e s m below meth c s₁ hx hby hml hown hnm hret hZ X0 e0
  have N0 := Fr.nil n0
  obtain ⟨T1, X1, e1, st1⟩ := initO X0 hx hZ hown (w_83 hw) (w_16 hw) (w_17 hw) e0 (g := (mkF m 1 #[.val (.ref a1), .val (.ref a2)] [(.ref a1)])) rfl (by rw [hml]; rfl) rfl (hb hby d18_1) (by decide) (W := 0) (by show 2 * 0 + _ ≤ _; exact Nat.le_of_eq rfl) (by decide)
  obtain ⟨T2, h2, X2, e2, W2, st2⟩ := putF X1 hx hZ hown (host := "") (Or.inl (w_84 hw)) Via.refl e1 F_value_a1 E_a1 (Or.inr ⟨(w_85 hw), rfl, hnm⟩) (w_79 hw) (ty := (.object "java/lang/String")) (by decide) rfl rfl (g := (mkF m 6 #[.val (.ref a1), .val (.ref a2)] [(.ref a2), (.ref a1)])) rfl rfl (hb hby d18_6)
  have s0 := (Keep.of_wr W2).1
  have N2 := Fr.snoc X2 N0 g_a1
  have Fw2 : Fld Z h2 a1 "com/example/bare_queue/barequeue/QueueName" "value" "Ljava/lang/String;" (.ref a2) := F_value_a1.same W2
  have Ex3 := (E_a1.wr W2)
  have Kp0 : Keep h0 h2 [a1] := (Keep.refl h0 [a1]).wr W2 (Or.inl (List.mem_of_getElem? (i := 0) rfl))
  refine ⟨T2, _, _, _, none, X2, (fun _ => rfl), by decide, by decide, ?_, fun fs hr => ?_⟩
  · show Q19 Z a1 a2 h0 n0 _ T2.heap _
    rw [e2]
    exact ⟨rfl, N2, Kp0, Ex3, Fw2⟩
  · show Steps p.tables e below (s₁.setTop (mkF m 0 #[.val (.ref a1), .val (.ref a2)] [])) _
    refine XS.aloadN X0.here hx rfl (hb hby d18_0) rfl rfl ?_
    refine st1 _ ?_
    refine XS.aloadN X1.here hx rfl (hb hby d18_4) rfl rfl ?_
    refine XS.aloadN X1.here hx rfl (hb hby d18_5) rfl rfl ?_
    refine st2 _ ?_
    exact X2.returnOut hx hret (hb hby d18_9) hr
theorem pd_13 : parseMethodDescriptor "(Ljava/lang/String;)V" = some ⟨[(.object "java/lang/String")], none⟩ := by decide +kernel
theorem w_82 {a0 : Array Value} {Z : State} (hw : ∀ d ∈ tables_1, d.before a0 Z = true) : Jvm.Cond.before (Jvm.Cond.code ({ cls := "com/example/bare_queue/barequeue/QueueName", name := "<init>", desc := "(Ljava/lang/String;)V" } : Jvm.MethodName) prog_12_method_1_code (2 : Nat) (Option.none : Option Jvm.ClassFile.FieldType)) a0 Z = true := hw _ (List.mem_of_getElem? (i := 82) rfl)
theorem w_80 {a0 : Array Value} {Z : State} (hw : ∀ d ∈ tables_1, d.before a0 Z = true) : Jvm.Cond.before (Jvm.Cond.methodLink "com/example/bare_queue/barequeue/QueueName" (61 : Nat) ({ cls := "com/example/bare_queue/barequeue/QueueName", name := "<init>", desc := "(Ljava/lang/String;)V" } : Jvm.MethodName)) a0 Z = true := hw _ (List.mem_of_getElem? (i := 80) rfl)
theorem w_81 {a0 : Array Value} {Z : State} (hw : ∀ d ∈ tables_1, d.before a0 Z = true) : Jvm.Cond.before (Jvm.Cond.instanceMethod ({ cls := "com/example/bare_queue/barequeue/QueueName", name := "<init>", desc := "(Ljava/lang/String;)V" } : Jvm.MethodName)) a0 Z = true := hw _ (List.mem_of_getElem? (i := 81) rfl)
theorem d8_126 : decode prog_12_method_2_code 126 = .ok (.areturn, 1) := by decide +kernel
abbrev y_16 : MethodName := ⟨"com/example/bare_queue/barequeue/QueueName", "of", "(Ljava/lang/String;)Lcom/example/bare_queue/barequeue/QueueName;"⟩
-- com/example/bare_queue/barequeue/QueueName.of(Ljava/lang/String;)Lcom/example/bare_queue/barequeue/QueueName;
abbrev Rm20 : Room := { frames := 6, cells := 1, slots := 4, locals := 120 }
def Q20 (Z : State) (a1 : Addr) (a2 : Addr) (i3 : Int32) (ck4 : ClassId) (i5 : Int32) (r7 : Value) (h0 : Heap) (n0 : Nat) (v : Option Value) (h : Heap) (L : List Loc) : Prop := ∃ b5 : Addr, v = some (.ref b5) ∧ Fr n0 L ∧ Keep h0 h [] ∧ h0.size ≤ b5 ∧ Exa Z h b5 "com/example/bare_queue/barequeue/QueueName" ∧ Fld Z h b5 "com/example/bare_queue/barequeue/QueueName" "value" "Ljava/lang/String;" (.ref a1)
theorem ef20 (a1 : Addr) (m : MethodId) : entryFrame m #[(.ref a1)] 3 = mkF m 0 #[.val (.ref a1), .unset, .unset] [] := by first | (simp [entryFrame, mkF, argsToLocals, Value.category]; done) | rfl
theorem rm20 (l : Launch) (Z : State) (a0 : Array Value) (hw : ∀ d ∈ tables_1, d.before a0 Z = true) (ws : List Jvm.Cond) (a1 : Addr) (a2 : Addr) (i3 : Int32) (ck4 : ClassId) (i5 : Int32) (r7 : Value) (h0 : Heap) (n0 : Nat) (Z0 : n0 ≤ h0.size) (E_a1 : Exa Z h0 a1 "java/lang/String") (F_value_a1 : Fld Z h0 a1 "java/lang/String" "value" "[B" (.ref a2)) (V_a2 : Arv Z h0 a2 ck4 .byte (1 : Int32) [(.int i3)] (.int (0 : Int32))) (S_COMPACT_STRINGS : Sta Z Z.heap "java/lang/String" "COMPACT_STRINGS" "Z" (.int i5)) (Od0 : Old Z n0 h0) (c6 : ¬ (i5 = (0 : Int32))) (F_coder_a1 : Fld Z h0 a1 "java/lang/String" "coder" "B" (.int (0 : Int32))) (R_r7 : r7.isRef = true) (S_SIOOBE_FORMATTER : Sta Z Z.heap "jdk/internal/util/Preconditions" "SIOOBE_FORMATTER" "Ljava/util/function/BiFunction;" r7) (c8 : ¬ ((122 : Int32) < (nar .char (nar .char ((i3 &&& (255 : Int32)).toUInt32.toUInt16.toUInt32.toInt32))))) (c9 : ¬ ((if (nar .char (nar .char ((i3 &&& (255 : Int32)).toUInt32.toUInt16.toUInt32.toInt32))) < (65 : Int32) then (if (nar .char (nar .char ((i3 &&& (255 : Int32)).toUInt32.toUInt16.toUInt32.toInt32))) < (48 : Int32) then (if (nar .char (nar .char ((i3 &&& (255 : Int32)).toUInt32.toUInt16.toUInt32.toInt32))) = (45 : Int32) then (1 : Int32) else (0 : Int32)) else (if (57 : Int32) < (nar .char (nar .char ((i3 &&& (255 : Int32)).toUInt32.toUInt16.toUInt32.toInt32))) then (0 : Int32) else (1 : Int32))) else (if (90 : Int32) < (nar .char (nar .char ((i3 &&& (255 : Int32)).toUInt32.toUInt16.toUInt32.toInt32))) then (if (nar .char (nar .char ((i3 &&& (255 : Int32)).toUInt32.toUInt16.toUInt32.toInt32))) < (97 : Int32) then (if (nar .char (nar .char ((i3 &&& (255 : Int32)).toUInt32.toUInt16.toUInt32.toInt32))) = (95 : Int32) then (1 : Int32) else (0 : Int32)) else (1 : Int32)) else (1 : Int32))) = (0 : Int32))) :
    OwnMet l Z y_16 prog_12_method_2_code 3 (some (.object "com/example/bare_queue/barequeue/QueueName")) ws Rm20 #[(.ref a1)] h0 (Q20 Z a1 a2 i3 ck4 i5 r7 h0 n0) := by
  refine own_body (plainFor_of_name pn_5) (ef20 a1) ?_
  intro p e s m below meth c s₁ hx hby hml hown hnm hret hZ X0 e0
  have N0 := Fr.nil n0
  obtain ⟨_, T1, L1, X1, hQ1, st1⟩ := own_virtual X0 hx hZ hown (y := y_6) (z := y_6) E_a1 (w_38 hw) (w_39 hw) (notFace_of_selects (args := #[]) (mvT hZ (w_41 hw))) (w_41 hw) (w_40 hw) (w_7 hw) (w_42 hw) (rm7 l Z a0 hw [] a1 a2 i3 ck4 h0 n0 Z0 F_value_a1 V_a2) e0 (Ls := #[.val (.ref a1), .unset, .unset]) (by rw [hml]; rfl) (argsL := []) (rest := []) (lenOf pd_6 rfl) (hb hby d8_5) (W := 0)
  obtain ⟨rfl, Nq1, e1⟩ := hQ1
  have N1 := Fr.app N0 Nq1
  obtain ⟨T2, L2, X2, e2, N2, st2⟩ := tn16 l Z a0 hw a1 (0 : Int32) a2 [(.int i3)] ck4 (1 : Int32) i5 r7 i3 h0 n0 Z0 E_a1 F_value_a1 V_a2 S_COMPACT_STRINGS Od0 c6 F_coder_a1 (by decide) R_r7 S_SIOOBE_FORMATTER (by decide) (by decide) rfl c8 c9 hx hby hml hown hZ X1 e1 N1 (by decide) (by decide)
  obtain ⟨T3, L3, X3, e3, N3, st3⟩ := tn17 l Z a0 hw a1 (1 : Int32) a2 [(.int i3)] ck4 (1 : Int32) i5 h0 n0 Z0 E_a1 F_value_a1 V_a2 S_COMPACT_STRINGS Od0 c6 F_coder_a1 (by decide) hx hby hml hown hZ X2 e2 N2 (by decide) (by decide)
  obtain ⟨_, T4, L4, X4, hQ4, st4⟩ := own_virtual X3 hx hZ hown (y := y_8) (z := y_8) E_a1 (w_43 hw) (w_44 hw) (notFace_of_selects (args := #[]) (mvT hZ (w_46 hw))) (w_46 hw) (w_45 hw) (w_7 hw) (w_47 hw) (rm18 l Z a0 hw [] a1 a2 i3 ck4 i5 h0 n0 Z0 F_value_a1 V_a2 E_a1 S_COMPACT_STRINGS Od0 c6 F_coder_a1) e3 (Ls := #[.val (.ref a1), .val (.int (1 : Int32)), .unset]) (by rw [hml]; rfl) (argsL := []) (rest := []) (lenOf pd_8 rfl) (hb hby d8_93) (W := 0)
  obtain ⟨rfl, Nq4, e4⟩ := hQ4
  have N4 := Fr.app N3 Nq4
  obtain ⟨T5, h5, X5, e5, E5, A5, D5, -, st5⟩ := newO X4 hx hZ hown (w_78 hw) (w_79 hw) (w_36 hw) e4 (g := (mkF m 118 #[.val (.ref a1), .val (.int (1 : Int32)), .unset] [])) rfl (hb hby d8_118) (by decide) (by decide)
  obtain ⟨b5, g5⟩ : ∃ z, z = h0.size := ⟨_, rfl⟩
  rw [← g5] at A5 D5 st5
  have s0 := E5.1
  have Fn5_value : Fld Z h5 b5 "com/example/bare_queue/barequeue/QueueName" "value" "Ljava/lang/String;" .null := D5 (Or.inr (w_85 hw)) (ty := (.object "java/lang/String")) (by decide)
  have g_b5 : n0 ≤ b5 := Nat.le_trans Z0 (Nat.le_of_eq g5.symm)
  have z1 := Nat.le_trans Z0 s0
  obtain ⟨_, T6, L6, X6, hQ6, st6⟩ := own_special X5 hx hZ hown (y := y_15) (a := b5) (w_80 hw) (w_81 hw) (w_36 hw) (w_82 hw) (rm19 l Z a0 hw [] b5 a1 h5 n0 z1 Fn5_value A5 g_b5) e5 (Ls := #[.val (.ref a1), .val (.int (1 : Int32)), .unset]) (by rw [hml]; rfl) (argsL := [(.ref a1)]) (rest := [(.ref b5)]) (lenOf pd_13 rfl) (hb hby d8_123) (W := 1)
  obtain ⟨rfl, Nq6, K6, o6_0, o6_1⟩ := hQ6
  have N6 := Fr.app N4 Nq6
  have s1 := K6.1
  have sz_b5 : h0.size ≤ b5 := (Nat.le_of_eq g5.symm)
  have Kp0 : Keep h0 h5 [] := (Keep.refl h0 []).ext E5
  have Kp1 : Keep h0 T6.heap [] := Kp0.trans K6 (allS (Or.inr sz_b5) all0)
  refine ⟨T6, _, _, _, (some (.ref b5)), X6, nofun, by decide, by decide, ?_, fun fs hr => ?_⟩
  · show Q20 Z a1 a2 i3 ck4 i5 r7 h0 n0 _ T6.heap _
    exact ⟨b5, rfl, N6, Kp1, sz_b5, o6_0, o6_1⟩
  · show Steps p.tables e below (s₁.setTop (mkF m 0 #[.val (.ref a1), .unset, .unset] [])) _
    refine XS.aloadN X0.here hx rfl (hb hby d8_0) rfl rfl ?_
    refine XS.ifnullNo X0.here hx rfl (hb hby d8_1) rfl ?_
    refine XS.aloadN X0.here hx rfl (hb hby d8_4) rfl rfl ?_
    refine st1 _ ?_
    refine XS.ifYes X1.here hx rfl (pc0 := 8) (pc' := 21) rfl (hb hby d8_8) rfl ((if0 _ _).trans (teq ((by decide : (0 : Int32) = (0 : Int32)) : (0 : Int32) = (0 : Int32))).1) (by decide) (by decide) ?_
    refine XS.iconst X1.here hx rfl (hb hby d8_21) ?_
    refine XS.istoreN X1.here hx rfl (hb hby d8_22) rfl (l' := #[.val (.ref a1), .val (.int (0 : Int32)), .unset]) rfl ?_
    refine st2 _ ?_
    refine st3 _ ?_
    show Steps p.tables e below (T3.setTop (mkF m 92 #[.val (.ref a1), .val (.int (1 : Int32)), .unset] [])) _
    refine XS.aloadN X3.here hx rfl (hb hby d8_92) rfl rfl ?_
    refine st4 _ ?_
    refine XS.bipush X4.here hx rfl (hb hby d8_96) ?_
    refine XS.icmpYes X4.here hx rfl (pc0 := 98) (pc' := 118) rfl (hb hby d8_98) rfl (flt ((by decide : ¬ ((80 : Int32) < (1 : Int32))) : ¬ ((80 : Int32) < (1 : Int32)))).2.2.2 (by decide) (by decide) ?_
    refine st5 _ ?_
    refine XS.dup X5.here hx rfl (hb hby d8_121) rfl rfl ?_
    refine XS.aloadN X5.here hx rfl (hb hby d8_122) rfl rfl ?_
    refine st6 _ ?_
    exact retOut X6 hx hret rfl (Or.inr (Or.inr (Or.inr (Or.inr ⟨rfl, rfl, rfl⟩)))) (hb hby d8_126) hr
theorem pd_14 : parseMethodDescriptor "(Ljava/lang/String;)Lcom/example/bare_queue/barequeue/QueueName;" = some ⟨[(.object "java/lang/String")], some (.object "com/example/bare_queue/barequeue/QueueName")⟩ := by decide +kernel
theorem w_37 {a0 : Array Value} {Z : State} (hw : ∀ d ∈ tables_1, d.before a0 Z = true) : Jvm.Cond.before (Jvm.Cond.code ({ cls := "com/example/bare_queue/barequeue/QueueName", name := "of", desc := "(Ljava/lang/String;)Lcom/example/bare_queue/barequeue/QueueName;" } : Jvm.MethodName) prog_12_method_2_code (3 : Nat) (Option.some (Jvm.ClassFile.FieldType.object "com/example/bare_queue/barequeue/QueueName"))) a0 Z = true := hw _ (List.mem_of_getElem? (i := 37) rfl)
theorem w_34 {a0 : Array Value} {Z : State} (hw : ∀ d ∈ tables_1, d.before a0 Z = true) : Jvm.Cond.before (Jvm.Cond.methodLink "com/example/bare_queue/barequeue/QueueNameOfPinLaw" (20 : Nat) ({ cls := "com/example/bare_queue/barequeue/QueueName", name := "of", desc := "(Ljava/lang/String;)Lcom/example/bare_queue/barequeue/QueueName;" } : Jvm.MethodName)) a0 Z = true := hw _ (List.mem_of_getElem? (i := 34) rfl)
theorem w_35 {a0 : Array Value} {Z : State} (hw : ∀ d ∈ tables_1, d.before a0 Z = true) : Jvm.Cond.before (Jvm.Cond.static ({ cls := "com/example/bare_queue/barequeue/QueueName", name := "of", desc := "(Ljava/lang/String;)Lcom/example/bare_queue/barequeue/QueueName;" } : Jvm.MethodName)) a0 Z = true := hw _ (List.mem_of_getElem? (i := 35) rfl)
theorem d19_0 : decode prog_12_method_4_code 0 = .ok (.aload_n 0, 1) := by decide +kernel
theorem d19_1 : decode prog_12_method_4_code 1 = .ok (.getfield 9, 3) := by decide +kernel
theorem d19_4 : decode prog_12_method_4_code 4 = .ok (.areturn, 1) := by decide +kernel
abbrev y_17 : MethodName := ⟨"com/example/bare_queue/barequeue/QueueName", "getValue", "()Ljava/lang/String;"⟩
-- com/example/bare_queue/barequeue/QueueName.getValue()Ljava/lang/String;
abbrev Rm21 : Room := { frames := 0, cells := 0, slots := 0, locals := 0 }
def Q21 (Z : State) (a1 : Addr) (a2 : Addr) (h0 : Heap) (n0 : Nat) (v : Option Value) (h : Heap) (L : List Loc) : Prop := v = some (.ref a2) ∧ Fr n0 L ∧ h = h0
theorem ef21 (a1 : Addr) (m : MethodId) : entryFrame m #[(.ref a1)] 1 = mkF m 0 #[.val (.ref a1)] [] := by first | (simp [entryFrame, mkF, argsToLocals, Value.category]; done) | rfl
theorem rm21 (l : Launch) (Z : State) (a0 : Array Value) (hw : ∀ d ∈ tables_1, d.before a0 Z = true) (ws : List Jvm.Cond) (a1 : Addr) (a2 : Addr) (h0 : Heap) (n0 : Nat) (Z0 : n0 ≤ h0.size) (F_value_a1 : Fld Z h0 a1 "com/example/bare_queue/barequeue/QueueName" "value" "Ljava/lang/String;" (.ref a2)) :
    OwnMet l Z y_17 prog_12_method_4_code 1 (some (.object "java/lang/String")) ws Rm21 #[(.ref a1)] h0 (Q21 Z a1 a2 h0 n0) := by
  refine own_body (plainFor_of_name pn_5) (ef21 a1) ?_
  intro p e s m below meth c s₁ hx hby hml hown hnm hret hZ X0 e0
  have N0 := Fr.nil n0
  obtain ⟨T1, X1, e1, st1⟩ := getF X0 hx hZ hown (host := "") (Or.inl (w_84 hw)) Via.refl e0 F_value_a1 (g := (mkF m 1 #[.val (.ref a1)] [(.ref a1)])) rfl rfl (hb hby d19_1)
  refine ⟨T1, _, _, _, (some (.ref a2)), X1, nofun, by decide, by decide, ?_, fun fs hr => ?_⟩
  · show Q21 Z a1 a2 h0 n0 _ T1.heap _
    rw [e1]
    exact ⟨rfl, N0, rfl⟩
  · show Steps p.tables e below (s₁.setTop (mkF m 0 #[.val (.ref a1)] [])) _
    refine XS.aloadN X0.here hx rfl (hb hby d19_0) rfl rfl ?_
    refine st1 _ ?_
    exact retOut X1 hx hret rfl (Or.inr (Or.inr (Or.inr (Or.inr ⟨rfl, rfl, rfl⟩)))) (hb hby d19_4) hr
theorem pd_15 : parseMethodDescriptor "()Ljava/lang/String;" = some ⟨[], some (.object "java/lang/String")⟩ := by decide +kernel
theorem w_90 {a0 : Array Value} {Z : State} (hw : ∀ d ∈ tables_1, d.before a0 Z = true) : Jvm.Cond.before (Jvm.Cond.code ({ cls := "com/example/bare_queue/barequeue/QueueName", name := "getValue", desc := "()Ljava/lang/String;" } : Jvm.MethodName) prog_12_method_4_code (1 : Nat) (Option.some (Jvm.ClassFile.FieldType.object "java/lang/String"))) a0 Z = true := hw _ (List.mem_of_getElem? (i := 90) rfl)
theorem w_86 {a0 : Array Value} {Z : State} (hw : ∀ d ∈ tables_1, d.before a0 Z = true) : Jvm.Cond.before (Jvm.Cond.methodLink "com/example/bare_queue/barequeue/QueueNameOfPinLaw" (26 : Nat) ({ cls := "com/example/bare_queue/barequeue/QueueName", name := "getValue", desc := "()Ljava/lang/String;" } : Jvm.MethodName)) a0 Z = true := hw _ (List.mem_of_getElem? (i := 86) rfl)
theorem w_89 {a0 : Array Value} {Z : State} (hw : ∀ d ∈ tables_1, d.before a0 Z = true) : Jvm.Cond.before (Jvm.Cond.selects "com/example/bare_queue/barequeue/QueueName" ({ cls := "com/example/bare_queue/barequeue/QueueName", name := "getValue", desc := "()Ljava/lang/String;" } : Jvm.MethodName) ({ cls := "com/example/bare_queue/barequeue/QueueName", name := "getValue", desc := "()Ljava/lang/String;" } : Jvm.MethodName)) a0 Z = true := hw _ (List.mem_of_getElem? (i := 89) rfl)
theorem w_87 {a0 : Array Value} {Z : State} (hw : ∀ d ∈ tables_1, d.before a0 Z = true) : Jvm.Cond.before (Jvm.Cond.declares ({ cls := "com/example/bare_queue/barequeue/QueueName", name := "getValue", desc := "()Ljava/lang/String;" } : Jvm.MethodName)) a0 Z = true := hw _ (List.mem_of_getElem? (i := 87) rfl)
theorem w_88 {a0 : Array Value} {Z : State} (hw : ∀ d ∈ tables_1, d.before a0 Z = true) : Jvm.Cond.before (Jvm.Cond.instanceMethod ({ cls := "com/example/bare_queue/barequeue/QueueName", name := "getValue", desc := "()Ljava/lang/String;" } : Jvm.MethodName)) a0 Z = true := hw _ (List.mem_of_getElem? (i := 88) rfl)
theorem d20_0 : decode jdk_42_method_66_code 0 = .ok (.aload_n 0, 1) := by decide +kernel
theorem d20_1 : decode jdk_42_method_66_code 1 = .ok (.aload_n 1, 1) := by decide +kernel
theorem d20_2 : decode jdk_42_method_66_code 2 = .ok (.if_acmp .ne 5, 3) := by decide +kernel
theorem d20_5 : decode jdk_42_method_66_code 5 = .ok (.iconst 1, 1) := by decide +kernel
theorem d20_6 : decode jdk_42_method_66_code 6 = .ok (.ireturn, 1) := by decide +kernel
abbrev y_18 : MethodName := ⟨"java/lang/String", "equals", "(Ljava/lang/Object;)Z"⟩
-- java/lang/String.equals(Ljava/lang/Object;)Z
abbrev Rm22 : Room := { frames := 0, cells := 0, slots := 0, locals := 0 }
def Q22 (Z : State) (a1 : Addr) (h0 : Heap) (n0 : Nat) (v : Option Value) (h : Heap) (L : List Loc) : Prop := v = some (.int (1 : Int32)) ∧ Fr n0 L ∧ h = h0
theorem ef22 (a1 : Addr) (m : MethodId) : entryFrame m #[(.ref a1), (.ref a1)] 3 = mkF m 0 #[.val (.ref a1), .val (.ref a1), .unset] [] := by first | (simp [entryFrame, mkF, argsToLocals, Value.category]; done) | rfl
theorem rm22 (l : Launch) (Z : State) (a0 : Array Value) (hw : ∀ d ∈ tables_1, d.before a0 Z = true) (ws : List Jvm.Cond) (a1 : Addr) (h0 : Heap) (n0 : Nat) (Z0 : n0 ≤ h0.size) :
    OwnMet l Z y_18 jdk_42_method_66_code 3 (some .boolean) ws Rm22 #[(.ref a1), (.ref a1)] h0 (Q22 Z a1 h0 n0) := by
  refine own_body (plainFor_of_name pn_2) (ef22 a1) ?_
  intro p e s m below meth c s₁ hx hby hml hown hnm hret hZ X0 e0
  have N0 := Fr.nil n0
  refine ⟨s₁, _, _, _, (some (.int (1 : Int32))), X0, nofun, by decide, by decide, ?_, fun fs hr => ?_⟩
  · show Q22 Z a1 h0 n0 _ s₁.heap _
    rw [e0]
    exact ⟨rfl, N0, rfl⟩
  · show Steps p.tables e below (s₁.setTop (mkF m 0 #[.val (.ref a1), .val (.ref a1), .unset] [])) _
    refine XS.aloadN X0.here hx rfl (hb hby d20_0) rfl rfl ?_
    refine XS.aloadN X0.here hx rfl (hb hby d20_1) rfl rfl ?_
    refine Jvm.RoadKit.acmp (g := (mkF m 2 #[.val (.ref a1), .val (.ref a1), .unset] [(.ref a1), (.ref a1)])) X0 hx rfl rfl rfl (pc0 := 2) (pc' := 5) (same := true) rfl (hb hby d20_2) rfl (decide_eq_true rfl) (by decide) (by decide) ?_
    refine XS.iconst X0.here hx rfl (hb hby d20_5) ?_
    exact retN X0 hx (t := .boolean) hret (by simp) (hb hby d20_6) hr
theorem pd_16 : parseMethodDescriptor "(Ljava/lang/Object;)Z" = some ⟨[(.object "java/lang/Object")], some .boolean⟩ := by decide +kernel
theorem w_95 {a0 : Array Value} {Z : State} (hw : ∀ d ∈ tables_1, d.before a0 Z = true) : Jvm.Cond.before (Jvm.Cond.code ({ cls := "java/lang/String", name := "equals", desc := "(Ljava/lang/Object;)Z" } : Jvm.MethodName) jdk_42_method_66_code (3 : Nat) (Option.some Jvm.ClassFile.FieldType.boolean)) a0 Z = true := hw _ (List.mem_of_getElem? (i := 95) rfl)
theorem w_91 {a0 : Array Value} {Z : State} (hw : ∀ d ∈ tables_1, d.before a0 Z = true) : Jvm.Cond.before (Jvm.Cond.methodLink "com/example/bare_queue/barequeue/QueueNameOfPinLaw" (30 : Nat) ({ cls := "java/lang/String", name := "equals", desc := "(Ljava/lang/Object;)Z" } : Jvm.MethodName)) a0 Z = true := hw _ (List.mem_of_getElem? (i := 91) rfl)
theorem w_94 {a0 : Array Value} {Z : State} (hw : ∀ d ∈ tables_1, d.before a0 Z = true) : Jvm.Cond.before (Jvm.Cond.selects "java/lang/String" ({ cls := "java/lang/String", name := "equals", desc := "(Ljava/lang/Object;)Z" } : Jvm.MethodName) ({ cls := "java/lang/String", name := "equals", desc := "(Ljava/lang/Object;)Z" } : Jvm.MethodName)) a0 Z = true := hw _ (List.mem_of_getElem? (i := 94) rfl)
theorem w_92 {a0 : Array Value} {Z : State} (hw : ∀ d ∈ tables_1, d.before a0 Z = true) : Jvm.Cond.before (Jvm.Cond.declares ({ cls := "java/lang/String", name := "equals", desc := "(Ljava/lang/Object;)Z" } : Jvm.MethodName)) a0 Z = true := hw _ (List.mem_of_getElem? (i := 92) rfl)
theorem w_93 {a0 : Array Value} {Z : State} (hw : ∀ d ∈ tables_1, d.before a0 Z = true) : Jvm.Cond.before (Jvm.Cond.instanceMethod ({ cls := "java/lang/String", name := "equals", desc := "(Ljava/lang/Object;)Z" } : Jvm.MethodName)) a0 Z = true := hw _ (List.mem_of_getElem? (i := 93) rfl)
theorem w_96 {a0 : Array Value} {Z : State} (hw : ∀ d ∈ tables_1, d.before a0 Z = true) : Jvm.Cond.before (Jvm.Cond.methodLink "com/example/bare_queue/barequeue/QueueNameOfPinLaw" (34 : Nat) ({ cls := "java/lang/String", name := "length", desc := "()I" } : Jvm.MethodName)) a0 Z = true := hw _ (List.mem_of_getElem? (i := 96) rfl)
theorem d21_0 : decode prog_12_method_5_code 0 = .ok (.aload_n 1, 1) := by decide +kernel
theorem d21_1 : decode prog_12_method_5_code 1 = .ok (.instanceof 1, 3) := by decide +kernel
theorem d21_4 : decode prog_12_method_5_code 4 = .ok (.ifCond .eq 26, 3) := by decide +kernel
theorem d21_7 : decode prog_12_method_5_code 7 = .ok (.aload_n 1, 1) := by decide +kernel
theorem d21_8 : decode prog_12_method_5_code 8 = .ok (.checkcast 1, 3) := by decide +kernel
theorem d21_11 : decode prog_12_method_5_code 11 = .ok (.astore_n 2, 1) := by decide +kernel
theorem d21_12 : decode prog_12_method_5_code 12 = .ok (.aload_n 0, 1) := by decide +kernel
theorem d21_13 : decode prog_12_method_5_code 13 = .ok (.getfield 9, 3) := by decide +kernel
theorem d21_16 : decode prog_12_method_5_code 16 = .ok (.aload_n 2, 1) := by decide +kernel
theorem d21_17 : decode prog_12_method_5_code 17 = .ok (.getfield 9, 3) := by decide +kernel
theorem d21_20 : decode prog_12_method_5_code 20 = .ok (.invokevirtual 62, 3) := by decide +kernel
theorem d20_7 : decode jdk_42_method_66_code 7 = .ok (.aload_n 1, 1) := by decide +kernel
theorem d20_8 : decode jdk_42_method_66_code 8 = .ok (.instanceof 10, 3) := by decide +kernel
theorem w_104 {a0 : Array Value} {Z : State} (hw : ∀ d ∈ tables_1, d.before a0 Z = true) : Jvm.Cond.before (Jvm.Cond.classLink "java/lang/String" (10 : Nat) "java/lang/String") a0 Z = true := hw _ (List.mem_of_getElem? (i := 104) rfl)
theorem d20_11 : decode jdk_42_method_66_code 11 = .ok (.ifCond .eq 43, 3) := by decide +kernel
theorem d20_14 : decode jdk_42_method_66_code 14 = .ok (.aload_n 1, 1) := by decide +kernel
theorem d20_15 : decode jdk_42_method_66_code 15 = .ok (.checkcast 10, 3) := by decide +kernel
theorem d20_18 : decode jdk_42_method_66_code 18 = .ok (.astore_n 2, 1) := by decide +kernel
theorem d20_19 : decode jdk_42_method_66_code 19 = .ok (.getstatic 38, 3) := by decide +kernel
theorem d20_22 : decode jdk_42_method_66_code 22 = .ok (.ifCond .eq 14, 3) := by decide +kernel
theorem d20_25 : decode jdk_42_method_66_code 25 = .ok (.aload_n 0, 1) := by decide +kernel
theorem d20_26 : decode jdk_42_method_66_code 26 = .ok (.getfield 15, 3) := by decide +kernel
theorem d20_29 : decode jdk_42_method_66_code 29 = .ok (.aload_n 2, 1) := by decide +kernel
theorem d20_30 : decode jdk_42_method_66_code 30 = .ok (.getfield 15, 3) := by decide +kernel
theorem d20_33 : decode jdk_42_method_66_code 33 = .ok (.if_icmp .ne 21, 3) := by decide +kernel
theorem d20_36 : decode jdk_42_method_66_code 36 = .ok (.aload_n 0, 1) := by decide +kernel
theorem d20_37 : decode jdk_42_method_66_code 37 = .ok (.getfield 9, 3) := by decide +kernel
theorem d20_40 : decode jdk_42_method_66_code 40 = .ok (.aload_n 2, 1) := by decide +kernel
theorem d20_41 : decode jdk_42_method_66_code 41 = .ok (.getfield 9, 3) := by decide +kernel
theorem d20_44 : decode jdk_42_method_66_code 44 = .ok (.invokestatic 541, 3) := by decide +kernel
theorem d22_0 : decode jdk_43_method_13_code 0 = .ok (.aload_n 0, 1) := by decide +kernel
theorem d22_1 : decode jdk_43_method_13_code 1 = .ok (.arraylength, 1) := by decide +kernel
theorem d22_2 : decode jdk_43_method_13_code 2 = .ok (.aload_n 1, 1) := by decide +kernel
theorem d22_3 : decode jdk_43_method_13_code 3 = .ok (.arraylength, 1) := by decide +kernel
theorem d22_4 : decode jdk_43_method_13_code 4 = .ok (.if_icmp .ne 30, 3) := by decide +kernel
theorem d22_7 : decode jdk_43_method_13_code 7 = .ok (.iconst 0, 1) := by decide +kernel
theorem d22_8 : decode jdk_43_method_13_code 8 = .ok (.istore_n 2, 1) := by decide +kernel
theorem d22_9 : decode jdk_43_method_13_code 9 = .ok (.iload_n 2, 1) := by decide +kernel
theorem d22_10 : decode jdk_43_method_13_code 10 = .ok (.aload_n 0, 1) := by decide +kernel
theorem d22_11 : decode jdk_43_method_13_code 11 = .ok (.arraylength, 1) := by decide +kernel
theorem d22_12 : decode jdk_43_method_13_code 12 = .ok (.if_icmp .ge 20, 3) := by decide +kernel
theorem d22_15 : decode jdk_43_method_13_code 15 = .ok (.aload_n 0, 1) := by decide +kernel
theorem d22_16 : decode jdk_43_method_13_code 16 = .ok (.iload_n 2, 1) := by decide +kernel
theorem d22_17 : decode jdk_43_method_13_code 17 = .ok (.baload, 1) := by decide +kernel
theorem d22_18 : decode jdk_43_method_13_code 18 = .ok (.aload_n 1, 1) := by decide +kernel
theorem d22_19 : decode jdk_43_method_13_code 19 = .ok (.iload_n 2, 1) := by decide +kernel
theorem d22_20 : decode jdk_43_method_13_code 20 = .ok (.baload, 1) := by decide +kernel
theorem d22_21 : decode jdk_43_method_13_code 21 = .ok (.if_icmp .eq 5, 3) := by decide +kernel
theorem d22_26 : decode jdk_43_method_13_code 26 = .ok (.iinc 2 1, 3) := by decide +kernel
theorem d22_29 : decode jdk_43_method_13_code 29 = .ok (.goto (-20), 3) := by decide +kernel
theorem d22_32 : decode jdk_43_method_13_code 32 = .ok (.iconst 1, 1) := by decide +kernel
theorem d22_33 : decode jdk_43_method_13_code 33 = .ok (.ireturn, 1) := by decide +kernel
abbrev y_19 : MethodName := ⟨"java/lang/StringLatin1", "equals", "([B[B)Z"⟩
-- java/lang/StringLatin1.equals([B[B)Z
abbrev Rm23 : Room := { frames := 0, cells := 0, slots := 0, locals := 0 }
def Q23 (Z : State) (a1 : Addr) (a2 : Addr) (i3 : Int32) (ck4 : ClassId) (ck5 : ClassId) (h0 : Heap) (n0 : Nat) (v : Option Value) (h : Heap) (L : List Loc) : Prop := v = some (.int (1 : Int32)) ∧ Fr n0 L ∧ h = h0
theorem ef23 (a1 : Addr) (a2 : Addr) (m : MethodId) : entryFrame m #[(.ref a1), (.ref a2)] 3 = mkF m 0 #[.val (.ref a1), .val (.ref a2), .unset] [] := by first | (simp [entryFrame, mkF, argsToLocals, Value.category]; done) | rfl
theorem rm23 (l : Launch) (Z : State) (a0 : Array Value) (hw : ∀ d ∈ tables_1, d.before a0 Z = true) (ws : List Jvm.Cond) (a1 : Addr) (a2 : Addr) (i3 : Int32) (ck4 : ClassId) (ck5 : ClassId) (h0 : Heap) (n0 : Nat) (Z0 : n0 ≤ h0.size) (V_a1 : Arv Z h0 a1 ck4 .byte (1 : Int32) [(.int i3)] (.int (0 : Int32))) (V_a2 : Arv Z h0 a2 ck5 .byte (1 : Int32) [(.int i3)] (.int (0 : Int32))) :
    OwnMet l Z y_19 jdk_43_method_13_code 3 (some .boolean) ws Rm23 #[(.ref a1), (.ref a2)] h0 (Q23 Z a1 a2 i3 ck4 ck5 h0 n0) := by
  refine own_body (plainFor_of_name pn_4) (ef23 a1 a2) ?_
  intro p e s m below meth c s₁ hx hby hml hown hnm hret hZ X0 e0
  have N0 := Fr.nil n0
  obtain ⟨cl1, Ar1, q1, S1, M1, Hs1, G1⟩ := id V_a1
  obtain ⟨cl2, Ar2, q2, S2, M2, Hs2, G2⟩ := id V_a2
  have hin3 : ¬ ((0 : Int32) < 0 ∨ cl1.slots.size ≤ ((0 : Int32)).toNatClampNeg) := inb_of S1 ⟨(by decide : ¬ ((0 : Int32) < (0 : Int32))), (by decide : (0 : Int32) < (1 : Int32))⟩
  have hin4 : ¬ ((0 : Int32) < 0 ∨ cl2.slots.size ≤ ((0 : Int32)).toNatClampNeg) := inb_of S2 ⟨(by decide : ¬ ((0 : Int32) < (0 : Int32))), (by decide : (0 : Int32) < (1 : Int32))⟩
  refine ⟨s₁, _, _, _, (some (.int (1 : Int32))), X0, nofun, by decide, by decide, ?_, fun fs hr => ?_⟩
  · show Q23 Z a1 a2 i3 ck4 ck5 h0 n0 _ s₁.heap _
    rw [e0]
    exact ⟨rfl, N0, rfl⟩
  · show Steps p.tables e below (s₁.setTop (mkF m 0 #[.val (.ref a1), .val (.ref a2), .unset] [])) _
    refine XS.aloadN X0.here hx rfl (hb hby d22_0) rfl rfl ?_
    refine X0.arraylength hx (by rw [e0]; exact Ar1.1) (State.isArrayOf_alike hZ.alike Ar1.2.1) (g := (mkF m 1 #[.val (.ref a1), .val (.ref a2), .unset] [(.ref a1)])) rfl rfl (hb hby d22_1) _ ?_
    show Steps p.tables e below (s₁.setTop (mkF m 2 #[.val (.ref a1), .val (.ref a2), .unset] [(.int cl1.slots.size.toInt32)])) _
    rw [len_of S1 M1]
    refine XS.aloadN X0.here hx rfl (hb hby d22_2) rfl rfl ?_
    refine X0.arraylength hx (by rw [e0]; exact Ar2.1) (State.isArrayOf_alike hZ.alike Ar2.2.1) (g := (mkF m 3 #[.val (.ref a1), .val (.ref a2), .unset] [(.ref a2), (.int (1 : Int32))])) rfl rfl (hb hby d22_3) _ ?_
    show Steps p.tables e below (s₁.setTop (mkF m 4 #[.val (.ref a1), .val (.ref a2), .unset] [(.int cl2.slots.size.toInt32), (.int (1 : Int32))])) _
    rw [len_of S2 M2]
    refine XS.icmpNo X0.here hx rfl (hb hby d22_4) rfl (teq ((by decide : (1 : Int32) = (1 : Int32)) : (1 : Int32) = (1 : Int32))).2 ?_
    refine XS.iconst X0.here hx rfl (hb hby d22_7) ?_
    refine XS.istoreN X0.here hx rfl (hb hby d22_8) rfl (l' := #[.val (.ref a1), .val (.ref a2), .val (.int (0 : Int32))]) rfl ?_
    refine XS.iloadN X0.here hx rfl (hb hby d22_9) rfl ?_
    refine XS.aloadN X0.here hx rfl (hb hby d22_10) rfl rfl ?_
    refine X0.arraylength hx (by rw [e0]; exact Ar1.1) (State.isArrayOf_alike hZ.alike Ar1.2.1) (g := (mkF m 11 #[.val (.ref a1), .val (.ref a2), .val (.int (0 : Int32))] [(.ref a1), (.int (0 : Int32))])) rfl rfl (hb hby d22_11) _ ?_
    show Steps p.tables e below (s₁.setTop (mkF m 12 #[.val (.ref a1), .val (.ref a2), .val (.int (0 : Int32))] [(.int cl1.slots.size.toInt32), (.int (0 : Int32))])) _
    rw [len_of S1 M1]
    refine XS.icmpNo X0.here hx rfl (hb hby d22_12) rfl (tlt ((by decide : (0 : Int32) < (1 : Int32)) : (0 : Int32) < (1 : Int32))).2.1 ?_
    refine XS.aloadN X0.here hx rfl (hb hby d22_15) rfl rfl ?_
    refine XS.iloadN X0.here hx rfl (hb hby d22_16) rfl ?_
    refine X0.baloadBytes hx (j := (0 : Int32)) (v := (.int i3)) (by rw [e0]; exact Ar1.1) (State.isArrayOf_alike hZ.alike Ar1.2.1) Ar1.2.2 hin3 (Has.at Hs1 hin3 rfl) (g := (mkF m 17 #[.val (.ref a1), .val (.ref a2), .val (.int (0 : Int32))] [(.int (0 : Int32)), (.ref a1)])) rfl rfl (hb hby d22_17) _ ?_
    refine XS.aloadN X0.here hx rfl (hb hby d22_18) rfl rfl ?_
    refine XS.iloadN X0.here hx rfl (hb hby d22_19) rfl ?_
    refine X0.baloadBytes hx (j := (0 : Int32)) (v := (.int i3)) (by rw [e0]; exact Ar2.1) (State.isArrayOf_alike hZ.alike Ar2.2.1) Ar2.2.2 hin4 (Has.at Hs2 hin4 rfl) (g := (mkF m 20 #[.val (.ref a1), .val (.ref a2), .val (.int (0 : Int32))] [(.int (0 : Int32)), (.ref a2), (.int i3)])) rfl rfl (hb hby d22_20) _ ?_
    refine XS.icmpYes X0.here hx rfl (pc0 := 21) (pc' := 26) rfl (hb hby d22_21) rfl (teq (rfl : i3 = i3)).1 (by decide) (by decide) ?_
    refine XS.iinc X0.here hx rfl (hb hby d22_26) rfl (l' := #[.val (.ref a1), .val (.ref a2), .val (.int (1 : Int32))]) rfl ?_
    refine XS.goto X0.here hx rfl (pc0 := 29) (pc' := 9) rfl (hb hby d22_29) (by decide) (by decide) ?_
    refine XS.iloadN X0.here hx rfl (hb hby d22_9) rfl ?_
    show Steps p.tables e below (s₁.setTop (mkF m 10 #[.val (.ref a1), .val (.ref a2), .val (.int (1 : Int32))] [(.int (1 : Int32))])) _
    refine XS.aloadN X0.here hx rfl (hb hby d22_10) rfl rfl ?_
    refine X0.arraylength hx (by rw [e0]; exact Ar1.1) (State.isArrayOf_alike hZ.alike Ar1.2.1) (g := (mkF m 11 #[.val (.ref a1), .val (.ref a2), .val (.int (1 : Int32))] [(.ref a1), (.int (1 : Int32))])) rfl rfl (hb hby d22_11) _ ?_
    show Steps p.tables e below (s₁.setTop (mkF m 12 #[.val (.ref a1), .val (.ref a2), .val (.int (1 : Int32))] [(.int cl1.slots.size.toInt32), (.int (1 : Int32))])) _
    rw [len_of S1 M1]
    refine XS.icmpYes X0.here hx rfl (pc0 := 12) (pc' := 32) rfl (hb hby d22_12) rfl (flt ((by decide : ¬ ((1 : Int32) < (1 : Int32))) : ¬ ((1 : Int32) < (1 : Int32)))).2.1 (by decide) (by decide) ?_
    refine XS.iconst X0.here hx rfl (hb hby d22_32) ?_
    exact retN X0 hx (t := .boolean) hret (by simp) (hb hby d22_33) hr
theorem pd_17 : parseMethodDescriptor "([B[B)Z" = some ⟨[(.array .byte), (.array .byte)], some .boolean⟩ := by decide +kernel
theorem w_107 {a0 : Array Value} {Z : State} (hw : ∀ d ∈ tables_1, d.before a0 Z = true) : Jvm.Cond.before (Jvm.Cond.code ({ cls := "java/lang/StringLatin1", name := "equals", desc := "([B[B)Z" } : Jvm.MethodName) jdk_43_method_13_code (3 : Nat) (Option.some Jvm.ClassFile.FieldType.boolean)) a0 Z = true := hw _ (List.mem_of_getElem? (i := 107) rfl)
theorem w_105 {a0 : Array Value} {Z : State} (hw : ∀ d ∈ tables_1, d.before a0 Z = true) : Jvm.Cond.before (Jvm.Cond.methodLink "java/lang/String" (541 : Nat) ({ cls := "java/lang/StringLatin1", name := "equals", desc := "([B[B)Z" } : Jvm.MethodName)) a0 Z = true := hw _ (List.mem_of_getElem? (i := 105) rfl)
theorem w_106 {a0 : Array Value} {Z : State} (hw : ∀ d ∈ tables_1, d.before a0 Z = true) : Jvm.Cond.before (Jvm.Cond.static ({ cls := "java/lang/StringLatin1", name := "equals", desc := "([B[B)Z" } : Jvm.MethodName)) a0 Z = true := hw _ (List.mem_of_getElem? (i := 106) rfl)
theorem d20_47 : decode jdk_42_method_66_code 47 = .ok (.ifCond .eq 7, 3) := by decide +kernel
theorem d20_50 : decode jdk_42_method_66_code 50 = .ok (.iconst 1, 1) := by decide +kernel
theorem d20_51 : decode jdk_42_method_66_code 51 = .ok (.goto 4, 3) := by decide +kernel
theorem d20_55 : decode jdk_42_method_66_code 55 = .ok (.ireturn, 1) := by decide +kernel
-- java/lang/String.equals(Ljava/lang/Object;)Z
abbrev Rm24 : Room := { frames := 1, cells := 0, slots := 0, locals := 14 }
def Q24 (Z : State) (a1 : Addr) (a2 : Addr) (i3 : Int32) (a5 : Addr) (a6 : Addr) (i7 : Int32) (ck8 : ClassId) (ck9 : ClassId) (h0 : Heap) (n0 : Nat) (v : Option Value) (h : Heap) (L : List Loc) : Prop := v = some (.int (1 : Int32)) ∧ Fr n0 L ∧ h = h0
theorem ef24 (a1 : Addr) (a2 : Addr) (m : MethodId) : entryFrame m #[(.ref a1), (.ref a2)] 3 = mkF m 0 #[.val (.ref a1), .val (.ref a2), .unset] [] := by first | (simp [entryFrame, mkF, argsToLocals, Value.category]; done) | rfl
theorem rm24 (l : Launch) (Z : State) (a0 : Array Value) (hw : ∀ d ∈ tables_1, d.before a0 Z = true) (ws : List Jvm.Cond) (a1 : Addr) (a2 : Addr) (i3 : Int32) (a5 : Addr) (a6 : Addr) (i7 : Int32) (ck8 : ClassId) (ck9 : ClassId) (h0 : Heap) (n0 : Nat) (Z0 : n0 ≤ h0.size) (ne_a1_a2 : a1 ≠ a2) (E_a2 : Exa Z h0 a2 "java/lang/String") (S_COMPACT_STRINGS : Sta Z Z.heap "java/lang/String" "COMPACT_STRINGS" "Z" (.int i3)) (Od0 : Old Z n0 h0) (c4 : ¬ (i3 = (0 : Int32))) (F_coder_a1 : Fld Z h0 a1 "java/lang/String" "coder" "B" (.int (0 : Int32))) (F_coder_a2 : Fld Z h0 a2 "java/lang/String" "coder" "B" (.int (0 : Int32))) (F_value_a1 : Fld Z h0 a1 "java/lang/String" "value" "[B" (.ref a5)) (F_value_a2 : Fld Z h0 a2 "java/lang/String" "value" "[B" (.ref a6)) (V_a5 : Arv Z h0 a5 ck8 .byte (1 : Int32) [(.int i7)] (.int (0 : Int32))) (V_a6 : Arv Z h0 a6 ck9 .byte (1 : Int32) [(.int i7)] (.int (0 : Int32))) :
    OwnMet l Z y_18 jdk_42_method_66_code 3 (some .boolean) ws Rm24 #[(.ref a1), (.ref a2)] h0 (Q24 Z a1 a2 i3 a5 a6 i7 ck8 ck9 h0 n0) := by
  refine own_body (plainFor_of_name pn_2) (ef24 a1 a2) ?_
  intro p e s m below meth c s₁ hx hby hml hown hnm hret hZ X0 e0
  have N0 := Fr.nil n0
  obtain ⟨T1, X1, e1, st1⟩ := instY X0 hx hZ hown (w_104 hw) e0 (Ins.self E_a2) (g := (mkF m 8 #[.val (.ref a1), .val (.ref a2), .unset] [(.ref a2)])) rfl rfl (hb hby d20_8)
  obtain ⟨T2, X2, e2, st2⟩ := castY X1 hx hZ hown (w_104 hw) e1 (Ins.self E_a2) (g := (mkF m 15 #[.val (.ref a1), .val (.ref a2), .unset] [(.ref a2)])) rfl rfl (hb hby d20_15)
  obtain ⟨T3, X3, e3, st3⟩ := getS2 X2 hx hZ hown (host := "") (Or.inl (w_18 hw)) Via.refl e2 (S_COMPACT_STRINGS.ext Od0.2) (g := (mkF m 19 #[.val (.ref a1), .val (.ref a2), .val (.ref a2)] [])) rfl (hb hby d20_19)
  obtain ⟨T4, X4, e4, st4⟩ := getF X3 hx hZ hown (host := "") (Or.inl (w_30 hw)) Via.refl e3 F_coder_a1 (g := (mkF m 26 #[.val (.ref a1), .val (.ref a2), .val (.ref a2)] [(.ref a1)])) rfl rfl (hb hby d20_26)
  obtain ⟨T5, X5, e5, st5⟩ := getF X4 hx hZ hown (host := "") (Or.inl (w_30 hw)) Via.refl e4 F_coder_a2 (g := (mkF m 30 #[.val (.ref a1), .val (.ref a2), .val (.ref a2)] [(.ref a2), (.int (0 : Int32))])) rfl rfl (hb hby d20_30)
  obtain ⟨T6, X6, e6, st6⟩ := getF X5 hx hZ hown (host := "") (Or.inl (w_32 hw)) Via.refl e5 F_value_a1 (g := (mkF m 37 #[.val (.ref a1), .val (.ref a2), .val (.ref a2)] [(.ref a1)])) rfl rfl (hb hby d20_37)
  obtain ⟨T7, X7, e7, st7⟩ := getF X6 hx hZ hown (host := "") (Or.inl (w_32 hw)) Via.refl e6 F_value_a2 (g := (mkF m 41 #[.val (.ref a1), .val (.ref a2), .val (.ref a2)] [(.ref a2), (.ref a5)])) rfl rfl (hb hby d20_41)
  obtain ⟨_, T8, L8, X8, hQ8, st8⟩ := own_callS X7 hx hZ hown (y := y_19) (w_105 hw) (w_106 hw) (w_65 hw) (w_107 hw) (rm23 l Z a0 hw [] a5 a6 i7 ck8 ck9 h0 n0 Z0 V_a5 V_a6) e7 (Ls := #[.val (.ref a1), .val (.ref a2), .val (.ref a2)]) (by rw [hml]; rfl) (argsL := [(.ref a5), (.ref a6)]) (rest := []) (lenOf pd_17 rfl) (hb hby d20_44) (W := 0)
  obtain ⟨rfl, Nq8, e8⟩ := hQ8
  have N8 := Fr.app N0 Nq8
  refine ⟨T8, _, _, _, (some (.int (1 : Int32))), X8, nofun, by decide, by decide, ?_, fun fs hr => ?_⟩
  · show Q24 Z a1 a2 i3 a5 a6 i7 ck8 ck9 h0 n0 _ T8.heap _
    rw [e8]
    exact ⟨rfl, N8, rfl⟩
  · show Steps p.tables e below (s₁.setTop (mkF m 0 #[.val (.ref a1), .val (.ref a2), .unset] [])) _
    refine XS.aloadN X0.here hx rfl (hb hby d20_0) rfl rfl ?_
    refine XS.aloadN X0.here hx rfl (hb hby d20_1) rfl rfl ?_
    refine Jvm.RoadKit.acmp (g := (mkF m 2 #[.val (.ref a1), .val (.ref a2), .unset] [(.ref a2), (.ref a1)])) X0 hx rfl rfl rfl (pc0 := 2) (pc' := 7) (same := false) rfl (hb hby d20_2) rfl (decide_eq_false fun q => ne_a1_a2 (Value.ref.inj q)) (by decide) (by decide) ?_
    refine XS.aloadN X0.here hx rfl (hb hby d20_7) rfl rfl ?_
    refine st1 _ ?_
    refine XS.ifNo X1.here hx rfl (hb hby d20_11) rfl ((if0 _ _).trans (feq ((by decide : ¬ ((1 : Int32) = (0 : Int32))) : ¬ ((1 : Int32) = (0 : Int32)))).1) ?_
    refine XS.aloadN X1.here hx rfl (hb hby d20_14) rfl rfl ?_
    refine st2 _ ?_
    refine XS.astoreN X2.here hx rfl (hb hby d20_18) rfl rfl (l' := #[.val (.ref a1), .val (.ref a2), .val (.ref a2)]) rfl ?_
    refine st3 _ ?_
    refine XS.ifNo X3.here hx rfl (hb hby d20_22) rfl ((if0 _ _).trans (feq (c4 : ¬ (i3 = (0 : Int32)))).1) ?_
    refine XS.aloadN X3.here hx rfl (hb hby d20_25) rfl rfl ?_
    show Steps p.tables e below (T3.setTop (mkF m 26 #[.val (.ref a1), .val (.ref a2), .val (.ref a2)] [(.ref a1)])) _
    refine st4 _ ?_
    refine XS.aloadN X4.here hx rfl (hb hby d20_29) rfl rfl ?_
    refine st5 _ ?_
    refine XS.icmpNo X5.here hx rfl (hb hby d20_33) rfl (teq ((by decide : (0 : Int32) = (0 : Int32)) : (0 : Int32) = (0 : Int32))).2 ?_
    refine XS.aloadN X5.here hx rfl (hb hby d20_36) rfl rfl ?_
    refine st6 _ ?_
    refine XS.aloadN X6.here hx rfl (hb hby d20_40) rfl rfl ?_
    refine st7 _ ?_
    refine st8 _ ?_
    refine XS.ifNo X8.here hx rfl (hb hby d20_47) rfl ((if0 _ _).trans (feq ((by decide : ¬ ((1 : Int32) = (0 : Int32))) : ¬ ((1 : Int32) = (0 : Int32)))).1) ?_
    refine XS.iconst X8.here hx rfl (hb hby d20_50) ?_
    refine XS.goto X8.here hx rfl (pc0 := 51) (pc' := 55) rfl (hb hby d20_51) (by decide) (by decide) ?_
    show Steps p.tables e below (T8.setTop (mkF m 55 #[.val (.ref a1), .val (.ref a2), .val (.ref a2)] [(.int (1 : Int32))])) _
    exact retN X8 hx (t := .boolean) hret (by simp) (hb hby d20_55) hr
theorem w_103 {a0 : Array Value} {Z : State} (hw : ∀ d ∈ tables_1, d.before a0 Z = true) : Jvm.Cond.before (Jvm.Cond.methodLink "com/example/bare_queue/barequeue/QueueName" (62 : Nat) ({ cls := "java/lang/String", name := "equals", desc := "(Ljava/lang/Object;)Z" } : Jvm.MethodName)) a0 Z = true := hw _ (List.mem_of_getElem? (i := 103) rfl)
theorem d21_23 : decode prog_12_method_5_code 23 = .ok (.ifCond .eq 7, 3) := by decide +kernel
theorem d21_26 : decode prog_12_method_5_code 26 = .ok (.iconst 1, 1) := by decide +kernel
theorem d21_27 : decode prog_12_method_5_code 27 = .ok (.goto 4, 3) := by decide +kernel
theorem d21_31 : decode prog_12_method_5_code 31 = .ok (.ireturn, 1) := by decide +kernel
abbrev y_20 : MethodName := ⟨"com/example/bare_queue/barequeue/QueueName", "equals", "(Ljava/lang/Object;)Z"⟩
-- com/example/bare_queue/barequeue/QueueName.equals(Ljava/lang/Object;)Z
abbrev Rm25 : Room := { frames := 2, cells := 0, slots := 0, locals := 28 }
def Q25 (Z : State) (a1 : Addr) (a2 : Addr) (a3 : Addr) (a4 : Addr) (i5 : Int32) (a7 : Addr) (a8 : Addr) (i9 : Int32) (ck10 : ClassId) (ck11 : ClassId) (h0 : Heap) (n0 : Nat) (v : Option Value) (h : Heap) (L : List Loc) : Prop := v = some (.int (1 : Int32)) ∧ Fr n0 L ∧ h = h0
theorem ef25 (a1 : Addr) (a2 : Addr) (m : MethodId) : entryFrame m #[(.ref a1), (.ref a2)] 3 = mkF m 0 #[.val (.ref a1), .val (.ref a2), .unset] [] := by first | (simp [entryFrame, mkF, argsToLocals, Value.category]; done) | rfl
theorem rm25 (l : Launch) (Z : State) (a0 : Array Value) (hw : ∀ d ∈ tables_1, d.before a0 Z = true) (ws : List Jvm.Cond) (a1 : Addr) (a2 : Addr) (a3 : Addr) (a4 : Addr) (i5 : Int32) (a7 : Addr) (a8 : Addr) (i9 : Int32) (ck10 : ClassId) (ck11 : ClassId) (h0 : Heap) (n0 : Nat) (Z0 : n0 ≤ h0.size) (E_a2 : Exa Z h0 a2 "com/example/bare_queue/barequeue/QueueName") (F_value_a1 : Fld Z h0 a1 "com/example/bare_queue/barequeue/QueueName" "value" "Ljava/lang/String;" (.ref a3)) (F_value_a2 : Fld Z h0 a2 "com/example/bare_queue/barequeue/QueueName" "value" "Ljava/lang/String;" (.ref a4)) (E_a3 : Exa Z h0 a3 "java/lang/String") (ne_a3_a4 : a3 ≠ a4) (E_a4 : Exa Z h0 a4 "java/lang/String") (S_COMPACT_STRINGS : Sta Z Z.heap "java/lang/String" "COMPACT_STRINGS" "Z" (.int i5)) (Od0 : Old Z n0 h0) (c6 : ¬ (i5 = (0 : Int32))) (F_coder_a3 : Fld Z h0 a3 "java/lang/String" "coder" "B" (.int (0 : Int32))) (F_coder_a4 : Fld Z h0 a4 "java/lang/String" "coder" "B" (.int (0 : Int32))) (F_value_a3 : Fld Z h0 a3 "java/lang/String" "value" "[B" (.ref a7)) (F_value_a4 : Fld Z h0 a4 "java/lang/String" "value" "[B" (.ref a8)) (V_a7 : Arv Z h0 a7 ck10 .byte (1 : Int32) [(.int i9)] (.int (0 : Int32))) (V_a8 : Arv Z h0 a8 ck11 .byte (1 : Int32) [(.int i9)] (.int (0 : Int32))) :
    OwnMet l Z y_20 prog_12_method_5_code 3 (some .boolean) ws Rm25 #[(.ref a1), (.ref a2)] h0 (Q25 Z a1 a2 a3 a4 i5 a7 a8 i9 ck10 ck11 h0 n0) := by
  refine own_body (plainFor_of_name pn_5) (ef25 a1 a2) ?_
  intro p e s m below meth c s₁ hx hby hml hown hnm hret hZ X0 e0
  have N0 := Fr.nil n0
  obtain ⟨T1, X1, e1, st1⟩ := instY X0 hx hZ hown (w_78 hw) e0 (Ins.self E_a2) (g := (mkF m 1 #[.val (.ref a1), .val (.ref a2), .unset] [(.ref a2)])) rfl rfl (hb hby d21_1)
  obtain ⟨T2, X2, e2, st2⟩ := castY X1 hx hZ hown (w_78 hw) e1 (Ins.self E_a2) (g := (mkF m 8 #[.val (.ref a1), .val (.ref a2), .unset] [(.ref a2)])) rfl rfl (hb hby d21_8)
  obtain ⟨T3, X3, e3, st3⟩ := getF X2 hx hZ hown (host := "") (Or.inl (w_84 hw)) Via.refl e2 F_value_a1 (g := (mkF m 13 #[.val (.ref a1), .val (.ref a2), .val (.ref a2)] [(.ref a1)])) rfl rfl (hb hby d21_13)
  obtain ⟨T4, X4, e4, st4⟩ := getF X3 hx hZ hown (host := "") (Or.inl (w_84 hw)) Via.refl e3 F_value_a2 (g := (mkF m 17 #[.val (.ref a1), .val (.ref a2), .val (.ref a2)] [(.ref a2), (.ref a3)])) rfl rfl (hb hby d21_17)
  obtain ⟨_, T5, L5, X5, hQ5, st5⟩ := own_virtual X4 hx hZ hown (y := y_18) (z := y_18) E_a3 (w_103 hw) (w_92 hw) (notFace_of_selects (args := #[]) (mvT hZ (w_94 hw))) (w_94 hw) (w_93 hw) (w_7 hw) (w_95 hw) (rm24 l Z a0 hw [] a3 a4 i5 a7 a8 i9 ck10 ck11 h0 n0 Z0 ne_a3_a4 E_a4 S_COMPACT_STRINGS Od0 c6 F_coder_a3 F_coder_a4 F_value_a3 F_value_a4 V_a7 V_a8) e4 (Ls := #[.val (.ref a1), .val (.ref a2), .val (.ref a2)]) (by rw [hml]; rfl) (argsL := [(.ref a4)]) (rest := []) (lenOf pd_16 rfl) (hb hby d21_20) (W := 0)
  obtain ⟨rfl, Nq5, e5⟩ := hQ5
  have N5 := Fr.app N0 Nq5
  refine ⟨T5, _, _, _, (some (.int (1 : Int32))), X5, nofun, by decide, by decide, ?_, fun fs hr => ?_⟩
  · show Q25 Z a1 a2 a3 a4 i5 a7 a8 i9 ck10 ck11 h0 n0 _ T5.heap _
    rw [e5]
    exact ⟨rfl, N5, rfl⟩
  · show Steps p.tables e below (s₁.setTop (mkF m 0 #[.val (.ref a1), .val (.ref a2), .unset] [])) _
    refine XS.aloadN X0.here hx rfl (hb hby d21_0) rfl rfl ?_
    refine st1 _ ?_
    refine XS.ifNo X1.here hx rfl (hb hby d21_4) rfl ((if0 _ _).trans (feq ((by decide : ¬ ((1 : Int32) = (0 : Int32))) : ¬ ((1 : Int32) = (0 : Int32)))).1) ?_
    refine XS.aloadN X1.here hx rfl (hb hby d21_7) rfl rfl ?_
    refine st2 _ ?_
    refine XS.astoreN X2.here hx rfl (hb hby d21_11) rfl rfl (l' := #[.val (.ref a1), .val (.ref a2), .val (.ref a2)]) rfl ?_
    refine XS.aloadN X2.here hx rfl (hb hby d21_12) rfl rfl ?_
    refine st3 _ ?_
    refine XS.aloadN X3.here hx rfl (hb hby d21_16) rfl rfl ?_
    refine st4 _ ?_
    refine st5 _ ?_
    refine XS.ifNo X5.here hx rfl (hb hby d21_23) rfl ((if0 _ _).trans (feq ((by decide : ¬ ((1 : Int32) = (0 : Int32))) : ¬ ((1 : Int32) = (0 : Int32)))).1) ?_
    show Steps p.tables e below (T5.setTop (mkF m 26 #[.val (.ref a1), .val (.ref a2), .val (.ref a2)] [])) _
    refine XS.iconst X5.here hx rfl (hb hby d21_26) ?_
    refine XS.goto X5.here hx rfl (pc0 := 27) (pc' := 31) rfl (hb hby d21_27) (by decide) (by decide) ?_
    exact retN X5 hx (t := .boolean) hret (by simp) (hb hby d21_31) hr
theorem w_101 {a0 : Array Value} {Z : State} (hw : ∀ d ∈ tables_1, d.before a0 Z = true) : Jvm.Cond.before (Jvm.Cond.code ({ cls := "com/example/bare_queue/barequeue/QueueName", name := "equals", desc := "(Ljava/lang/Object;)Z" } : Jvm.MethodName) prog_12_method_5_code (3 : Nat) (Option.some Jvm.ClassFile.FieldType.boolean)) a0 Z = true := hw _ (List.mem_of_getElem? (i := 101) rfl)
theorem w_97 {a0 : Array Value} {Z : State} (hw : ∀ d ∈ tables_1, d.before a0 Z = true) : Jvm.Cond.before (Jvm.Cond.methodLink "com/example/bare_queue/barequeue/QueueNameOfPinLaw" (38 : Nat) ({ cls := "com/example/bare_queue/barequeue/QueueName", name := "equals", desc := "(Ljava/lang/Object;)Z" } : Jvm.MethodName)) a0 Z = true := hw _ (List.mem_of_getElem? (i := 97) rfl)
theorem w_100 {a0 : Array Value} {Z : State} (hw : ∀ d ∈ tables_1, d.before a0 Z = true) : Jvm.Cond.before (Jvm.Cond.selects "com/example/bare_queue/barequeue/QueueName" ({ cls := "com/example/bare_queue/barequeue/QueueName", name := "equals", desc := "(Ljava/lang/Object;)Z" } : Jvm.MethodName) ({ cls := "com/example/bare_queue/barequeue/QueueName", name := "equals", desc := "(Ljava/lang/Object;)Z" } : Jvm.MethodName)) a0 Z = true := hw _ (List.mem_of_getElem? (i := 100) rfl)
theorem w_98 {a0 : Array Value} {Z : State} (hw : ∀ d ∈ tables_1, d.before a0 Z = true) : Jvm.Cond.before (Jvm.Cond.declares ({ cls := "com/example/bare_queue/barequeue/QueueName", name := "equals", desc := "(Ljava/lang/Object;)Z" } : Jvm.MethodName)) a0 Z = true := hw _ (List.mem_of_getElem? (i := 98) rfl)
theorem w_99 {a0 : Array Value} {Z : State} (hw : ∀ d ∈ tables_1, d.before a0 Z = true) : Jvm.Cond.before (Jvm.Cond.instanceMethod ({ cls := "com/example/bare_queue/barequeue/QueueName", name := "equals", desc := "(Ljava/lang/Object;)Z" } : Jvm.MethodName)) a0 Z = true := hw _ (List.mem_of_getElem? (i := 99) rfl)
theorem ef0 (p1 : Int32) (p2 : Int32) (p3 : Int32) (p4 : Int32) (m : MethodId) : entryFrame m #[(.int p1), (.int p2), (.int p3), (.int p4)] maxLocals = mkF m 0 #[.val (.int p1), .val (.int p2), .val (.int p3), .val (.int p4), .unset, .unset, .unset, .unset, .unset] [] := by first | (simp [entryFrame, mkF, argsToLocals, Value.category, maxLocals]; done) | rfl
theorem rm0_0 (l : Launch) (Z : State) (a0 : Array Value) (hw : ∀ d ∈ tables_1, d.before a0 Z = true) (ws : List Jvm.Cond) (p1 : Int32) (p2 : Int32) (p3 : Int32) (p4 : Int32) (sr1 : Value) (si2 : Int32) (h0 : Heap) (n0 : Nat) (Z0 : n0 ≤ h0.size) (Od0 : Old Z n0 h0) (R_sr1 : sr1.isRef = true) (nc3 : ¬ (si2 = (0 : Int32))) (S4_SIOOBE_FORMATTER : Sta Z Z.heap "jdk/internal/util/Preconditions" "SIOOBE_FORMATTER" "Ljava/util/function/BiFunction;" sr1) (S5_COMPACT_STRINGS : Sta Z Z.heap "java/lang/String" "COMPACT_STRINGS" "Z" (.int si2)) (hk : (p4 &&& (3 : Int32)) = (0 : Int32)) (hn0 : n0 = h0.size) (hcw : Jvm.Lit.compactW.before a0 Z = true) (hch_7 : Jvm.Lit.constHeld Z "com/example/bare_queue/barequeue/QueueNameOfPinLaw" 7) :
    OwnMet l Z x code maxLocals ret ws room_1 #[(.int p1), (.int p2), (.int p3), (.int p4)] h0 (Q0 n0) := by
  refine own_body (plainFor_of_name pn_0) (ef0 p1 p2 p3 p4) ?_
  intro p e s m below meth c s₁ hx hby hml hown hnm hret hZ X0 e0
  have N0 := Fr.nil n0
  obtain ⟨T1, h1, k1, X1, e1, E1, A1, B1, st1⟩ := newPE (aty := .char) X0 hx hZ (w_0 hw) e0 (g := (mkF m 30 #[.val (.int p1), .val (.int p2), .val (.int p3), .val (.int p4), .val (.int (0 : Int32)), .unset, .unset, .val (.int (1 : Int32)), .unset] [(.int (1 : Int32))])) rfl (hb hby at_30) rfl (by decide) (cap := 1) (by decide) (by decide) (by decide) (by decide) (ad := "[C") (by decide)
  obtain ⟨b1, g1⟩ : ∃ z, z = h0.size := ⟨_, rfl⟩
  rw [← g1] at A1 B1 st1
  have s0 := E1.1
  have Vn1 : Arv Z h1 b1 k1 .char (1 : Int32) [(.int (0 : Int32))] (.int (0 : Int32)) := (Arv.new A1 (by decide)).pad (pad_rep [] (.int (0 : Int32)) 1)
  have z1 := Nat.le_trans Z0 s0
  obtain ⟨_, T2, L2, X2, hQ2, st2⟩ := own_callS X1 hx hZ hown (y := y_0) (w_1 hw) (w_2 hw) (w_3 hw) (w_4 hw) (rm1 l Z a0 hw [] p1 h1 n0 z1) e1 (Ls := #[.val (.int p1), .val (.int p2), .val (.int p3), .val (.int p4), .val (.int (0 : Int32)), .unset, .unset, .val (.int (1 : Int32)), .val (.ref b1)]) (by rw [hml]; rfl) (argsL := [(.int p1)]) (rest := [(.int (0 : Int32)), (.ref b1)]) (lenOf pd_0 rfl) (hb hby at_38) (W := 2)
  obtain ⟨rfl, Nq2, e2⟩ := hQ2
  have N2 := Fr.app N0 Nq2
  obtain ⟨x3, ex3⟩ : ∃ z, z = (if (p1 &&& (63 : Int32)) < (26 : Int32) then (nar .char (((65 : Int32) + (p1 &&& (63 : Int32))).toUInt32.toUInt16.toUInt32.toInt32)) else (if (p1 &&& (63 : Int32)) < (52 : Int32) then (nar .char (((97 : Int32) + ((p1 &&& (63 : Int32)) - (26 : Int32))).toUInt32.toUInt16.toUInt32.toInt32)) else (if (p1 &&& (63 : Int32)) < (62 : Int32) then (nar .char (((48 : Int32) + ((p1 &&& (63 : Int32)) - (52 : Int32))).toUInt32.toUInt16.toUInt32.toInt32)) else (if (p1 &&& (63 : Int32)) = (62 : Int32) then (45 : Int32) else (95 : Int32))))) := ⟨_, rfl⟩
  obtain ⟨cl4, Ar4, q4, S4, M4, Hs4, G4⟩ := id Vn1
  have hin5 : ¬ ((0 : Int32) < 0 ∨ cl4.slots.size ≤ ((0 : Int32)).toNatClampNeg) := inb_of S4 ⟨(by decide : ¬ ((0 : Int32) < (0 : Int32))), (by decide : (0 : Int32) < (1 : Int32))⟩
  obtain ⟨T6, h6, X6, e6, W6, st6⟩ := stC X2 hx hZ e2 Ar4 (j := (0 : Int32)) hin5 (g := (mkF m 41 #[.val (.int p1), .val (.int p2), .val (.int p3), .val (.int p4), .val (.int (0 : Int32)), .unset, .unset, .val (.int (1 : Int32)), .val (.ref b1)] [(.int x3), (.int (0 : Int32)), (.ref b1)])) rfl rfl (hb hby at_41)
  have s1 := (Keep.of_wr W6).1
  have g_b1 : n0 ≤ b1 := Nat.le_trans Z0 (Nat.le_of_eq g1.symm)
  have N6 := Fr.snoc X6 N2 g_b1
  have Vs6 : Arv Z h6 b1 k1 .char (1 : Int32) [(.int (nar .char x3))] (.int (0 : Int32)) := Arv.set Ar4 q4 S4 M4 Hs4 G4 (fits_nar_char _) W6 0 rfl (Nat.le_of_ble_eq_true rfl)
  obtain ⟨T7, h7, X7, e7, E7, A7, D7, -, st7⟩ := newO X6 hx hZ hown (w_5 hw) (w_6 hw) (w_7 hw) e6 (g := (mkF m 70 #[.val (.int p1), .val (.int p2), .val (.int p3), .val (.int p4), .val (.int (0 : Int32)), .unset, .unset, .val (.int (1 : Int32)), .val (.ref b1)] [])) rfl (hb hby at_70) (by decide) (by decide)
  obtain ⟨b7, g7⟩ : ∃ z, z = h6.size := ⟨_, rfl⟩
  rw [← g7] at A7 D7 st7
  have s2 := E7.1
  have Fn7_coder : Fld Z h7 b7 "java/lang/String" "coder" "B" (.int (0 : Int32)) := D7 (Or.inr (w_31 hw)) (ty := .byte) (by decide)
  have Fn7_value : Fld Z h7 b7 "java/lang/String" "value" "[B" .null := D7 (Or.inr (w_33 hw)) (ty := (.array .byte)) (by decide)
  have Va8 := (Vs6.ext E7)
  have Od1 : Old Z n0 h1 := Od0.ext E1
  have Od2 : Old Z n0 h6 := Od1.wr W6 g_b1
  have Od3 : Old Z n0 h7 := Od2.ext E7
  have cd9 : ¬ ((255 : Int32) < (nar .char (if (p1 &&& (63 : Int32)) < (26 : Int32) then (nar .char (((65 : Int32) + (p1 &&& (63 : Int32))).toUInt32.toUInt16.toUInt32.toInt32)) else (if (p1 &&& (63 : Int32)) < (52 : Int32) then (nar .char (((97 : Int32) + ((p1 &&& (63 : Int32)) - (26 : Int32))).toUInt32.toUInt16.toUInt32.toInt32)) else (if (p1 &&& (63 : Int32)) < (62 : Int32) then (nar .char (((48 : Int32) + ((p1 &&& (63 : Int32)) - (52 : Int32))).toUInt32.toUInt16.toUInt32.toInt32)) else (if (p1 &&& (63 : Int32)) = (62 : Int32) then (45 : Int32) else (95 : Int32))))))) := (by have h : ∀ n : Fin 64, ¬ ((255 : Int32) < (nar .char (if (Int32.ofInt (n.val : Int)) < (26 : Int32) then (nar .char (((65 : Int32) + (Int32.ofInt (n.val : Int))).toUInt32.toUInt16.toUInt32.toInt32)) else (if (Int32.ofInt (n.val : Int)) < (52 : Int32) then (nar .char (((97 : Int32) + ((Int32.ofInt (n.val : Int)) - (26 : Int32))).toUInt32.toUInt16.toUInt32.toInt32)) else (if (Int32.ofInt (n.val : Int)) < (62 : Int32) then (nar .char (((48 : Int32) + ((Int32.ofInt (n.val : Int)) - (52 : Int32))).toUInt32.toUInt16.toUInt32.toInt32)) else (if (Int32.ofInt (n.val : Int)) = (62 : Int32) then (45 : Int32) else (95 : Int32))))))) := (by decide +kernel); obtain ⟨n, hn⟩ := own_fin64 p1; rw [hn]; exact h n)
  have z2 := Nat.le_trans Z0 (Nat.le_trans s0 s1)
  have g_b7 : n0 ≤ b7 := Nat.le_trans z2 (Nat.le_of_eq g7.symm)
  have z3 := Nat.le_trans Z0 (Nat.le_trans (Nat.le_trans s0 s1) s2)
  obtain ⟨_, T10, L10, X10, hQ10, st10⟩ := own_special X7 hx hZ hown (y := y_5) (a := b7) (w_8 hw) (w_9 hw) (w_7 hw) (w_10 hw) (rm6 l Z a0 hw [] b7 b1 (nar .char x3) k1 si2 h7 n0 z3 Va8 S5_COMPACT_STRINGS Od3 nc3 (by rw [ex3]; exact cd9) Fn7_coder A7 g_b7 Fn7_value) e7 (Ls := #[.val (.int p1), .val (.int p2), .val (.int p3), .val (.int p4), .val (.int (0 : Int32)), .unset, .unset, .val (.int (1 : Int32)), .val (.ref b1)]) (by rw [hml]; rfl) (argsL := [(.ref b1)]) (rest := [(.ref b7)]) (lenOf pd_5 rfl) (hb hby at_76) (W := 1)
  obtain ⟨b10_b2_b3_b1, k10_k2_k3_k1, rfl, Nq10, K10, o10_0, o10_1, o10_2, o10_3, o10_4, o10_5⟩ := hQ10
  have N10 := Fr.app N6 Nq10
  have s3 := K10.1
  obtain ⟨T11, h11, X11, e11, E11, A11, D11, -, st11⟩ := newO X10 hx hZ hown (w_5 hw) (w_6 hw) (w_7 hw) rfl (g := (mkF m 81 #[.val (.int p1), .val (.int p2), .val (.int p3), .val (.int p4), .val (.int (0 : Int32)), .val (.ref b7), .unset, .val (.int (1 : Int32)), .val (.ref b1)] [])) rfl (hb hby at_81) (by decide) (by decide)
  obtain ⟨b11, g11⟩ : ∃ z, z = T10.heap.size := ⟨_, rfl⟩
  rw [← g11] at A11 D11 st11
  have s4 := E11.1
  have Fn11_coder : Fld Z h11 b11 "java/lang/String" "coder" "B" (.int (0 : Int32)) := D11 (Or.inr (w_31 hw)) (ty := .byte) (by decide)
  have Fn11_value : Fld Z h11 b11 "java/lang/String" "value" "[B" .null := D11 (Or.inr (w_33 hw)) (ty := (.array .byte)) (by decide)
  have ne_b1_b7 := Nat.ne_of_lt (Nat.lt_of_lt_of_le Vs6.lt (Nat.le_of_eq g7.symm))
  have Va12 := ((Va8.keep K10 (ninS ne_b1_b7 nin0)).ext E11)
  have Od4 : Old Z n0 T10.heap := Od3.keep K10 (allS g_b7 all0)
  have Od5 : Old Z n0 h11 := Od4.ext E11
  have z4 := Nat.le_trans Z0 (Nat.le_trans (Nat.le_trans (Nat.le_trans s0 s1) s2) s3)
  have g_b11 : n0 ≤ b11 := Nat.le_trans z4 (Nat.le_of_eq g11.symm)
  have z5 := Nat.le_trans Z0 (Nat.le_trans (Nat.le_trans (Nat.le_trans (Nat.le_trans s0 s1) s2) s3) s4)
  obtain ⟨_, T13, L13, X13, hQ13, st13⟩ := own_special X11 hx hZ hown (y := y_5) (a := b11) (w_8 hw) (w_9 hw) (w_7 hw) (w_10 hw) (rm6 l Z a0 hw [] b11 b1 (nar .char x3) k1 si2 h11 n0 z5 Va12 S5_COMPACT_STRINGS Od5 nc3 (by rw [ex3]; exact cd9) Fn11_coder A11 g_b11 Fn11_value) e11 (Ls := #[.val (.int p1), .val (.int p2), .val (.int p3), .val (.int p4), .val (.int (0 : Int32)), .val (.ref b7), .unset, .val (.int (1 : Int32)), .val (.ref b1)]) (by rw [hml]; rfl) (argsL := [(.ref b1)]) (rest := [(.ref b11)]) (lenOf pd_5 rfl) (hb hby at_87) (W := 1)
  obtain ⟨b13_b2_b3_b1, k13_k2_k3_k1, rfl, Nq13, K13, o13_0, o13_1, o13_2, o13_3, o13_4, o13_5⟩ := hQ13
  have N13 := Fr.app N10 Nq13
  have s5 := K13.1
  have Ex14 := ((o10_0.ext E11).keep K13)
  have ne_b7_b11 := Nat.ne_of_lt (Nat.lt_of_lt_of_le o10_2.lt (Nat.le_of_eq g11.symm))
  have Fl15 := ((o10_2.ext E11).keep K13 (ninS ne_b7_b11 nin0))
  have ne_b10_b2_b3_b1_b11 := Nat.ne_of_lt (Nat.lt_of_lt_of_le o10_5.lt (Nat.le_of_eq g11.symm))
  have Va16 := ((o10_5.ext E11).keep K13 (ninS ne_b10_b2_b3_b1_b11 nin0))
  have Od6 : Old Z n0 T13.heap := Od5.keep K13 (allS g_b11 all0)
  have Fl17 := ((o10_1.ext E11).keep K13 (ninS ne_b7_b11 nin0))
  have cd18 : ¬ ((122 : Int32) < (nar .char (nar .char (((nar .byte ((nar .char (if (p1 &&& (63 : Int32)) < (26 : Int32) then (nar .char (((65 : Int32) + (p1 &&& (63 : Int32))).toUInt32.toUInt16.toUInt32.toInt32)) else (if (p1 &&& (63 : Int32)) < (52 : Int32) then (nar .char (((97 : Int32) + ((p1 &&& (63 : Int32)) - (26 : Int32))).toUInt32.toUInt16.toUInt32.toInt32)) else (if (p1 &&& (63 : Int32)) < (62 : Int32) then (nar .char (((48 : Int32) + ((p1 &&& (63 : Int32)) - (52 : Int32))).toUInt32.toUInt16.toUInt32.toInt32)) else (if (p1 &&& (63 : Int32)) = (62 : Int32) then (45 : Int32) else (95 : Int32)))))).toInt8.toInt32)) &&& (255 : Int32)).toUInt32.toUInt16.toUInt32.toInt32)))) := (by have h : ∀ n : Fin 64, ¬ ((122 : Int32) < (nar .char (nar .char (((nar .byte ((nar .char (if (Int32.ofInt (n.val : Int)) < (26 : Int32) then (nar .char (((65 : Int32) + (Int32.ofInt (n.val : Int))).toUInt32.toUInt16.toUInt32.toInt32)) else (if (Int32.ofInt (n.val : Int)) < (52 : Int32) then (nar .char (((97 : Int32) + ((Int32.ofInt (n.val : Int)) - (26 : Int32))).toUInt32.toUInt16.toUInt32.toInt32)) else (if (Int32.ofInt (n.val : Int)) < (62 : Int32) then (nar .char (((48 : Int32) + ((Int32.ofInt (n.val : Int)) - (52 : Int32))).toUInt32.toUInt16.toUInt32.toInt32)) else (if (Int32.ofInt (n.val : Int)) = (62 : Int32) then (45 : Int32) else (95 : Int32)))))).toInt8.toInt32)) &&& (255 : Int32)).toUInt32.toUInt16.toUInt32.toInt32)))) := (by decide +kernel); obtain ⟨n, hn⟩ := own_fin64 p1; rw [hn]; exact h n)
  have cd19 : ¬ ((if (nar .char (nar .char (((nar .byte ((nar .char (if (p1 &&& (63 : Int32)) < (26 : Int32) then (nar .char (((65 : Int32) + (p1 &&& (63 : Int32))).toUInt32.toUInt16.toUInt32.toInt32)) else (if (p1 &&& (63 : Int32)) < (52 : Int32) then (nar .char (((97 : Int32) + ((p1 &&& (63 : Int32)) - (26 : Int32))).toUInt32.toUInt16.toUInt32.toInt32)) else (if (p1 &&& (63 : Int32)) < (62 : Int32) then (nar .char (((48 : Int32) + ((p1 &&& (63 : Int32)) - (52 : Int32))).toUInt32.toUInt16.toUInt32.toInt32)) else (if (p1 &&& (63 : Int32)) = (62 : Int32) then (45 : Int32) else (95 : Int32)))))).toInt8.toInt32)) &&& (255 : Int32)).toUInt32.toUInt16.toUInt32.toInt32))) < (65 : Int32) then (if (nar .char (nar .char (((nar .byte ((nar .char (if (p1 &&& (63 : Int32)) < (26 : Int32) then (nar .char (((65 : Int32) + (p1 &&& (63 : Int32))).toUInt32.toUInt16.toUInt32.toInt32)) else (if (p1 &&& (63 : Int32)) < (52 : Int32) then (nar .char (((97 : Int32) + ((p1 &&& (63 : Int32)) - (26 : Int32))).toUInt32.toUInt16.toUInt32.toInt32)) else (if (p1 &&& (63 : Int32)) < (62 : Int32) then (nar .char (((48 : Int32) + ((p1 &&& (63 : Int32)) - (52 : Int32))).toUInt32.toUInt16.toUInt32.toInt32)) else (if (p1 &&& (63 : Int32)) = (62 : Int32) then (45 : Int32) else (95 : Int32)))))).toInt8.toInt32)) &&& (255 : Int32)).toUInt32.toUInt16.toUInt32.toInt32))) < (48 : Int32) then (if (nar .char (nar .char (((nar .byte ((nar .char (if (p1 &&& (63 : Int32)) < (26 : Int32) then (nar .char (((65 : Int32) + (p1 &&& (63 : Int32))).toUInt32.toUInt16.toUInt32.toInt32)) else (if (p1 &&& (63 : Int32)) < (52 : Int32) then (nar .char (((97 : Int32) + ((p1 &&& (63 : Int32)) - (26 : Int32))).toUInt32.toUInt16.toUInt32.toInt32)) else (if (p1 &&& (63 : Int32)) < (62 : Int32) then (nar .char (((48 : Int32) + ((p1 &&& (63 : Int32)) - (52 : Int32))).toUInt32.toUInt16.toUInt32.toInt32)) else (if (p1 &&& (63 : Int32)) = (62 : Int32) then (45 : Int32) else (95 : Int32)))))).toInt8.toInt32)) &&& (255 : Int32)).toUInt32.toUInt16.toUInt32.toInt32))) = (45 : Int32) then (1 : Int32) else (0 : Int32)) else (if (57 : Int32) < (nar .char (nar .char (((nar .byte ((nar .char (if (p1 &&& (63 : Int32)) < (26 : Int32) then (nar .char (((65 : Int32) + (p1 &&& (63 : Int32))).toUInt32.toUInt16.toUInt32.toInt32)) else (if (p1 &&& (63 : Int32)) < (52 : Int32) then (nar .char (((97 : Int32) + ((p1 &&& (63 : Int32)) - (26 : Int32))).toUInt32.toUInt16.toUInt32.toInt32)) else (if (p1 &&& (63 : Int32)) < (62 : Int32) then (nar .char (((48 : Int32) + ((p1 &&& (63 : Int32)) - (52 : Int32))).toUInt32.toUInt16.toUInt32.toInt32)) else (if (p1 &&& (63 : Int32)) = (62 : Int32) then (45 : Int32) else (95 : Int32)))))).toInt8.toInt32)) &&& (255 : Int32)).toUInt32.toUInt16.toUInt32.toInt32))) then (0 : Int32) else (1 : Int32))) else (if (90 : Int32) < (nar .char (nar .char (((nar .byte ((nar .char (if (p1 &&& (63 : Int32)) < (26 : Int32) then (nar .char (((65 : Int32) + (p1 &&& (63 : Int32))).toUInt32.toUInt16.toUInt32.toInt32)) else (if (p1 &&& (63 : Int32)) < (52 : Int32) then (nar .char (((97 : Int32) + ((p1 &&& (63 : Int32)) - (26 : Int32))).toUInt32.toUInt16.toUInt32.toInt32)) else (if (p1 &&& (63 : Int32)) < (62 : Int32) then (nar .char (((48 : Int32) + ((p1 &&& (63 : Int32)) - (52 : Int32))).toUInt32.toUInt16.toUInt32.toInt32)) else (if (p1 &&& (63 : Int32)) = (62 : Int32) then (45 : Int32) else (95 : Int32)))))).toInt8.toInt32)) &&& (255 : Int32)).toUInt32.toUInt16.toUInt32.toInt32))) then (if (nar .char (nar .char (((nar .byte ((nar .char (if (p1 &&& (63 : Int32)) < (26 : Int32) then (nar .char (((65 : Int32) + (p1 &&& (63 : Int32))).toUInt32.toUInt16.toUInt32.toInt32)) else (if (p1 &&& (63 : Int32)) < (52 : Int32) then (nar .char (((97 : Int32) + ((p1 &&& (63 : Int32)) - (26 : Int32))).toUInt32.toUInt16.toUInt32.toInt32)) else (if (p1 &&& (63 : Int32)) < (62 : Int32) then (nar .char (((48 : Int32) + ((p1 &&& (63 : Int32)) - (52 : Int32))).toUInt32.toUInt16.toUInt32.toInt32)) else (if (p1 &&& (63 : Int32)) = (62 : Int32) then (45 : Int32) else (95 : Int32)))))).toInt8.toInt32)) &&& (255 : Int32)).toUInt32.toUInt16.toUInt32.toInt32))) < (97 : Int32) then (if (nar .char (nar .char (((nar .byte ((nar .char (if (p1 &&& (63 : Int32)) < (26 : Int32) then (nar .char (((65 : Int32) + (p1 &&& (63 : Int32))).toUInt32.toUInt16.toUInt32.toInt32)) else (if (p1 &&& (63 : Int32)) < (52 : Int32) then (nar .char (((97 : Int32) + ((p1 &&& (63 : Int32)) - (26 : Int32))).toUInt32.toUInt16.toUInt32.toInt32)) else (if (p1 &&& (63 : Int32)) < (62 : Int32) then (nar .char (((48 : Int32) + ((p1 &&& (63 : Int32)) - (52 : Int32))).toUInt32.toUInt16.toUInt32.toInt32)) else (if (p1 &&& (63 : Int32)) = (62 : Int32) then (45 : Int32) else (95 : Int32)))))).toInt8.toInt32)) &&& (255 : Int32)).toUInt32.toUInt16.toUInt32.toInt32))) = (95 : Int32) then (1 : Int32) else (0 : Int32)) else (1 : Int32)) else (1 : Int32))) = (0 : Int32)) := (by have h : ∀ n : Fin 64, ¬ ((if (nar .char (nar .char (((nar .byte ((nar .char (if (Int32.ofInt (n.val : Int)) < (26 : Int32) then (nar .char (((65 : Int32) + (Int32.ofInt (n.val : Int))).toUInt32.toUInt16.toUInt32.toInt32)) else (if (Int32.ofInt (n.val : Int)) < (52 : Int32) then (nar .char (((97 : Int32) + ((Int32.ofInt (n.val : Int)) - (26 : Int32))).toUInt32.toUInt16.toUInt32.toInt32)) else (if (Int32.ofInt (n.val : Int)) < (62 : Int32) then (nar .char (((48 : Int32) + ((Int32.ofInt (n.val : Int)) - (52 : Int32))).toUInt32.toUInt16.toUInt32.toInt32)) else (if (Int32.ofInt (n.val : Int)) = (62 : Int32) then (45 : Int32) else (95 : Int32)))))).toInt8.toInt32)) &&& (255 : Int32)).toUInt32.toUInt16.toUInt32.toInt32))) < (65 : Int32) then (if (nar .char (nar .char (((nar .byte ((nar .char (if (Int32.ofInt (n.val : Int)) < (26 : Int32) then (nar .char (((65 : Int32) + (Int32.ofInt (n.val : Int))).toUInt32.toUInt16.toUInt32.toInt32)) else (if (Int32.ofInt (n.val : Int)) < (52 : Int32) then (nar .char (((97 : Int32) + ((Int32.ofInt (n.val : Int)) - (26 : Int32))).toUInt32.toUInt16.toUInt32.toInt32)) else (if (Int32.ofInt (n.val : Int)) < (62 : Int32) then (nar .char (((48 : Int32) + ((Int32.ofInt (n.val : Int)) - (52 : Int32))).toUInt32.toUInt16.toUInt32.toInt32)) else (if (Int32.ofInt (n.val : Int)) = (62 : Int32) then (45 : Int32) else (95 : Int32)))))).toInt8.toInt32)) &&& (255 : Int32)).toUInt32.toUInt16.toUInt32.toInt32))) < (48 : Int32) then (if (nar .char (nar .char (((nar .byte ((nar .char (if (Int32.ofInt (n.val : Int)) < (26 : Int32) then (nar .char (((65 : Int32) + (Int32.ofInt (n.val : Int))).toUInt32.toUInt16.toUInt32.toInt32)) else (if (Int32.ofInt (n.val : Int)) < (52 : Int32) then (nar .char (((97 : Int32) + ((Int32.ofInt (n.val : Int)) - (26 : Int32))).toUInt32.toUInt16.toUInt32.toInt32)) else (if (Int32.ofInt (n.val : Int)) < (62 : Int32) then (nar .char (((48 : Int32) + ((Int32.ofInt (n.val : Int)) - (52 : Int32))).toUInt32.toUInt16.toUInt32.toInt32)) else (if (Int32.ofInt (n.val : Int)) = (62 : Int32) then (45 : Int32) else (95 : Int32)))))).toInt8.toInt32)) &&& (255 : Int32)).toUInt32.toUInt16.toUInt32.toInt32))) = (45 : Int32) then (1 : Int32) else (0 : Int32)) else (if (57 : Int32) < (nar .char (nar .char (((nar .byte ((nar .char (if (Int32.ofInt (n.val : Int)) < (26 : Int32) then (nar .char (((65 : Int32) + (Int32.ofInt (n.val : Int))).toUInt32.toUInt16.toUInt32.toInt32)) else (if (Int32.ofInt (n.val : Int)) < (52 : Int32) then (nar .char (((97 : Int32) + ((Int32.ofInt (n.val : Int)) - (26 : Int32))).toUInt32.toUInt16.toUInt32.toInt32)) else (if (Int32.ofInt (n.val : Int)) < (62 : Int32) then (nar .char (((48 : Int32) + ((Int32.ofInt (n.val : Int)) - (52 : Int32))).toUInt32.toUInt16.toUInt32.toInt32)) else (if (Int32.ofInt (n.val : Int)) = (62 : Int32) then (45 : Int32) else (95 : Int32)))))).toInt8.toInt32)) &&& (255 : Int32)).toUInt32.toUInt16.toUInt32.toInt32))) then (0 : Int32) else (1 : Int32))) else (if (90 : Int32) < (nar .char (nar .char (((nar .byte ((nar .char (if (Int32.ofInt (n.val : Int)) < (26 : Int32) then (nar .char (((65 : Int32) + (Int32.ofInt (n.val : Int))).toUInt32.toUInt16.toUInt32.toInt32)) else (if (Int32.ofInt (n.val : Int)) < (52 : Int32) then (nar .char (((97 : Int32) + ((Int32.ofInt (n.val : Int)) - (26 : Int32))).toUInt32.toUInt16.toUInt32.toInt32)) else (if (Int32.ofInt (n.val : Int)) < (62 : Int32) then (nar .char (((48 : Int32) + ((Int32.ofInt (n.val : Int)) - (52 : Int32))).toUInt32.toUInt16.toUInt32.toInt32)) else (if (Int32.ofInt (n.val : Int)) = (62 : Int32) then (45 : Int32) else (95 : Int32)))))).toInt8.toInt32)) &&& (255 : Int32)).toUInt32.toUInt16.toUInt32.toInt32))) then (if (nar .char (nar .char (((nar .byte ((nar .char (if (Int32.ofInt (n.val : Int)) < (26 : Int32) then (nar .char (((65 : Int32) + (Int32.ofInt (n.val : Int))).toUInt32.toUInt16.toUInt32.toInt32)) else (if (Int32.ofInt (n.val : Int)) < (52 : Int32) then (nar .char (((97 : Int32) + ((Int32.ofInt (n.val : Int)) - (26 : Int32))).toUInt32.toUInt16.toUInt32.toInt32)) else (if (Int32.ofInt (n.val : Int)) < (62 : Int32) then (nar .char (((48 : Int32) + ((Int32.ofInt (n.val : Int)) - (52 : Int32))).toUInt32.toUInt16.toUInt32.toInt32)) else (if (Int32.ofInt (n.val : Int)) = (62 : Int32) then (45 : Int32) else (95 : Int32)))))).toInt8.toInt32)) &&& (255 : Int32)).toUInt32.toUInt16.toUInt32.toInt32))) < (97 : Int32) then (if (nar .char (nar .char (((nar .byte ((nar .char (if (Int32.ofInt (n.val : Int)) < (26 : Int32) then (nar .char (((65 : Int32) + (Int32.ofInt (n.val : Int))).toUInt32.toUInt16.toUInt32.toInt32)) else (if (Int32.ofInt (n.val : Int)) < (52 : Int32) then (nar .char (((97 : Int32) + ((Int32.ofInt (n.val : Int)) - (26 : Int32))).toUInt32.toUInt16.toUInt32.toInt32)) else (if (Int32.ofInt (n.val : Int)) < (62 : Int32) then (nar .char (((48 : Int32) + ((Int32.ofInt (n.val : Int)) - (52 : Int32))).toUInt32.toUInt16.toUInt32.toInt32)) else (if (Int32.ofInt (n.val : Int)) = (62 : Int32) then (45 : Int32) else (95 : Int32)))))).toInt8.toInt32)) &&& (255 : Int32)).toUInt32.toUInt16.toUInt32.toInt32))) = (95 : Int32) then (1 : Int32) else (0 : Int32)) else (1 : Int32)) else (1 : Int32))) = (0 : Int32)) := (by decide +kernel); obtain ⟨n, hn⟩ := own_fin64 p1; rw [hn]; exact h n)
  have z6 := Nat.le_trans Z0 (Nat.le_trans (Nat.le_trans (Nat.le_trans (Nat.le_trans (Nat.le_trans s0 s1) s2) s3) s4) s5)
  obtain ⟨_, T20, L20, X20, hQ20, st20⟩ := own_callS X13 hx hZ hown (y := y_16) (w_34 hw) (w_35 hw) (w_36 hw) (w_37 hw) (rm20 l Z a0 hw [] b7 b10_b2_b3_b1 (nar .byte ((nar .char x3).toInt8.toInt32)) k10_k2_k3_k1 si2 sr1 T13.heap n0 z6 Ex14 Fl15 Va16 S5_COMPACT_STRINGS Od6 nc3 Fl17 R_sr1 S4_SIOOBE_FORMATTER (by rw [ex3]; exact cd18) (by rw [ex3]; exact cd19)) rfl (Ls := #[.val (.int p1), .val (.int p2), .val (.int p3), .val (.int p4), .val (.int (0 : Int32)), .val (.ref b7), .val (.ref b11), .val (.int (1 : Int32)), .val (.ref b1)]) (by rw [hml]; rfl) (argsL := [(.ref b7)]) (rest := []) (lenOf pd_14 rfl) (hb hby at_94) (W := 0)
  obtain ⟨b20_b5, rfl, Nq20, K20, o20_0, o20_1, o20_2⟩ := hQ20
  have N20 := Fr.app N13 Nq20
  have s6 := K20.1
  have Ex21 := (o13_0.keep K20)
  have Fl22 := (o13_2.keep K20 nin0)
  have Va23 := (o13_5.keep K20 nin0)
  have Od7 : Old Z n0 T20.heap := Od6.keep K20 all0
  have Fl24 := (o13_1.keep K20 nin0)
  have z7 := Nat.le_trans Z0 (Nat.le_trans (Nat.le_trans (Nat.le_trans (Nat.le_trans (Nat.le_trans (Nat.le_trans s0 s1) s2) s3) s4) s5) s6)
  obtain ⟨_, T25, L25, X25, hQ25, st25⟩ := own_callS X20 hx hZ hown (y := y_16) (w_34 hw) (w_35 hw) (w_36 hw) (w_37 hw) (rm20 l Z a0 hw [] b11 b13_b2_b3_b1 (nar .byte ((nar .char x3).toInt8.toInt32)) k13_k2_k3_k1 si2 sr1 T20.heap n0 z7 Ex21 Fl22 Va23 S5_COMPACT_STRINGS Od7 nc3 Fl24 R_sr1 S4_SIOOBE_FORMATTER (by rw [ex3]; exact cd18) (by rw [ex3]; exact cd19)) rfl (Ls := #[.val (.int p1), .val (.int p2), .val (.int p3), .val (.int p4), .val (.int (0 : Int32)), .val (.ref b7), .val (.ref b11), .val (.ref b20_b5), .val (.ref b1)]) (by rw [hml]; rfl) (argsL := [(.ref b11)]) (rest := []) (lenOf pd_14 rfl) (hb hby at_101) (W := 0)
  obtain ⟨b25_b5, rfl, Nq25, K25, o25_0, o25_1, o25_2⟩ := hQ25
  have N25 := Fr.app N20 Nq25
  have s7 := K25.1
  have Ex26 := (o20_1.keep K25)
  have Fl27 := (o20_2.keep K25 nin0)
  have z8 := Nat.le_trans Z0 (Nat.le_trans (Nat.le_trans (Nat.le_trans (Nat.le_trans (Nat.le_trans (Nat.le_trans (Nat.le_trans s0 s1) s2) s3) s4) s5) s6) s7)
  obtain ⟨_, T28, L28, X28, hQ28, st28⟩ := own_virtual X25 hx hZ hown (y := y_17) (z := y_17) Ex26 (w_86 hw) (w_87 hw) (notFace_of_selects (args := #[]) (mvT hZ (w_89 hw))) (w_89 hw) (w_88 hw) (w_36 hw) (w_90 hw) (rm21 l Z a0 hw [] b20_b5 b7 T25.heap n0 z8 Fl27) rfl (Ls := #[.val (.int p1), .val (.int p2), .val (.int p3), .val (.int p4), .val (.int (0 : Int32)), .val (.ref b7), .val (.ref b11), .val (.ref b20_b5), .val (.ref b25_b5)]) (by rw [hml]; rfl) (argsL := []) (rest := []) (lenOf pd_15 rfl) (hb hby at_113) (W := 0)
  obtain ⟨rfl, Nq28, e28⟩ := hQ28
  have N28 := Fr.app N25 Nq28
  have Ex29 := ((Ex14.keep K20).keep K25)
  obtain ⟨_, T30, L30, X30, hQ30, st30⟩ := own_virtual X28 hx hZ hown (y := y_18) (z := y_18) Ex29 (w_91 hw) (w_92 hw) (notFace_of_selects (args := #[]) (mvT hZ (w_94 hw))) (w_94 hw) (w_93 hw) (w_7 hw) (w_95 hw) (rm22 l Z a0 hw [] b7 T25.heap n0 z8) e28 (Ls := #[.val (.int p1), .val (.int p2), .val (.int p3), .val (.int p4), .val (.int (0 : Int32)), .val (.ref b7), .val (.ref b11), .val (.ref b20_b5), .val (.ref b25_b5)]) (by rw [hml]; rfl) (argsL := [(.ref b7)]) (rest := []) (lenOf pd_16 rfl) (hb hby at_118) (W := 0)
  obtain ⟨rfl, Nq30, e30⟩ := hQ30
  have N30 := Fr.app N28 Nq30
  obtain ⟨_, T31, L31, X31, hQ31, st31⟩ := own_virtual X30 hx hZ hown (y := y_17) (z := y_17) Ex26 (w_86 hw) (w_87 hw) (notFace_of_selects (args := #[]) (mvT hZ (w_89 hw))) (w_89 hw) (w_88 hw) (w_36 hw) (w_90 hw) (rm21 l Z a0 hw [] b20_b5 b7 T25.heap n0 z8 Fl27) e30 (Ls := #[.val (.int p1), .val (.int p2), .val (.int p3), .val (.int p4), .val (.int (0 : Int32)), .val (.ref b7), .val (.ref b11), .val (.ref b20_b5), .val (.ref b25_b5)]) (by rw [hml]; rfl) (argsL := []) (rest := []) (lenOf pd_15 rfl) (hb hby at_126) (W := 0)
  obtain ⟨rfl, Nq31, e31⟩ := hQ31
  have N31 := Fr.app N30 Nq31
  have Fl32 := ((Fl15.keep K20 nin0).keep K25 nin0)
  have Va33 := ((Va16.keep K20 nin0).keep K25 nin0)
  have Od8 : Old Z n0 T25.heap := Od7.keep K25 all0
  have Fl34 := ((Fl17.keep K20 nin0).keep K25 nin0)
  obtain ⟨_, T35, L35, X35, hQ35, st35⟩ := own_virtual X31 hx hZ hown (y := y_8) (z := y_8) Ex29 (w_96 hw) (w_44 hw) (notFace_of_selects (args := #[]) (mvT hZ (w_46 hw))) (w_46 hw) (w_45 hw) (w_7 hw) (w_47 hw) (rm18 l Z a0 hw [] b7 b10_b2_b3_b1 (nar .byte ((nar .char x3).toInt8.toInt32)) k10_k2_k3_k1 si2 T25.heap n0 z8 Fl32 Va33 Ex29 S5_COMPACT_STRINGS Od8 nc3 Fl34) e31 (Ls := #[.val (.int p1), .val (.int p2), .val (.int p3), .val (.int p4), .val (.int (0 : Int32)), .val (.ref b7), .val (.ref b11), .val (.ref b20_b5), .val (.ref b25_b5)]) (by rw [hml]; rfl) (argsL := []) (rest := []) (lenOf pd_8 rfl) (hb hby at_129) (W := 0)
  obtain ⟨rfl, Nq35, e35⟩ := hQ35
  have N35 := Fr.app N31 Nq35
  obtain ⟨_, T36, L36, X36, hQ36, st36⟩ := own_virtual X35 hx hZ hown (y := y_8) (z := y_8) Ex29 (w_96 hw) (w_44 hw) (notFace_of_selects (args := #[]) (mvT hZ (w_46 hw))) (w_46 hw) (w_45 hw) (w_7 hw) (w_47 hw) (rm18 l Z a0 hw [] b7 b10_b2_b3_b1 (nar .byte ((nar .char x3).toInt8.toInt32)) k10_k2_k3_k1 si2 T25.heap n0 z8 Fl32 Va33 Ex29 S5_COMPACT_STRINGS Od8 nc3 Fl34) e35 (Ls := #[.val (.int p1), .val (.int p2), .val (.int p3), .val (.int p4), .val (.int (0 : Int32)), .val (.ref b7), .val (.ref b11), .val (.ref b20_b5), .val (.ref b25_b5)]) (by rw [hml]; rfl) (argsL := []) (rest := [(.int (1 : Int32))]) (lenOf pd_8 rfl) (hb hby at_134) (W := 1)
  obtain ⟨rfl, Nq36, e36⟩ := hQ36
  have N36 := Fr.app N35 Nq36
  have Ex37 := (Ex21.keep K25)
  have Fl38 := (Fl24.keep K25 nin0)
  have Fl39 := (Fl22.keep K25 nin0)
  have Va40 := (Va23.keep K25 nin0)
  obtain ⟨_, T41, L41, X41, hQ41, st41⟩ := own_virtual X36 hx hZ hown (y := y_20) (z := y_20) Ex26 (w_97 hw) (w_98 hw) (notFace_of_selects (args := #[]) (mvT hZ (w_100 hw))) (w_100 hw) (w_99 hw) (w_36 hw) (w_101 hw) (rm25 l Z a0 hw [] b20_b5 b25_b5 b7 b11 si2 b10_b2_b3_b1 b13_b2_b3_b1 (nar .byte ((nar .char x3).toInt8.toInt32)) k10_k2_k3_k1 k13_k2_k3_k1 T25.heap n0 z8 o25_1 Fl27 o25_2 Ex29 ne_b7_b11 Ex37 S5_COMPACT_STRINGS Od8 nc3 Fl34 Fl38 Fl32 Fl39 Va33 Va40) e36 (Ls := #[.val (.int p1), .val (.int p2), .val (.int p3), .val (.int p4), .val (.int (0 : Int32)), .val (.ref b7), .val (.ref b11), .val (.ref b20_b5), .val (.ref b25_b5)]) (by rw [hml]; rfl) (argsL := [(.ref b25_b5)]) (rest := []) (lenOf pd_16 rfl) (hb hby at_144) (W := 0)
  obtain ⟨rfl, Nq41, e41⟩ := hQ41
  have N41 := Fr.app N36 Nq41
  refine ⟨T41, _, _, _, (some (.int (1 : Int32))), X41, nofun, by decide, by decide, ?_, fun fs hr => ?_⟩
  · show Q0 n0 _ T41.heap _
    rw [e41]
    subst ex3
    exact ⟨rfl, N41⟩
  · show Steps p.tables e below (s₁.setTop (mkF m 0 #[.val (.int p1), .val (.int p2), .val (.int p3), .val (.int p4), .unset, .unset, .unset, .unset, .unset] [])) _
    refine XS.iloadN X0.here hx rfl (hb hby at_0) rfl ?_
    refine XS.iconst X0.here hx rfl (hb hby at_1) ?_
    refine XS.iand X0.here hx rfl (hb hby at_2) rfl ?_
    show Steps p.tables e below (s₁.setTop (mkF m 3 #[.val (.int p1), .val (.int p2), .val (.int p3), .val (.int p4), .unset, .unset, .unset, .unset, .unset] [(.int (p4 &&& (3 : Int32)))])) _
    rw [hk]
    refine XS.istore X0.here hx rfl (hb hby at_3) rfl (l' := #[.val (.int p1), .val (.int p2), .val (.int p3), .val (.int p4), .val (.int (0 : Int32)), .unset, .unset, .unset, .unset]) rfl ?_
    refine XS.iload X0.here hx rfl (hb hby at_5) rfl ?_
    refine XS.iconst X0.here hx rfl (hb hby at_7) ?_
    refine XS.icmpYes X0.here hx rfl (pc0 := 8) (pc' := 22) rfl (hb hby at_8) rfl (feq ((by decide : ¬ ((0 : Int32) = (3 : Int32))) : ¬ ((0 : Int32) = (3 : Int32)))).2 (by decide) (by decide) ?_
    refine XS.iload X0.here hx rfl (hb hby at_22) rfl ?_
    refine XS.iconst X0.here hx rfl (hb hby at_24) ?_
    refine XS.iadd X0.here hx rfl (hb hby at_25) rfl ?_
    refine XS.istore X0.here hx rfl (hb hby at_26) rfl (l' := #[.val (.int p1), .val (.int p2), .val (.int p3), .val (.int p4), .val (.int (0 : Int32)), .unset, .unset, .val (.int (1 : Int32)), .unset]) rfl ?_
    refine XS.iload X0.here hx rfl (hb hby at_28) rfl ?_
    refine st1 _ ?_
    refine XS.astore X1.here hx rfl (hb hby at_32) rfl rfl (l' := #[.val (.int p1), .val (.int p2), .val (.int p3), .val (.int p4), .val (.int (0 : Int32)), .unset, .unset, .val (.int (1 : Int32)), .val (.ref b1)]) rfl ?_
    show Steps p.tables e below (T1.setTop (mkF m 34 #[.val (.int p1), .val (.int p2), .val (.int p3), .val (.int p4), .val (.int (0 : Int32)), .unset, .unset, .val (.int (1 : Int32)), .val (.ref b1)] [])) _
    refine XS.aload X1.here hx rfl (hb hby at_34) rfl rfl ?_
    refine XS.iconst X1.here hx rfl (hb hby at_36) ?_
    refine XS.iloadN X1.here hx rfl (hb hby at_37) rfl ?_
    refine st2 _ ?_
    show Steps p.tables e below (T2.setTop (mkF m 41 #[.val (.int p1), .val (.int p2), .val (.int p3), .val (.int p4), .val (.int (0 : Int32)), .unset, .unset, .val (.int (1 : Int32)), .val (.ref b1)] [(.int (if (p1 &&& (63 : Int32)) < (26 : Int32) then (nar .char (((65 : Int32) + (p1 &&& (63 : Int32))).toUInt32.toUInt16.toUInt32.toInt32)) else (if (p1 &&& (63 : Int32)) < (52 : Int32) then (nar .char (((97 : Int32) + ((p1 &&& (63 : Int32)) - (26 : Int32))).toUInt32.toUInt16.toUInt32.toInt32)) else (if (p1 &&& (63 : Int32)) < (62 : Int32) then (nar .char (((48 : Int32) + ((p1 &&& (63 : Int32)) - (52 : Int32))).toUInt32.toUInt16.toUInt32.toInt32)) else (if (p1 &&& (63 : Int32)) = (62 : Int32) then (45 : Int32) else (95 : Int32)))))), (.int (0 : Int32)), (.ref b1)])) _
    rw [← ex3]
    refine st6 _ ?_
    refine XS.iload X6.here hx rfl (hb hby at_42) rfl ?_
    refine XS.iconst X6.here hx rfl (hb hby at_44) ?_
    refine XS.icmpYes X6.here hx rfl (pc0 := 45) (pc' := 56) rfl (hb hby at_45) rfl (flt ((by decide : ¬ ((1 : Int32) < (1 : Int32))) : ¬ ((1 : Int32) < (1 : Int32)))).2.2.2 (by decide) (by decide) ?_
    refine XS.iload X6.here hx rfl (hb hby at_56) rfl ?_
    refine XS.iconst X6.here hx rfl (hb hby at_58) ?_
    refine XS.icmpYes X6.here hx rfl (pc0 := 59) (pc' := 70) rfl (hb hby at_59) rfl (flt ((by decide : ¬ ((2 : Int32) < (1 : Int32))) : ¬ ((2 : Int32) < (1 : Int32)))).2.2.2 (by decide) (by decide) ?_
    refine st7 _ ?_
    refine XS.dup X7.here hx rfl (hb hby at_73) rfl rfl ?_
    refine XS.aload X7.here hx rfl (hb hby at_74) rfl rfl ?_
    refine st10 _ ?_
    show Steps p.tables e below (T10.setTop (mkF m 79 #[.val (.int p1), .val (.int p2), .val (.int p3), .val (.int p4), .val (.int (0 : Int32)), .unset, .unset, .val (.int (1 : Int32)), .val (.ref b1)] [(.ref b7)])) _
    refine XS.astore X10.here hx rfl (hb hby at_79) rfl rfl (l' := #[.val (.int p1), .val (.int p2), .val (.int p3), .val (.int p4), .val (.int (0 : Int32)), .val (.ref b7), .unset, .val (.int (1 : Int32)), .val (.ref b1)]) rfl ?_
    refine st11 _ ?_
    refine XS.dup X11.here hx rfl (hb hby at_84) rfl rfl ?_
    refine XS.aload X11.here hx rfl (hb hby at_85) rfl rfl ?_
    refine st13 _ ?_
    refine XS.astore X13.here hx rfl (hb hby at_90) rfl rfl (l' := #[.val (.int p1), .val (.int p2), .val (.int p3), .val (.int p4), .val (.int (0 : Int32)), .val (.ref b7), .val (.ref b11), .val (.int (1 : Int32)), .val (.ref b1)]) rfl ?_
    refine XS.aload X13.here hx rfl (hb hby at_92) rfl rfl ?_
    refine st20 _ ?_
    refine XS.astore X20.here hx rfl (hb hby at_97) rfl rfl (l' := #[.val (.int p1), .val (.int p2), .val (.int p3), .val (.int p4), .val (.int (0 : Int32)), .val (.ref b7), .val (.ref b11), .val (.ref b20_b5), .val (.ref b1)]) rfl ?_
    refine XS.aload X20.here hx rfl (hb hby at_99) rfl rfl ?_
    refine st25 _ ?_
    refine XS.astore X25.here hx rfl (hb hby at_104) rfl rfl (l' := #[.val (.int p1), .val (.int p2), .val (.int p3), .val (.int p4), .val (.int (0 : Int32)), .val (.ref b7), .val (.ref b11), .val (.ref b20_b5), .val (.ref b25_b5)]) rfl ?_
    show Steps p.tables e below (T25.setTop (mkF m 106 #[.val (.int p1), .val (.int p2), .val (.int p3), .val (.int p4), .val (.int (0 : Int32)), .val (.ref b7), .val (.ref b11), .val (.ref b20_b5), .val (.ref b25_b5)] [])) _
    refine XS.aload X25.here hx rfl (hb hby at_106) rfl rfl ?_
    refine XS.ifnullNo X25.here hx rfl (hb hby at_108) rfl ?_
    refine XS.aload X25.here hx rfl (hb hby at_111) rfl rfl ?_
    refine st28 _ ?_
    refine XS.aload X28.here hx rfl (hb hby at_116) rfl rfl ?_
    refine st30 _ ?_
    refine XS.ifNo X30.here hx rfl (hb hby at_121) rfl ((if0 _ _).trans (feq ((by decide : ¬ ((1 : Int32) = (0 : Int32))) : ¬ ((1 : Int32) = (0 : Int32)))).1) ?_
    refine XS.aload X30.here hx rfl (hb hby at_124) rfl rfl ?_
    refine st31 _ ?_
    refine st35 _ ?_
    refine XS.aload X35.here hx rfl (hb hby at_132) rfl rfl ?_
    refine st36 _ ?_
    show Steps p.tables e below (T36.setTop (mkF m 137 #[.val (.int p1), .val (.int p2), .val (.int p3), .val (.int p4), .val (.int (0 : Int32)), .val (.ref b7), .val (.ref b11), .val (.ref b20_b5), .val (.ref b25_b5)] [(.int (1 : Int32)), (.int (1 : Int32))])) _
    refine XS.icmpNo X36.here hx rfl (hb hby at_137) rfl (teq ((by decide : (1 : Int32) = (1 : Int32)) : (1 : Int32) = (1 : Int32))).2 ?_
    refine XS.aload X36.here hx rfl (hb hby at_140) rfl rfl ?_
    refine XS.aload X36.here hx rfl (hb hby at_142) rfl rfl ?_
    refine st41 _ ?_
    refine XS.ifNo X41.here hx rfl (hb hby at_147) rfl ((if0 _ _).trans (feq ((by decide : ¬ ((1 : Int32) = (0 : Int32))) : ¬ ((1 : Int32) = (0 : Int32)))).1) ?_
    refine XS.iconst X41.here hx rfl (hb hby at_150) ?_
    refine XS.goto X41.here hx rfl (pc0 := 151) (pc' := 155) rfl (hb hby at_151) (by decide) (by decide) ?_
    exact retN X41 hx (t := .boolean) hret (by simp) (hb hby at_155) hr
-- java/lang/StringUTF16.compress([CI[BII)I
abbrev Rm26 : Room := { frames := 0, cells := 0, slots := 0, locals := 0 }
def Q26 (Z : State) (a1 : Addr) (a2 : Addr) (i3 : Int32) (i4 : Int32) (ck5 : ClassId) (ck7 : ClassId) (h0 : Heap) (n0 : Nat) (v : Option Value) (h : Heap) (L : List Loc) : Prop := v = some (.int (2 : Int32)) ∧ Fr n0 L ∧ Keep h0 h [a2] ∧ Exa Z h a2 "[B" ∧ Arv Z h a2 ck7 .byte (2 : Int32) [(.int (nar .byte (i3.toInt8.toInt32))), (.int (nar .byte (i4.toInt8.toInt32)))] (.int (0 : Int32))
theorem ef26 (a1 : Addr) (a2 : Addr) (m : MethodId) : entryFrame m #[(.ref a1), (.int (0 : Int32)), (.ref a2), (.int (0 : Int32)), (.int (2 : Int32))] 7 = mkF m 0 #[.val (.ref a1), .val (.int (0 : Int32)), .val (.ref a2), .val (.int (0 : Int32)), .val (.int (2 : Int32)), .unset, .unset] [] := by first | (simp [entryFrame, mkF, argsToLocals, Value.category]; done) | rfl
theorem rm26 (l : Launch) (Z : State) (a0 : Array Value) (hw : ∀ d ∈ tables_1, d.before a0 Z = true) (ws : List Jvm.Cond) (a1 : Addr) (a2 : Addr) (i3 : Int32) (i4 : Int32) (ck5 : ClassId) (ck7 : ClassId) (h0 : Heap) (n0 : Nat) (Z0 : n0 ≤ h0.size) (V_a1 : Arv Z h0 a1 ck5 .char (2 : Int32) [(.int i3), (.int i4)] (.int (0 : Int32))) (c6 : ¬ ((255 : Int32) < i3)) (V_a2 : Arv Z h0 a2 ck7 .byte (2 : Int32) [(.int (0 : Int32)), (.int (0 : Int32))] (.int (0 : Int32))) (g_a2 : n0 ≤ a2) (ne_a1_a2 : a1 ≠ a2) (c8 : ¬ ((255 : Int32) < i4)) (E_a2 : Exa Z h0 a2 "[B") :
    OwnMet l Z y_1 jdk_52_method_21_code 7 (some .int) ws Rm26 #[(.ref a1), (.int (0 : Int32)), (.ref a2), (.int (0 : Int32)), (.int (2 : Int32))] h0 (Q26 Z a1 a2 i3 i4 ck5 ck7 h0 n0) := by
  refine own_body (plainFor_of_name pn_1) (ef26 a1 a2) ?_
  intro p e s m below meth c s₁ hx hby hml hown hnm hret hZ X0 e0
  have N0 := Fr.nil n0
  obtain ⟨cl1, Ar1, q1, S1, M1, Hs1, G1⟩ := id V_a1
  have hin2 : ¬ ((0 : Int32) < 0 ∨ cl1.slots.size ≤ ((0 : Int32)).toNatClampNeg) := inb_of S1 ⟨(by decide : ¬ ((0 : Int32) < (0 : Int32))), (by decide : (0 : Int32) < (2 : Int32))⟩
  obtain ⟨cl3, Ar3, q3, S3, M3, Hs3, G3⟩ := id V_a2
  have hin4 : ¬ ((0 : Int32) < 0 ∨ cl3.slots.size ≤ ((0 : Int32)).toNatClampNeg) := inb_of S3 ⟨(by decide : ¬ ((0 : Int32) < (0 : Int32))), (by decide : (0 : Int32) < (2 : Int32))⟩
  obtain ⟨T5, h5, X5, e5, W5, st5⟩ := stB X0 hx hZ e0 Ar3 (j := (0 : Int32)) hin4 (g := (mkF m 31 #[.val (.ref a1), .val (.int (0 : Int32)), .val (.ref a2), .val (.int (0 : Int32)), .val (.int (2 : Int32)), .val (.int (0 : Int32)), .val (.int i3)] [(.int (i3.toInt8.toInt32)), (.int (0 : Int32)), (.ref a2)])) rfl rfl (hb hby d6_31)
  have s0 := (Keep.of_wr W5).1
  have N5 := Fr.snoc X5 N0 g_a2
  have Vs5 : Arv Z h5 a2 ck7 .byte (2 : Int32) [(.int (nar .byte (i3.toInt8.toInt32))), (.int (0 : Int32))] (.int (0 : Int32)) := Arv.set Ar3 q3 S3 M3 Hs3 G3 (fits_nar_byte _) W5 0 rfl (Nat.le_of_ble_eq_true rfl)
  have Va6 := (V_a1.other W5 ne_a1_a2)
  obtain ⟨cl7, Ar7, q7, S7, M7, Hs7, G7⟩ := id Va6
  have hin8 : ¬ ((1 : Int32) < 0 ∨ cl7.slots.size ≤ ((1 : Int32)).toNatClampNeg) := inb_of S7 ⟨(by decide : ¬ ((1 : Int32) < (0 : Int32))), (by decide : (1 : Int32) < (2 : Int32))⟩
  obtain ⟨cl9, Ar9, q9, S9, M9, Hs9, G9⟩ := id Vs5
  have hin10 : ¬ ((1 : Int32) < 0 ∨ cl9.slots.size ≤ ((1 : Int32)).toNatClampNeg) := inb_of S9 ⟨(by decide : ¬ ((1 : Int32) < (0 : Int32))), (by decide : (1 : Int32) < (2 : Int32))⟩
  obtain ⟨T11, h11, X11, e11, W11, st11⟩ := stB X5 hx hZ e5 Ar9 (j := (1 : Int32)) hin10 (g := (mkF m 31 #[.val (.ref a1), .val (.int (1 : Int32)), .val (.ref a2), .val (.int (1 : Int32)), .val (.int (2 : Int32)), .val (.int (1 : Int32)), .val (.int i4)] [(.int (i4.toInt8.toInt32)), (.int (1 : Int32)), (.ref a2)])) rfl rfl (hb hby d6_31)
  have s1 := (Keep.of_wr W11).1
  have N11 := Fr.snoc X11 N5 g_a2
  have Vs11 : Arv Z h11 a2 ck7 .byte (2 : Int32) [(.int (nar .byte (i3.toInt8.toInt32))), (.int (nar .byte (i4.toInt8.toInt32)))] (.int (0 : Int32)) := Arv.set Ar9 q9 S9 M9 Hs9 G9 (fits_nar_byte _) W11 1 rfl (Nat.le_of_ble_eq_true rfl)
  have Ex12 := ((E_a2.wr W5).wr W11)
  have Kp0 : Keep h0 h5 [a2] := (Keep.refl h0 [a2]).wr W5 (Or.inl (List.mem_of_getElem? (i := 0) rfl))
  have Kp1 : Keep h0 h11 [a2] := Kp0.wr W11 (Or.inl (List.mem_of_getElem? (i := 0) rfl))
  refine ⟨T11, _, _, _, (some (.int (2 : Int32))), X11, nofun, by decide, by decide, ?_, fun fs hr => ?_⟩
  · show Q26 Z a1 a2 i3 i4 ck5 ck7 h0 n0 _ T11.heap _
    rw [e11]
    exact ⟨rfl, N11, Kp1, Ex12, Vs11⟩
  · show Steps p.tables e below (s₁.setTop (mkF m 0 #[.val (.ref a1), .val (.int (0 : Int32)), .val (.ref a2), .val (.int (0 : Int32)), .val (.int (2 : Int32)), .unset, .unset] [])) _
    refine XS.iconst X0.here hx rfl (hb hby d6_0) ?_
    refine XS.istore X0.here hx rfl (hb hby d6_1) rfl (l' := #[.val (.ref a1), .val (.int (0 : Int32)), .val (.ref a2), .val (.int (0 : Int32)), .val (.int (2 : Int32)), .val (.int (0 : Int32)), .unset]) rfl ?_
    refine XS.iload X0.here hx rfl (hb hby d6_3) rfl ?_
    refine XS.iload X0.here hx rfl (hb hby d6_5) rfl ?_
    refine XS.icmpNo X0.here hx rfl (hb hby d6_7) rfl (tlt ((by decide : (0 : Int32) < (2 : Int32)) : (0 : Int32) < (2 : Int32))).2.1 ?_
    refine XS.aloadN X0.here hx rfl (hb hby d6_10) rfl rfl ?_
    refine XS.iloadN X0.here hx rfl (hb hby d6_11) rfl ?_
    refine X0.caload hx (j := (0 : Int32)) (v := (.int i3)) (by rw [e0]; exact Ar1.1) (State.isArrayOf_alike hZ.alike Ar1.2.1) Ar1.2.2 hin2 (Has.at Hs1 hin2 rfl) (g := (mkF m 12 #[.val (.ref a1), .val (.int (0 : Int32)), .val (.ref a2), .val (.int (0 : Int32)), .val (.int (2 : Int32)), .val (.int (0 : Int32)), .unset] [(.int (0 : Int32)), (.ref a1)])) rfl rfl (hb hby d6_12) _ ?_
    refine XS.istore X0.here hx rfl (hb hby d6_13) rfl (l' := #[.val (.ref a1), .val (.int (0 : Int32)), .val (.ref a2), .val (.int (0 : Int32)), .val (.int (2 : Int32)), .val (.int (0 : Int32)), .val (.int i3)]) rfl ?_
    refine XS.iload X0.here hx rfl (hb hby d6_15) rfl ?_
    refine XS.sipush X0.here hx rfl (hb hby d6_17) ?_
    refine XS.icmpYes X0.here hx rfl (pc0 := 20) (pc' := 26) rfl (hb hby d6_20) rfl (flt (c6 : ¬ ((255 : Int32) < i3))).2.2.2 (by decide) (by decide) ?_
    show Steps p.tables e below (s₁.setTop (mkF m 26 #[.val (.ref a1), .val (.int (0 : Int32)), .val (.ref a2), .val (.int (0 : Int32)), .val (.int (2 : Int32)), .val (.int (0 : Int32)), .val (.int i3)] [])) _
    refine XS.aloadN X0.here hx rfl (hb hby d6_26) rfl rfl ?_
    refine XS.iloadN X0.here hx rfl (hb hby d6_27) rfl ?_
    refine XS.iload X0.here hx rfl (hb hby d6_28) rfl ?_
    refine XS.i2b X0.here hx rfl (hb hby d6_30) rfl ?_
    refine st5 _ ?_
    refine XS.iinc X5.here hx rfl (hb hby d6_32) rfl (l' := #[.val (.ref a1), .val (.int (1 : Int32)), .val (.ref a2), .val (.int (0 : Int32)), .val (.int (2 : Int32)), .val (.int (0 : Int32)), .val (.int i3)]) rfl ?_
    refine XS.iinc X5.here hx rfl (hb hby d6_35) rfl (l' := #[.val (.ref a1), .val (.int (1 : Int32)), .val (.ref a2), .val (.int (1 : Int32)), .val (.int (2 : Int32)), .val (.int (0 : Int32)), .val (.int i3)]) rfl ?_
    refine XS.iinc X5.here hx rfl (hb hby d6_38) rfl (l' := #[.val (.ref a1), .val (.int (1 : Int32)), .val (.ref a2), .val (.int (1 : Int32)), .val (.int (2 : Int32)), .val (.int (1 : Int32)), .val (.int i3)]) rfl ?_
    refine XS.goto X5.here hx rfl (pc0 := 41) (pc' := 3) rfl (hb hby d6_41) (by decide) (by decide) ?_
    refine XS.iload X5.here hx rfl (hb hby d6_3) rfl ?_
    refine XS.iload X5.here hx rfl (hb hby d6_5) rfl ?_
    refine XS.icmpNo X5.here hx rfl (hb hby d6_7) rfl (tlt ((by decide : (1 : Int32) < (2 : Int32)) : (1 : Int32) < (2 : Int32))).2.1 ?_
    show Steps p.tables e below (T5.setTop (mkF m 10 #[.val (.ref a1), .val (.int (1 : Int32)), .val (.ref a2), .val (.int (1 : Int32)), .val (.int (2 : Int32)), .val (.int (1 : Int32)), .val (.int i3)] [])) _
    refine XS.aloadN X5.here hx rfl (hb hby d6_10) rfl rfl ?_
    refine XS.iloadN X5.here hx rfl (hb hby d6_11) rfl ?_
    refine X5.caload hx (j := (1 : Int32)) (v := (.int i4)) (by rw [e5]; exact Ar7.1) (State.isArrayOf_alike hZ.alike Ar7.2.1) Ar7.2.2 hin8 (Has.at Hs7 hin8 rfl) (g := (mkF m 12 #[.val (.ref a1), .val (.int (1 : Int32)), .val (.ref a2), .val (.int (1 : Int32)), .val (.int (2 : Int32)), .val (.int (1 : Int32)), .val (.int i3)] [(.int (1 : Int32)), (.ref a1)])) rfl rfl (hb hby d6_12) _ ?_
    refine XS.istore X5.here hx rfl (hb hby d6_13) rfl (l' := #[.val (.ref a1), .val (.int (1 : Int32)), .val (.ref a2), .val (.int (1 : Int32)), .val (.int (2 : Int32)), .val (.int (1 : Int32)), .val (.int i4)]) rfl ?_
    refine XS.iload X5.here hx rfl (hb hby d6_15) rfl ?_
    refine XS.sipush X5.here hx rfl (hb hby d6_17) ?_
    refine XS.icmpYes X5.here hx rfl (pc0 := 20) (pc' := 26) rfl (hb hby d6_20) rfl (flt (c8 : ¬ ((255 : Int32) < i4))).2.2.2 (by decide) (by decide) ?_
    refine XS.aloadN X5.here hx rfl (hb hby d6_26) rfl rfl ?_
    refine XS.iloadN X5.here hx rfl (hb hby d6_27) rfl ?_
    refine XS.iload X5.here hx rfl (hb hby d6_28) rfl ?_
    refine XS.i2b X5.here hx rfl (hb hby d6_30) rfl ?_
    refine st11 _ ?_
    show Steps p.tables e below (T11.setTop (mkF m 32 #[.val (.ref a1), .val (.int (1 : Int32)), .val (.ref a2), .val (.int (1 : Int32)), .val (.int (2 : Int32)), .val (.int (1 : Int32)), .val (.int i4)] [])) _
    refine XS.iinc X11.here hx rfl (hb hby d6_32) rfl (l' := #[.val (.ref a1), .val (.int (2 : Int32)), .val (.ref a2), .val (.int (1 : Int32)), .val (.int (2 : Int32)), .val (.int (1 : Int32)), .val (.int i4)]) rfl ?_
    refine XS.iinc X11.here hx rfl (hb hby d6_35) rfl (l' := #[.val (.ref a1), .val (.int (2 : Int32)), .val (.ref a2), .val (.int (2 : Int32)), .val (.int (2 : Int32)), .val (.int (1 : Int32)), .val (.int i4)]) rfl ?_
    refine XS.iinc X11.here hx rfl (hb hby d6_38) rfl (l' := #[.val (.ref a1), .val (.int (2 : Int32)), .val (.ref a2), .val (.int (2 : Int32)), .val (.int (2 : Int32)), .val (.int (2 : Int32)), .val (.int i4)]) rfl ?_
    refine XS.goto X11.here hx rfl (pc0 := 41) (pc' := 3) rfl (hb hby d6_41) (by decide) (by decide) ?_
    refine XS.iload X11.here hx rfl (hb hby d6_3) rfl ?_
    refine XS.iload X11.here hx rfl (hb hby d6_5) rfl ?_
    refine XS.icmpYes X11.here hx rfl (pc0 := 7) (pc' := 44) rfl (hb hby d6_7) rfl (flt ((by decide : ¬ ((2 : Int32) < (2 : Int32))) : ¬ ((2 : Int32) < (2 : Int32)))).2.1 (by decide) (by decide) ?_
    refine XS.iload X11.here hx rfl (hb hby d6_44) rfl ?_
    exact retI X11 hx hret (hb hby d6_46) hr
-- java/lang/StringUTF16.compress([CII)[B
abbrev Rm27 : Room := { frames := 1, cells := 1, slots := 2, locals := 18 }
def Q27 (Z : State) (a1 : Addr) (i2 : Int32) (i3 : Int32) (ck4 : ClassId) (h0 : Heap) (n0 : Nat) (v : Option Value) (h : Heap) (L : List Loc) : Prop := ∃ b1 : Addr, ∃ k1 : ClassId, v = some (.ref b1) ∧ Fr n0 L ∧ Keep h0 h [] ∧ h0.size ≤ b1 ∧ Exa Z h b1 "[B" ∧ Arv Z h b1 k1 .byte (2 : Int32) [(.int (nar .byte (i2.toInt8.toInt32))), (.int (nar .byte (i3.toInt8.toInt32)))] (.int (0 : Int32))
theorem ef27 (a1 : Addr) (m : MethodId) : entryFrame m #[(.ref a1), (.int (0 : Int32)), (.int (2 : Int32))] 6 = mkF m 0 #[.val (.ref a1), .val (.int (0 : Int32)), .val (.int (2 : Int32)), .unset, .unset, .unset] [] := by first | (simp [entryFrame, mkF, argsToLocals, Value.category]; done) | rfl
theorem rm27 (l : Launch) (Z : State) (a0 : Array Value) (hw : ∀ d ∈ tables_1, d.before a0 Z = true) (ws : List Jvm.Cond) (a1 : Addr) (i2 : Int32) (i3 : Int32) (ck4 : ClassId) (h0 : Heap) (n0 : Nat) (Z0 : n0 ≤ h0.size) (V_a1 : Arv Z h0 a1 ck4 .char (2 : Int32) [(.int i2), (.int i3)] (.int (0 : Int32))) (c5 : ¬ ((255 : Int32) < i2)) (c6 : ¬ ((255 : Int32) < i3)) :
    OwnMet l Z y_2 jdk_52_method_16_code 6 (some (.array .byte)) ws Rm27 #[(.ref a1), (.int (0 : Int32)), (.int (2 : Int32))] h0 (Q27 Z a1 i2 i3 ck4 h0 n0) := by
  refine own_body (plainFor_of_name pn_1) (ef27 a1) ?_
  intro p e s m below meth c s₁ hx hby hml hown hnm hret hZ X0 e0
  have N0 := Fr.nil n0
  obtain ⟨T1, h1, k1, X1, e1, E1, A1, B1, st1⟩ := newPE (aty := .byte) X0 hx hZ (w_23 hw) e0 (g := (mkF m 1 #[.val (.ref a1), .val (.int (0 : Int32)), .val (.int (2 : Int32)), .unset, .unset, .unset] [(.int (2 : Int32))])) rfl (hb hby d5_1) rfl (by decide) (cap := 2) (by decide) (by decide) (by decide) (by decide) (ad := "[B") (by decide)
  obtain ⟨b1, g1⟩ : ∃ z, z = h0.size := ⟨_, rfl⟩
  rw [← g1] at A1 B1 st1
  have s0 := E1.1
  have Vn1 : Arv Z h1 b1 k1 .byte (2 : Int32) [(.int (0 : Int32)), (.int (0 : Int32))] (.int (0 : Int32)) := (Arv.new A1 (by decide)).pad (pad_rep [] (.int (0 : Int32)) 2)
  have Va2 := (V_a1.ext E1)
  have g_b1 : n0 ≤ b1 := Nat.le_trans Z0 (Nat.le_of_eq g1.symm)
  have ne_a1_b1 := Nat.ne_of_lt (Nat.lt_of_lt_of_le V_a1.lt (Nat.le_of_eq g1.symm))
  have z1 := Nat.le_trans Z0 s0
  obtain ⟨_, T3, L3, X3, hQ3, st3⟩ := own_callS X1 hx hZ hown (y := y_1) (w_24 hw) (w_25 hw) (w_21 hw) (w_26 hw) (rm26 l Z a0 hw [] a1 b1 i2 i3 ck4 k1 h1 n0 z1 Va2 c5 Vn1 g_b1 ne_a1_b1 c6 B1) e1 (Ls := #[.val (.ref a1), .val (.int (0 : Int32)), .val (.int (2 : Int32)), .val (.ref b1), .unset, .unset]) (by rw [hml]; rfl) (argsL := [(.ref a1), (.int (0 : Int32)), (.ref b1), (.int (0 : Int32)), (.int (2 : Int32))]) (rest := []) (lenOf pd_1 rfl) (hb hby d5_9) (W := 0)
  obtain ⟨rfl, Nq3, K3, o3_0, o3_1⟩ := hQ3
  have N3 := Fr.app N0 Nq3
  have s1 := K3.1
  have sz_b1 : h0.size ≤ b1 := (Nat.le_of_eq g1.symm)
  have Kp0 : Keep h0 h1 [] := (Keep.refl h0 []).ext E1
  have Kp1 : Keep h0 T3.heap [] := Kp0.trans K3 (allS (Or.inr sz_b1) all0)
  refine ⟨T3, _, _, _, (some (.ref b1)), X3, nofun, by decide, by decide, ?_, fun fs hr => ?_⟩
  · show Q27 Z a1 i2 i3 ck4 h0 n0 _ T3.heap _
    exact ⟨b1, k1, rfl, N3, Kp1, sz_b1, o3_0, o3_1⟩
  · show Steps p.tables e below (s₁.setTop (mkF m 0 #[.val (.ref a1), .val (.int (0 : Int32)), .val (.int (2 : Int32)), .unset, .unset, .unset] [])) _
    refine XS.iloadN X0.here hx rfl (hb hby d5_0) rfl ?_
    refine st1 _ ?_
    refine XS.astoreN X1.here hx rfl (hb hby d5_3) rfl rfl (l' := #[.val (.ref a1), .val (.int (0 : Int32)), .val (.int (2 : Int32)), .val (.ref b1), .unset, .unset]) rfl ?_
    refine XS.aloadN X1.here hx rfl (hb hby d5_4) rfl rfl ?_
    refine XS.iloadN X1.here hx rfl (hb hby d5_5) rfl ?_
    refine XS.aloadN X1.here hx rfl (hb hby d5_6) rfl rfl ?_
    refine XS.iconst X1.here hx rfl (hb hby d5_7) ?_
    refine XS.iloadN X1.here hx rfl (hb hby d5_8) rfl ?_
    refine st3 _ ?_
    refine XS.istore X3.here hx rfl (hb hby d5_12) rfl (l' := #[.val (.ref a1), .val (.int (0 : Int32)), .val (.int (2 : Int32)), .val (.ref b1), .val (.int (2 : Int32)), .unset]) rfl ?_
    refine XS.iload X3.here hx rfl (hb hby d5_14) rfl ?_
    refine XS.iloadN X3.here hx rfl (hb hby d5_16) rfl ?_
    show Steps p.tables e below (T3.setTop (mkF m 17 #[.val (.ref a1), .val (.int (0 : Int32)), .val (.int (2 : Int32)), .val (.ref b1), .val (.int (2 : Int32)), .unset] [(.int (2 : Int32)), (.int (2 : Int32))])) _
    refine XS.icmpYes X3.here hx rfl (pc0 := 17) (pc' := 57) rfl (hb hby d5_17) rfl (teq ((by decide : (2 : Int32) = (2 : Int32)) : (2 : Int32) = (2 : Int32))).1 (by decide) (by decide) ?_
    refine XS.aloadN X3.here hx rfl (hb hby d5_57) rfl rfl ?_
    exact retOut X3 hx hret rfl (Or.inr (Or.inr (Or.inr (Or.inr ⟨rfl, rfl, rfl⟩)))) (hb hby d5_58) hr
-- java/lang/StringUTF16.coderFromArrayLen([BI)B
abbrev Rm28 : Room := { frames := 0, cells := 0, slots := 0, locals := 0 }
def Q28 (Z : State) (a1 : Addr) (i2 : Int32) (i3 : Int32) (ck4 : ClassId) (h0 : Heap) (n0 : Nat) (v : Option Value) (h : Heap) (L : List Loc) : Prop := v = some (.int (0 : Int32)) ∧ Fr n0 L ∧ h = h0
theorem ef28 (a1 : Addr) (m : MethodId) : entryFrame m #[(.ref a1), (.int (2 : Int32))] 2 = mkF m 0 #[.val (.ref a1), .val (.int (2 : Int32))] [] := by first | (simp [entryFrame, mkF, argsToLocals, Value.category]; done) | rfl
theorem rm28 (l : Launch) (Z : State) (a0 : Array Value) (hw : ∀ d ∈ tables_1, d.before a0 Z = true) (ws : List Jvm.Cond) (a1 : Addr) (i2 : Int32) (i3 : Int32) (ck4 : ClassId) (h0 : Heap) (n0 : Nat) (Z0 : n0 ≤ h0.size) (V_a1 : Arv Z h0 a1 ck4 .byte (2 : Int32) [(.int i2), (.int i3)] (.int (0 : Int32))) :
    OwnMet l Z y_3 jdk_52_method_15_code 2 (some .byte) ws Rm28 #[(.ref a1), (.int (2 : Int32))] h0 (Q28 Z a1 i2 i3 ck4 h0 n0) := by
  refine own_body (plainFor_of_name pn_1) (ef28 a1) ?_
  intro p e s m below meth c s₁ hx hby hml hown hnm hret hZ X0 e0
  have N0 := Fr.nil n0
  obtain ⟨cl1, Ar1, q1, S1, M1, Hs1, G1⟩ := id V_a1
  refine ⟨s₁, _, _, _, (some (.int (0 : Int32))), X0, nofun, by decide, by decide, ?_, fun fs hr => ?_⟩
  · show Q28 Z a1 i2 i3 ck4 h0 n0 _ s₁.heap _
    rw [e0]
    exact ⟨rfl, N0, rfl⟩
  · show Steps p.tables e below (s₁.setTop (mkF m 0 #[.val (.ref a1), .val (.int (2 : Int32))] [])) _
    refine XS.iloadN X0.here hx rfl (hb hby d7_0) rfl ?_
    refine XS.aloadN X0.here hx rfl (hb hby d7_1) rfl rfl ?_
    refine X0.arraylength hx (by rw [e0]; exact Ar1.1) (State.isArrayOf_alike hZ.alike Ar1.2.1) (g := (mkF m 2 #[.val (.ref a1), .val (.int (2 : Int32))] [(.ref a1), (.int (2 : Int32))])) rfl rfl (hb hby d7_2) _ ?_
    show Steps p.tables e below (s₁.setTop (mkF m 3 #[.val (.ref a1), .val (.int (2 : Int32))] [(.int cl1.slots.size.toInt32), (.int (2 : Int32))])) _
    rw [len_of S1 M1]
    refine XS.isub X0.here hx rfl (hb hby d7_3) rfl ?_
    refine XS.bipush X0.here hx rfl (hb hby d7_4) ?_
    refine XS.iushr X0.here hx rfl (hb hby d7_6) rfl ?_
    refine XS.i2b X0.here hx rfl (hb hby d7_7) rfl ?_
    exact retN X0 hx (t := .byte) hret (by simp) (hb hby d7_8) hr
-- java/lang/String.<init>([CIILjava/lang/Void;)V
abbrev Rm29 : Room := { frames := 2, cells := 1, slots := 2, locals := 35 }
def Q29 (Z : State) (a1 : Addr) (a2 : Addr) (i3 : Int32) (i5 : Int32) (i6 : Int32) (ck7 : ClassId) (h0 : Heap) (n0 : Nat) (v : Option Value) (h : Heap) (L : List Loc) : Prop := ∃ b3_b1 : Addr, ∃ k3_k1 : ClassId, v = none ∧ Fr n0 L ∧ Keep h0 h [a1] ∧ Exa Z h a1 "java/lang/String" ∧ Fld Z h a1 "java/lang/String" "coder" "B" (.int (0 : Int32)) ∧ Fld Z h a1 "java/lang/String" "value" "[B" (.ref b3_b1) ∧ h0.size ≤ b3_b1 ∧ Exa Z h b3_b1 "[B" ∧ Arv Z h b3_b1 k3_k1 .byte (2 : Int32) [(.int (nar .byte (i5.toInt8.toInt32))), (.int (nar .byte (i6.toInt8.toInt32)))] (.int (0 : Int32))
theorem ef29 (a1 : Addr) (a2 : Addr) (m : MethodId) : entryFrame m #[(.ref a1), (.ref a2), (.int (0 : Int32)), (.int (2 : Int32)), .null] 6 = mkF m 0 #[.val (.ref a1), .val (.ref a2), .val (.int (0 : Int32)), .val (.int (2 : Int32)), .val .null, .unset] [] := by first | (simp [entryFrame, mkF, argsToLocals, Value.category]; done) | rfl
theorem rm29 (l : Launch) (Z : State) (a0 : Array Value) (hw : ∀ d ∈ tables_1, d.before a0 Z = true) (ws : List Jvm.Cond) (a1 : Addr) (a2 : Addr) (i3 : Int32) (i5 : Int32) (i6 : Int32) (ck7 : ClassId) (h0 : Heap) (n0 : Nat) (Z0 : n0 ≤ h0.size) (S_COMPACT_STRINGS : Sta Z Z.heap "java/lang/String" "COMPACT_STRINGS" "Z" (.int i3)) (Od0 : Old Z n0 h0) (c4 : ¬ (i3 = (0 : Int32))) (V_a2 : Arv Z h0 a2 ck7 .char (2 : Int32) [(.int i5), (.int i6)] (.int (0 : Int32))) (c8 : ¬ ((255 : Int32) < i5)) (c9 : ¬ ((255 : Int32) < i6)) (F_coder_a1 : Fld Z h0 a1 "java/lang/String" "coder" "B" (.int (0 : Int32))) (E_a1 : Exa Z h0 a1 "java/lang/String") (g_a1 : n0 ≤ a1) (F_value_a1 : Fld Z h0 a1 "java/lang/String" "value" "[B" .null) :
    OwnMet l Z y_4 jdk_42_method_149_code 6 none ws Rm29 #[(.ref a1), (.ref a2), (.int (0 : Int32)), (.int (2 : Int32)), .null] h0 (Q29 Z a1 a2 i3 i5 i6 ck7 h0 n0) := by
  refine own_body (plainFor_of_name pn_2) (ef29 a1 a2) ?_
  intro p e s m below meth c s₁ hx hby hml hown hnm hret hZ X0 e0
  have N0 := Fr.nil n0
  obtain ⟨T1, X1, e1, st1⟩ := initO X0 hx hZ hown (w_15 hw) (w_16 hw) (w_17 hw) e0 (g := (mkF m 1 #[.val (.ref a1), .val (.ref a2), .val (.int (0 : Int32)), .val (.int (2 : Int32)), .val .null, .unset] [(.ref a1)])) rfl (by rw [hml]; rfl) rfl (hb hby d3_1) (by decide) (W := 0) (by show 2 * 0 + _ ≤ _; exact Nat.le_of_eq rfl) (by decide)
  obtain ⟨T2, X2, e2, st2⟩ := getS2 X1 hx hZ hown (host := "") (Or.inl (w_18 hw)) Via.refl e1 (S_COMPACT_STRINGS.ext Od0.2) (g := (mkF m 27 #[.val (.ref a1), .val (.ref a2), .val (.int (0 : Int32)), .val (.int (2 : Int32)), .val .null, .unset] [])) rfl (hb hby d3_27)
  obtain ⟨_, T3, L3, X3, hQ3, st3⟩ := own_callS X2 hx hZ hown (y := y_2) (w_19 hw) (w_20 hw) (w_21 hw) (w_22 hw) (rm27 l Z a0 hw [] a2 i5 i6 ck7 h0 n0 Z0 V_a2 c8 c9) e2 (Ls := #[.val (.ref a1), .val (.ref a2), .val (.int (0 : Int32)), .val (.int (2 : Int32)), .val .null, .unset]) (by rw [hml]; rfl) (argsL := [(.ref a2), (.int (0 : Int32)), (.int (2 : Int32))]) (rest := []) (lenOf pd_2 rfl) (hb hby d3_36) (W := 0)
  obtain ⟨b3_b1, k3_k1, rfl, Nq3, K3, o3_0, o3_1, o3_2⟩ := hQ3
  have N3 := Fr.app N0 Nq3
  have s0 := K3.1
  have z1 := Nat.le_trans Z0 s0
  obtain ⟨_, T4, L4, X4, hQ4, st4⟩ := own_callS X3 hx hZ hown (y := y_3) (w_27 hw) (w_28 hw) (w_21 hw) (w_29 hw) (rm28 l Z a0 hw [] b3_b1 (nar .byte (i5.toInt8.toInt32)) (nar .byte (i6.toInt8.toInt32)) k3_k1 T3.heap n0 z1 o3_2) rfl (Ls := #[.val (.ref a1), .val (.ref a2), .val (.int (0 : Int32)), .val (.int (2 : Int32)), .val .null, .val (.ref b3_b1)]) (by rw [hml]; rfl) (argsL := [(.ref b3_b1), (.int (2 : Int32))]) (rest := [(.ref a1)]) (lenOf pd_3 rfl) (hb hby d3_45) (W := 1)
  obtain ⟨rfl, Nq4, e4⟩ := hQ4
  have N4 := Fr.app N3 Nq4
  have Fl5 := (F_coder_a1.keep K3 nin0)
  have Ex6 := (E_a1.keep K3)
  obtain ⟨T7, h7, X7, e7, W7, st7⟩ := putFN X4 hx hZ hown (w_30 hw) Via.refl e4 Fl5 Ex6 (Or.inr ⟨(w_31 hw), rfl, hnm⟩) (w_6 hw) (ty := .byte) (v' := (.int (nar .byte (0 : Int32)))) (by decide) rfl (fits_nar_byte _) (g := (mkF m 48 #[.val (.ref a1), .val (.ref a2), .val (.int (0 : Int32)), .val (.int (2 : Int32)), .val .null, .val (.ref b3_b1)] [(.int (0 : Int32)), (.ref a1)])) rfl rfl (hb hby d3_48)
  have s1 := (Keep.of_wr W7).1
  have N7 := Fr.snoc X7 N4 g_a1
  have Fw7 : Fld Z h7 a1 "java/lang/String" "coder" "B" (.int (0 : Int32)) := Fl5.same W7
  have Ex8 := (Ex6.wr W7)
  have Fl9 := ((F_value_a1.keep K3 nin0).other W7 (Or.inr (slot_ne (Or.inr (w_33 hw)) (Or.inr (w_31 hw)) (by decide) (t := (.array .byte)) (t' := .byte) (by decide) (by decide))))
  obtain ⟨T10, h10, X10, e10, W10, st10⟩ := putF X7 hx hZ hown (host := "") (Or.inl (w_32 hw)) Via.refl e7 Fl9 Ex8 (Or.inr ⟨(w_33 hw), rfl, hnm⟩) (w_6 hw) (ty := (.array .byte)) (by decide) rfl rfl (g := (mkF m 54 #[.val (.ref a1), .val (.ref a2), .val (.int (0 : Int32)), .val (.int (2 : Int32)), .val .null, .val (.ref b3_b1)] [(.ref b3_b1), (.ref a1)])) rfl rfl (hb hby d3_54)
  have s2 := (Keep.of_wr W10).1
  have N10 := Fr.snoc X10 N7 g_a1
  have Fw10 : Fld Z h10 a1 "java/lang/String" "value" "[B" (.ref b3_b1) := Fl9.same W10
  have Ex11 := (Ex8.wr W10)
  have Fl12 := (Fw7.other W10 (Or.inr (slot_ne (Or.inr (w_31 hw)) (Or.inr (w_33 hw)) (by decide) (t := .byte) (t' := (.array .byte)) (by decide) (by decide))))
  have sz_b3_b1 : h0.size ≤ b3_b1 := o3_0
  have Ex13 := ((o3_1.wr W7).wr W10)
  have ne_a1_b3_b1 := Nat.ne_of_lt (Nat.lt_of_lt_of_le F_value_a1.lt o3_0)
  have Va14 := ((o3_2.other W7 (Ne.symm ne_a1_b3_b1)).other W10 (Ne.symm ne_a1_b3_b1))
  have Kp0 : Keep h0 T3.heap [a1] := (Keep.refl h0 [a1]).trans K3 all0
  have Kp1 : Keep h0 h7 [a1] := Kp0.wr W7 (Or.inl (List.mem_of_getElem? (i := 0) rfl))
  have Kp2 : Keep h0 h10 [a1] := Kp1.wr W10 (Or.inl (List.mem_of_getElem? (i := 0) rfl))
  refine ⟨T10, _, _, _, none, X10, (fun _ => rfl), by decide, by decide, ?_, fun fs hr => ?_⟩
  · show Q29 Z a1 a2 i3 i5 i6 ck7 h0 n0 _ T10.heap _
    rw [e10]
    exact ⟨b3_b1, k3_k1, rfl, N10, Kp2, Ex11, Fl12, Fw10, sz_b3_b1, Ex13, Va14⟩
  · show Steps p.tables e below (s₁.setTop (mkF m 0 #[.val (.ref a1), .val (.ref a2), .val (.int (0 : Int32)), .val (.int (2 : Int32)), .val .null, .unset] [])) _
    refine XS.aloadN X0.here hx rfl (hb hby d3_0) rfl rfl ?_
    refine st1 _ ?_
    refine XS.iloadN X1.here hx rfl (hb hby d3_4) rfl ?_
    refine XS.ifYes X1.here hx rfl (pc0 := 5) (pc' := 27) rfl (hb hby d3_5) rfl ((if0 _ _).trans (feq ((by decide : ¬ ((2 : Int32) = (0 : Int32))) : ¬ ((2 : Int32) = (0 : Int32)))).2) (by decide) (by decide) ?_
    refine st2 _ ?_
    refine XS.ifNo X2.here hx rfl (hb hby d3_30) rfl ((if0 _ _).trans (feq (c4 : ¬ (i3 = (0 : Int32)))).1) ?_
    refine XS.aloadN X2.here hx rfl (hb hby d3_33) rfl rfl ?_
    refine XS.iloadN X2.here hx rfl (hb hby d3_34) rfl ?_
    refine XS.iloadN X2.here hx rfl (hb hby d3_35) rfl ?_
    refine st3 _ ?_
    refine XS.astore X3.here hx rfl (hb hby d3_39) rfl rfl (l' := #[.val (.ref a1), .val (.ref a2), .val (.int (0 : Int32)), .val (.int (2 : Int32)), .val .null, .val (.ref b3_b1)]) rfl ?_
    refine XS.aloadN X3.here hx rfl (hb hby d3_41) rfl rfl ?_
    show Steps p.tables e below (T3.setTop (mkF m 42 #[.val (.ref a1), .val (.ref a2), .val (.int (0 : Int32)), .val (.int (2 : Int32)), .val .null, .val (.ref b3_b1)] [(.ref a1)])) _
    refine XS.aload X3.here hx rfl (hb hby d3_42) rfl rfl ?_
    refine XS.iloadN X3.here hx rfl (hb hby d3_44) rfl ?_
    refine st4 _ ?_
    refine st7 _ ?_
    refine XS.aloadN X7.here hx rfl (hb hby d3_51) rfl rfl ?_
    refine XS.aload X7.here hx rfl (hb hby d3_52) rfl rfl ?_
    refine st10 _ ?_
    exact X10.returnOut hx hret (hb hby d3_57) hr
-- java/lang/String.<init>([C)V
abbrev Rm30 : Room := { frames := 3, cells := 1, slots := 2, locals := 52 }
def Q30 (Z : State) (a1 : Addr) (a2 : Addr) (i3 : Int32) (i4 : Int32) (ck5 : ClassId) (i6 : Int32) (h0 : Heap) (n0 : Nat) (v : Option Value) (h : Heap) (L : List Loc) : Prop := ∃ b2_b3_b1 : Addr, ∃ k2_k3_k1 : ClassId, v = none ∧ Fr n0 L ∧ Keep h0 h [a1] ∧ Exa Z h a1 "java/lang/String" ∧ Fld Z h a1 "java/lang/String" "coder" "B" (.int (0 : Int32)) ∧ Fld Z h a1 "java/lang/String" "value" "[B" (.ref b2_b3_b1) ∧ h0.size ≤ b2_b3_b1 ∧ Exa Z h b2_b3_b1 "[B" ∧ Arv Z h b2_b3_b1 k2_k3_k1 .byte (2 : Int32) [(.int (nar .byte (i3.toInt8.toInt32))), (.int (nar .byte (i4.toInt8.toInt32)))] (.int (0 : Int32))
theorem ef30 (a1 : Addr) (a2 : Addr) (m : MethodId) : entryFrame m #[(.ref a1), (.ref a2)] 2 = mkF m 0 #[.val (.ref a1), .val (.ref a2)] [] := by first | (simp [entryFrame, mkF, argsToLocals, Value.category]; done) | rfl
theorem rm30 (l : Launch) (Z : State) (a0 : Array Value) (hw : ∀ d ∈ tables_1, d.before a0 Z = true) (ws : List Jvm.Cond) (a1 : Addr) (a2 : Addr) (i3 : Int32) (i4 : Int32) (ck5 : ClassId) (i6 : Int32) (h0 : Heap) (n0 : Nat) (Z0 : n0 ≤ h0.size) (V_a2 : Arv Z h0 a2 ck5 .char (2 : Int32) [(.int i3), (.int i4)] (.int (0 : Int32))) (S_COMPACT_STRINGS : Sta Z Z.heap "java/lang/String" "COMPACT_STRINGS" "Z" (.int i6)) (Od0 : Old Z n0 h0) (c7 : ¬ (i6 = (0 : Int32))) (c8 : ¬ ((255 : Int32) < i3)) (c9 : ¬ ((255 : Int32) < i4)) (F_coder_a1 : Fld Z h0 a1 "java/lang/String" "coder" "B" (.int (0 : Int32))) (E_a1 : Exa Z h0 a1 "java/lang/String") (g_a1 : n0 ≤ a1) (F_value_a1 : Fld Z h0 a1 "java/lang/String" "value" "[B" .null) :
    OwnMet l Z y_5 jdk_42_method_3_code 2 none ws Rm30 #[(.ref a1), (.ref a2)] h0 (Q30 Z a1 a2 i3 i4 ck5 i6 h0 n0) := by
  refine own_body (plainFor_of_name pn_2) (ef30 a1 a2) ?_
  intro p e s m below meth c s₁ hx hby hml hown hnm hret hZ X0 e0
  have N0 := Fr.nil n0
  obtain ⟨cl1, Ar1, q1, S1, M1, Hs1, G1⟩ := id V_a2
  obtain ⟨_, T2, L2, X2, hQ2, st2⟩ := own_special X0 hx hZ hown (y := y_4) (a := a1) (w_11 hw) (w_12 hw) (w_7 hw) (w_14 hw) (rm29 l Z a0 hw [] a1 a2 i6 i3 i4 ck5 h0 n0 Z0 S_COMPACT_STRINGS Od0 c7 V_a2 c8 c9 F_coder_a1 E_a1 g_a1 F_value_a1) e0 (Ls := #[.val (.ref a1), .val (.ref a2)]) (by rw [hml]; rfl) (argsL := [(.ref a2), (.int (0 : Int32)), (.int (2 : Int32)), .null]) (rest := []) (lenOf pd_4 rfl) (hb hby d2_6) (W := 0)
  obtain ⟨b2_b3_b1, k2_k3_k1, rfl, Nq2, K2, o2_0, o2_1, o2_2, o2_3, o2_4, o2_5⟩ := hQ2
  have N2 := Fr.app N0 Nq2
  have s0 := K2.1
  have sz_b2_b3_b1 : h0.size ≤ b2_b3_b1 := o2_3
  have Kp0 : Keep h0 T2.heap [a1] := (Keep.refl h0 [a1]).trans K2 (allS (Or.inl (List.mem_of_getElem? (i := 0) rfl)) all0)
  refine ⟨T2, _, _, _, none, X2, (fun _ => rfl), by decide, by decide, ?_, fun fs hr => ?_⟩
  · show Q30 Z a1 a2 i3 i4 ck5 i6 h0 n0 _ T2.heap _
    exact ⟨b2_b3_b1, k2_k3_k1, rfl, N2, Kp0, o2_0, o2_1, o2_2, sz_b2_b3_b1, o2_4, o2_5⟩
  · show Steps p.tables e below (s₁.setTop (mkF m 0 #[.val (.ref a1), .val (.ref a2)] [])) _
    refine XS.aloadN X0.here hx rfl (hb hby d2_0) rfl rfl ?_
    refine XS.aloadN X0.here hx rfl (hb hby d2_1) rfl rfl ?_
    refine XS.iconst X0.here hx rfl (hb hby d2_2) ?_
    refine XS.aloadN X0.here hx rfl (hb hby d2_3) rfl rfl ?_
    refine X0.arraylength hx (by rw [e0]; exact Ar1.1) (State.isArrayOf_alike hZ.alike Ar1.2.1) (g := (mkF m 4 #[.val (.ref a1), .val (.ref a2)] [(.ref a2), (.int (0 : Int32)), (.ref a2), (.ref a1)])) rfl rfl (hb hby d2_4) _ ?_
    show Steps p.tables e below (s₁.setTop (mkF m 5 #[.val (.ref a1), .val (.ref a2)] [(.int cl1.slots.size.toInt32), (.int (0 : Int32)), (.ref a2), (.ref a1)])) _
    rw [len_of S1 M1]
    refine XS.aconstNull X0.here hx rfl (hb hby d2_5) ?_
    refine st2 _ ?_
    exact X2.returnOut hx hret (hb hby d2_9) hr
-- java/lang/String.isEmpty()Z
abbrev Rm31 : Room := { frames := 0, cells := 0, slots := 0, locals := 0 }
def Q31 (Z : State) (a1 : Addr) (a2 : Addr) (i3 : Int32) (i4 : Int32) (ck5 : ClassId) (h0 : Heap) (n0 : Nat) (v : Option Value) (h : Heap) (L : List Loc) : Prop := v = some (.int (0 : Int32)) ∧ Fr n0 L ∧ h = h0
theorem ef31 (a1 : Addr) (m : MethodId) : entryFrame m #[(.ref a1)] 1 = mkF m 0 #[.val (.ref a1)] [] := by first | (simp [entryFrame, mkF, argsToLocals, Value.category]; done) | rfl
theorem rm31 (l : Launch) (Z : State) (a0 : Array Value) (hw : ∀ d ∈ tables_1, d.before a0 Z = true) (ws : List Jvm.Cond) (a1 : Addr) (a2 : Addr) (i3 : Int32) (i4 : Int32) (ck5 : ClassId) (h0 : Heap) (n0 : Nat) (Z0 : n0 ≤ h0.size) (F_value_a1 : Fld Z h0 a1 "java/lang/String" "value" "[B" (.ref a2)) (V_a2 : Arv Z h0 a2 ck5 .byte (2 : Int32) [(.int i3), (.int i4)] (.int (0 : Int32))) :
    OwnMet l Z y_6 jdk_42_method_55_code 1 (some .boolean) ws Rm31 #[(.ref a1)] h0 (Q31 Z a1 a2 i3 i4 ck5 h0 n0) := by
  refine own_body (plainFor_of_name pn_2) (ef31 a1) ?_
  intro p e s m below meth c s₁ hx hby hml hown hnm hret hZ X0 e0
  have N0 := Fr.nil n0
  obtain ⟨T1, X1, e1, st1⟩ := getF X0 hx hZ hown (host := "") (Or.inl (w_32 hw)) Via.refl e0 F_value_a1 (g := (mkF m 1 #[.val (.ref a1)] [(.ref a1)])) rfl rfl (hb hby d9_1)
  obtain ⟨cl2, Ar2, q2, S2, M2, Hs2, G2⟩ := id V_a2
  refine ⟨T1, _, _, _, (some (.int (0 : Int32))), X1, nofun, by decide, by decide, ?_, fun fs hr => ?_⟩
  · show Q31 Z a1 a2 i3 i4 ck5 h0 n0 _ T1.heap _
    rw [e1]
    exact ⟨rfl, N0, rfl⟩
  · show Steps p.tables e below (s₁.setTop (mkF m 0 #[.val (.ref a1)] [])) _
    refine XS.aloadN X0.here hx rfl (hb hby d9_0) rfl rfl ?_
    refine st1 _ ?_
    refine X1.arraylength hx (by rw [e1]; exact Ar2.1) (State.isArrayOf_alike hZ.alike Ar2.2.1) (g := (mkF m 4 #[.val (.ref a1)] [(.ref a2)])) rfl rfl (hb hby d9_4) _ ?_
    show Steps p.tables e below (T1.setTop (mkF m 5 #[.val (.ref a1)] [(.int cl2.slots.size.toInt32)])) _
    rw [len_of S2 M2]
    refine XS.ifYes X1.here hx rfl (pc0 := 5) (pc' := 12) rfl (hb hby d9_5) rfl ((if0 _ _).trans (feq ((by decide : ¬ ((2 : Int32) = (0 : Int32))) : ¬ ((2 : Int32) = (0 : Int32)))).2) (by decide) (by decide) ?_
    refine XS.iconst X1.here hx rfl (hb hby d9_12) ?_
    exact retN X1 hx (t := .boolean) hret (by simp) (hb hby d9_13) hr
-- java/lang/String.length()I
abbrev Rm32 : Room := { frames := 1, cells := 0, slots := 0, locals := 13 }
def Q32 (Z : State) (a1 : Addr) (a2 : Addr) (i3 : Int32) (i4 : Int32) (ck5 : ClassId) (i6 : Int32) (h0 : Heap) (n0 : Nat) (v : Option Value) (h : Heap) (L : List Loc) : Prop := v = some (.int (2 : Int32)) ∧ Fr n0 L ∧ h = h0
theorem ef32 (a1 : Addr) (m : MethodId) : entryFrame m #[(.ref a1)] 1 = mkF m 0 #[.val (.ref a1)] [] := by first | (simp [entryFrame, mkF, argsToLocals, Value.category]; done) | rfl
theorem rm32 (l : Launch) (Z : State) (a0 : Array Value) (hw : ∀ d ∈ tables_1, d.before a0 Z = true) (ws : List Jvm.Cond) (a1 : Addr) (a2 : Addr) (i3 : Int32) (i4 : Int32) (ck5 : ClassId) (i6 : Int32) (h0 : Heap) (n0 : Nat) (Z0 : n0 ≤ h0.size) (F_value_a1 : Fld Z h0 a1 "java/lang/String" "value" "[B" (.ref a2)) (V_a2 : Arv Z h0 a2 ck5 .byte (2 : Int32) [(.int i3), (.int i4)] (.int (0 : Int32))) (E_a1 : Exa Z h0 a1 "java/lang/String") (S_COMPACT_STRINGS : Sta Z Z.heap "java/lang/String" "COMPACT_STRINGS" "Z" (.int i6)) (Od0 : Old Z n0 h0) (c7 : ¬ (i6 = (0 : Int32))) (F_coder_a1 : Fld Z h0 a1 "java/lang/String" "coder" "B" (.int (0 : Int32))) :
    OwnMet l Z y_8 jdk_42_method_54_code 1 (some .int) ws Rm32 #[(.ref a1)] h0 (Q32 Z a1 a2 i3 i4 ck5 i6 h0 n0) := by
  refine own_body (plainFor_of_name pn_2) (ef32 a1) ?_
  intro p e s m below meth c s₁ hx hby hml hown hnm hret hZ X0 e0
  have N0 := Fr.nil n0
  obtain ⟨T1, X1, e1, st1⟩ := getF X0 hx hZ hown (host := "") (Or.inl (w_32 hw)) Via.refl e0 F_value_a1 (g := (mkF m 1 #[.val (.ref a1)] [(.ref a1)])) rfl rfl (hb hby d10_1)
  obtain ⟨cl2, Ar2, q2, S2, M2, Hs2, G2⟩ := id V_a2
  obtain ⟨_, T3, L3, X3, hQ3, st3⟩ := own_virtual X1 hx hZ hown (y := y_7) (z := y_7) E_a1 (w_48 hw) (w_49 hw) (notFace_of_selects (args := #[]) (mvT hZ (w_51 hw))) (w_51 hw) (w_50 hw) (w_7 hw) (w_52 hw) (rm8 l Z a0 hw [] a1 i6 h0 n0 Z0 S_COMPACT_STRINGS Od0 c7 F_coder_a1) e1 (Ls := #[.val (.ref a1)]) (by rw [hml]; rfl) (argsL := []) (rest := [(.int (2 : Int32))]) (lenOf pd_7 rfl) (hb hby d10_6) (W := 1)
  obtain ⟨rfl, Nq3, e3⟩ := hQ3
  have N3 := Fr.app N0 Nq3
  refine ⟨T3, _, _, _, (some (.int (2 : Int32))), X3, nofun, by decide, by decide, ?_, fun fs hr => ?_⟩
  · show Q32 Z a1 a2 i3 i4 ck5 i6 h0 n0 _ T3.heap _
    rw [e3]
    exact ⟨rfl, N3, rfl⟩
  · show Steps p.tables e below (s₁.setTop (mkF m 0 #[.val (.ref a1)] [])) _
    refine XS.aloadN X0.here hx rfl (hb hby d10_0) rfl rfl ?_
    refine st1 _ ?_
    refine X1.arraylength hx (by rw [e1]; exact Ar2.1) (State.isArrayOf_alike hZ.alike Ar2.2.1) (g := (mkF m 4 #[.val (.ref a1)] [(.ref a2)])) rfl rfl (hb hby d10_4) _ ?_
    show Steps p.tables e below (T1.setTop (mkF m 5 #[.val (.ref a1)] [(.int cl2.slots.size.toInt32)])) _
    rw [len_of S2 M2]
    refine XS.aloadN X1.here hx rfl (hb hby d10_5) rfl rfl ?_
    refine st3 _ ?_
    refine XS.ishr X3.here hx rfl (hb hby d10_9) rfl ?_
    exact retI X3 hx hret (hb hby d10_10) hr
-- com/example/bare_queue/barequeue/QueueName.of(Ljava/lang/String;)Lcom/example/bare_queue/barequeue/QueueName;
abbrev Rm33 : Room := { frames := 6, cells := 1, slots := 4, locals := 120 }
def Q33 (Z : State) (a1 : Addr) (a2 : Addr) (i3 : Int32) (i4 : Int32) (ck5 : ClassId) (i6 : Int32) (r8 : Value) (h0 : Heap) (n0 : Nat) (v : Option Value) (h : Heap) (L : List Loc) : Prop := ∃ b6 : Addr, v = some (.ref b6) ∧ Fr n0 L ∧ Keep h0 h [] ∧ h0.size ≤ b6 ∧ Exa Z h b6 "com/example/bare_queue/barequeue/QueueName" ∧ Fld Z h b6 "com/example/bare_queue/barequeue/QueueName" "value" "Ljava/lang/String;" (.ref a1)
theorem ef33 (a1 : Addr) (m : MethodId) : entryFrame m #[(.ref a1)] 3 = mkF m 0 #[.val (.ref a1), .unset, .unset] [] := by first | (simp [entryFrame, mkF, argsToLocals, Value.category]; done) | rfl
theorem rm33 (l : Launch) (Z : State) (a0 : Array Value) (hw : ∀ d ∈ tables_1, d.before a0 Z = true) (ws : List Jvm.Cond) (a1 : Addr) (a2 : Addr) (i3 : Int32) (i4 : Int32) (ck5 : ClassId) (i6 : Int32) (r8 : Value) (h0 : Heap) (n0 : Nat) (Z0 : n0 ≤ h0.size) (E_a1 : Exa Z h0 a1 "java/lang/String") (F_value_a1 : Fld Z h0 a1 "java/lang/String" "value" "[B" (.ref a2)) (V_a2 : Arv Z h0 a2 ck5 .byte (2 : Int32) [(.int i3), (.int i4)] (.int (0 : Int32))) (S_COMPACT_STRINGS : Sta Z Z.heap "java/lang/String" "COMPACT_STRINGS" "Z" (.int i6)) (Od0 : Old Z n0 h0) (c7 : ¬ (i6 = (0 : Int32))) (F_coder_a1 : Fld Z h0 a1 "java/lang/String" "coder" "B" (.int (0 : Int32))) (R_r8 : r8.isRef = true) (S_SIOOBE_FORMATTER : Sta Z Z.heap "jdk/internal/util/Preconditions" "SIOOBE_FORMATTER" "Ljava/util/function/BiFunction;" r8) (c9 : ¬ ((122 : Int32) < (nar .char (nar .char ((i3 &&& (255 : Int32)).toUInt32.toUInt16.toUInt32.toInt32))))) (c10 : ¬ ((if (nar .char (nar .char ((i3 &&& (255 : Int32)).toUInt32.toUInt16.toUInt32.toInt32))) < (65 : Int32) then (if (nar .char (nar .char ((i3 &&& (255 : Int32)).toUInt32.toUInt16.toUInt32.toInt32))) < (48 : Int32) then (if (nar .char (nar .char ((i3 &&& (255 : Int32)).toUInt32.toUInt16.toUInt32.toInt32))) = (45 : Int32) then (1 : Int32) else (0 : Int32)) else (if (57 : Int32) < (nar .char (nar .char ((i3 &&& (255 : Int32)).toUInt32.toUInt16.toUInt32.toInt32))) then (0 : Int32) else (1 : Int32))) else (if (90 : Int32) < (nar .char (nar .char ((i3 &&& (255 : Int32)).toUInt32.toUInt16.toUInt32.toInt32))) then (if (nar .char (nar .char ((i3 &&& (255 : Int32)).toUInt32.toUInt16.toUInt32.toInt32))) < (97 : Int32) then (if (nar .char (nar .char ((i3 &&& (255 : Int32)).toUInt32.toUInt16.toUInt32.toInt32))) = (95 : Int32) then (1 : Int32) else (0 : Int32)) else (1 : Int32)) else (1 : Int32))) = (0 : Int32))) (c11 : ¬ ((122 : Int32) < (nar .char (nar .char ((i4 &&& (255 : Int32)).toUInt32.toUInt16.toUInt32.toInt32))))) (c12 : ¬ ((if (nar .char (nar .char ((i4 &&& (255 : Int32)).toUInt32.toUInt16.toUInt32.toInt32))) < (65 : Int32) then (if (nar .char (nar .char ((i4 &&& (255 : Int32)).toUInt32.toUInt16.toUInt32.toInt32))) < (48 : Int32) then (if (nar .char (nar .char ((i4 &&& (255 : Int32)).toUInt32.toUInt16.toUInt32.toInt32))) = (45 : Int32) then (1 : Int32) else (0 : Int32)) else (if (57 : Int32) < (nar .char (nar .char ((i4 &&& (255 : Int32)).toUInt32.toUInt16.toUInt32.toInt32))) then (0 : Int32) else (1 : Int32))) else (if (90 : Int32) < (nar .char (nar .char ((i4 &&& (255 : Int32)).toUInt32.toUInt16.toUInt32.toInt32))) then (if (nar .char (nar .char ((i4 &&& (255 : Int32)).toUInt32.toUInt16.toUInt32.toInt32))) < (97 : Int32) then (if (nar .char (nar .char ((i4 &&& (255 : Int32)).toUInt32.toUInt16.toUInt32.toInt32))) = (95 : Int32) then (1 : Int32) else (0 : Int32)) else (1 : Int32)) else (1 : Int32))) = (0 : Int32))) :
    OwnMet l Z y_16 prog_12_method_2_code 3 (some (.object "com/example/bare_queue/barequeue/QueueName")) ws Rm33 #[(.ref a1)] h0 (Q33 Z a1 a2 i3 i4 ck5 i6 r8 h0 n0) := by
  refine own_body (plainFor_of_name pn_5) (ef33 a1) ?_
  intro p e s m below meth c s₁ hx hby hml hown hnm hret hZ X0 e0
  have N0 := Fr.nil n0
  obtain ⟨_, T1, L1, X1, hQ1, st1⟩ := own_virtual X0 hx hZ hown (y := y_6) (z := y_6) E_a1 (w_38 hw) (w_39 hw) (notFace_of_selects (args := #[]) (mvT hZ (w_41 hw))) (w_41 hw) (w_40 hw) (w_7 hw) (w_42 hw) (rm31 l Z a0 hw [] a1 a2 i3 i4 ck5 h0 n0 Z0 F_value_a1 V_a2) e0 (Ls := #[.val (.ref a1), .unset, .unset]) (by rw [hml]; rfl) (argsL := []) (rest := []) (lenOf pd_6 rfl) (hb hby d8_5) (W := 0)
  obtain ⟨rfl, Nq1, e1⟩ := hQ1
  have N1 := Fr.app N0 Nq1
  obtain ⟨T2, L2, X2, e2, N2, st2⟩ := tn16 l Z a0 hw a1 (0 : Int32) a2 [(.int i3), (.int i4)] ck5 (2 : Int32) i6 r8 i3 h0 n0 Z0 E_a1 F_value_a1 V_a2 S_COMPACT_STRINGS Od0 c7 F_coder_a1 (by decide) R_r8 S_SIOOBE_FORMATTER (by decide) (by decide) rfl c9 c10 hx hby hml hown hZ X1 e1 N1 (by decide) (by decide)
  obtain ⟨T3, L3, X3, e3, N3, st3⟩ := tn16 l Z a0 hw a1 (1 : Int32) a2 [(.int i3), (.int i4)] ck5 (2 : Int32) i6 r8 i4 h0 n0 Z0 E_a1 F_value_a1 V_a2 S_COMPACT_STRINGS Od0 c7 F_coder_a1 (by decide) R_r8 S_SIOOBE_FORMATTER (by decide) (by decide) rfl c11 c12 hx hby hml hown hZ X2 e2 N2 (by decide) (by decide)
  obtain ⟨T4, L4, X4, e4, N4, st4⟩ := tn17 l Z a0 hw a1 (2 : Int32) a2 [(.int i3), (.int i4)] ck5 (2 : Int32) i6 h0 n0 Z0 E_a1 F_value_a1 V_a2 S_COMPACT_STRINGS Od0 c7 F_coder_a1 (by decide) hx hby hml hown hZ X3 e3 N3 (by decide) (by decide)
  obtain ⟨_, T5, L5, X5, hQ5, st5⟩ := own_virtual X4 hx hZ hown (y := y_8) (z := y_8) E_a1 (w_43 hw) (w_44 hw) (notFace_of_selects (args := #[]) (mvT hZ (w_46 hw))) (w_46 hw) (w_45 hw) (w_7 hw) (w_47 hw) (rm32 l Z a0 hw [] a1 a2 i3 i4 ck5 i6 h0 n0 Z0 F_value_a1 V_a2 E_a1 S_COMPACT_STRINGS Od0 c7 F_coder_a1) e4 (Ls := #[.val (.ref a1), .val (.int (2 : Int32)), .unset]) (by rw [hml]; rfl) (argsL := []) (rest := []) (lenOf pd_8 rfl) (hb hby d8_93) (W := 0)
  obtain ⟨rfl, Nq5, e5⟩ := hQ5
  have N5 := Fr.app N4 Nq5
  obtain ⟨T6, h6, X6, e6, E6, A6, D6, -, st6⟩ := newO X5 hx hZ hown (w_78 hw) (w_79 hw) (w_36 hw) e5 (g := (mkF m 118 #[.val (.ref a1), .val (.int (2 : Int32)), .unset] [])) rfl (hb hby d8_118) (by decide) (by decide)
  obtain ⟨b6, g6⟩ : ∃ z, z = h0.size := ⟨_, rfl⟩
  rw [← g6] at A6 D6 st6
  have s0 := E6.1
  have Fn6_value : Fld Z h6 b6 "com/example/bare_queue/barequeue/QueueName" "value" "Ljava/lang/String;" .null := D6 (Or.inr (w_85 hw)) (ty := (.object "java/lang/String")) (by decide)
  have g_b6 : n0 ≤ b6 := Nat.le_trans Z0 (Nat.le_of_eq g6.symm)
  have z1 := Nat.le_trans Z0 s0
  obtain ⟨_, T7, L7, X7, hQ7, st7⟩ := own_special X6 hx hZ hown (y := y_15) (a := b6) (w_80 hw) (w_81 hw) (w_36 hw) (w_82 hw) (rm19 l Z a0 hw [] b6 a1 h6 n0 z1 Fn6_value A6 g_b6) e6 (Ls := #[.val (.ref a1), .val (.int (2 : Int32)), .unset]) (by rw [hml]; rfl) (argsL := [(.ref a1)]) (rest := [(.ref b6)]) (lenOf pd_13 rfl) (hb hby d8_123) (W := 1)
  obtain ⟨rfl, Nq7, K7, o7_0, o7_1⟩ := hQ7
  have N7 := Fr.app N5 Nq7
  have s1 := K7.1
  have sz_b6 : h0.size ≤ b6 := (Nat.le_of_eq g6.symm)
  have Kp0 : Keep h0 h6 [] := (Keep.refl h0 []).ext E6
  have Kp1 : Keep h0 T7.heap [] := Kp0.trans K7 (allS (Or.inr sz_b6) all0)
  refine ⟨T7, _, _, _, (some (.ref b6)), X7, nofun, by decide, by decide, ?_, fun fs hr => ?_⟩
  · show Q33 Z a1 a2 i3 i4 ck5 i6 r8 h0 n0 _ T7.heap _
    exact ⟨b6, rfl, N7, Kp1, sz_b6, o7_0, o7_1⟩
  · show Steps p.tables e below (s₁.setTop (mkF m 0 #[.val (.ref a1), .unset, .unset] [])) _
    refine XS.aloadN X0.here hx rfl (hb hby d8_0) rfl rfl ?_
    refine XS.ifnullNo X0.here hx rfl (hb hby d8_1) rfl ?_
    refine XS.aloadN X0.here hx rfl (hb hby d8_4) rfl rfl ?_
    refine st1 _ ?_
    refine XS.ifYes X1.here hx rfl (pc0 := 8) (pc' := 21) rfl (hb hby d8_8) rfl ((if0 _ _).trans (teq ((by decide : (0 : Int32) = (0 : Int32)) : (0 : Int32) = (0 : Int32))).1) (by decide) (by decide) ?_
    refine XS.iconst X1.here hx rfl (hb hby d8_21) ?_
    refine XS.istoreN X1.here hx rfl (hb hby d8_22) rfl (l' := #[.val (.ref a1), .val (.int (0 : Int32)), .unset]) rfl ?_
    refine st2 _ ?_
    refine st3 _ ?_
    refine st4 _ ?_
    show Steps p.tables e below (T4.setTop (mkF m 92 #[.val (.ref a1), .val (.int (2 : Int32)), .unset] [])) _
    refine XS.aloadN X4.here hx rfl (hb hby d8_92) rfl rfl ?_
    refine st5 _ ?_
    refine XS.bipush X5.here hx rfl (hb hby d8_96) ?_
    refine XS.icmpYes X5.here hx rfl (pc0 := 98) (pc' := 118) rfl (hb hby d8_98) rfl (flt ((by decide : ¬ ((80 : Int32) < (2 : Int32))) : ¬ ((80 : Int32) < (2 : Int32)))).2.2.2 (by decide) (by decide) ?_
    refine st6 _ ?_
    refine XS.dup X6.here hx rfl (hb hby d8_121) rfl rfl ?_
    refine XS.aloadN X6.here hx rfl (hb hby d8_122) rfl rfl ?_
    refine st7 _ ?_
    exact retOut X7 hx hret rfl (Or.inr (Or.inr (Or.inr (Or.inr ⟨rfl, rfl, rfl⟩)))) (hb hby d8_126) hr
-- java/lang/StringLatin1.equals([B[B)Z
abbrev Rm34 : Room := { frames := 0, cells := 0, slots := 0, locals := 0 }
def Q34 (Z : State) (a1 : Addr) (a2 : Addr) (i3 : Int32) (i4 : Int32) (ck5 : ClassId) (ck6 : ClassId) (h0 : Heap) (n0 : Nat) (v : Option Value) (h : Heap) (L : List Loc) : Prop := v = some (.int (1 : Int32)) ∧ Fr n0 L ∧ h = h0
theorem ef34 (a1 : Addr) (a2 : Addr) (m : MethodId) : entryFrame m #[(.ref a1), (.ref a2)] 3 = mkF m 0 #[.val (.ref a1), .val (.ref a2), .unset] [] := by first | (simp [entryFrame, mkF, argsToLocals, Value.category]; done) | rfl
theorem rm34 (l : Launch) (Z : State) (a0 : Array Value) (hw : ∀ d ∈ tables_1, d.before a0 Z = true) (ws : List Jvm.Cond) (a1 : Addr) (a2 : Addr) (i3 : Int32) (i4 : Int32) (ck5 : ClassId) (ck6 : ClassId) (h0 : Heap) (n0 : Nat) (Z0 : n0 ≤ h0.size) (V_a1 : Arv Z h0 a1 ck5 .byte (2 : Int32) [(.int i3), (.int i4)] (.int (0 : Int32))) (V_a2 : Arv Z h0 a2 ck6 .byte (2 : Int32) [(.int i3), (.int i4)] (.int (0 : Int32))) :
    OwnMet l Z y_19 jdk_43_method_13_code 3 (some .boolean) ws Rm34 #[(.ref a1), (.ref a2)] h0 (Q34 Z a1 a2 i3 i4 ck5 ck6 h0 n0) := by
  refine own_body (plainFor_of_name pn_4) (ef34 a1 a2) ?_
  intro p e s m below meth c s₁ hx hby hml hown hnm hret hZ X0 e0
  have N0 := Fr.nil n0
  obtain ⟨cl1, Ar1, q1, S1, M1, Hs1, G1⟩ := id V_a1
  obtain ⟨cl2, Ar2, q2, S2, M2, Hs2, G2⟩ := id V_a2
  have hin3 : ¬ ((0 : Int32) < 0 ∨ cl1.slots.size ≤ ((0 : Int32)).toNatClampNeg) := inb_of S1 ⟨(by decide : ¬ ((0 : Int32) < (0 : Int32))), (by decide : (0 : Int32) < (2 : Int32))⟩
  have hin4 : ¬ ((0 : Int32) < 0 ∨ cl2.slots.size ≤ ((0 : Int32)).toNatClampNeg) := inb_of S2 ⟨(by decide : ¬ ((0 : Int32) < (0 : Int32))), (by decide : (0 : Int32) < (2 : Int32))⟩
  have hin5 : ¬ ((1 : Int32) < 0 ∨ cl1.slots.size ≤ ((1 : Int32)).toNatClampNeg) := inb_of S1 ⟨(by decide : ¬ ((1 : Int32) < (0 : Int32))), (by decide : (1 : Int32) < (2 : Int32))⟩
  have hin6 : ¬ ((1 : Int32) < 0 ∨ cl2.slots.size ≤ ((1 : Int32)).toNatClampNeg) := inb_of S2 ⟨(by decide : ¬ ((1 : Int32) < (0 : Int32))), (by decide : (1 : Int32) < (2 : Int32))⟩
  refine ⟨s₁, _, _, _, (some (.int (1 : Int32))), X0, nofun, by decide, by decide, ?_, fun fs hr => ?_⟩
  · show Q34 Z a1 a2 i3 i4 ck5 ck6 h0 n0 _ s₁.heap _
    rw [e0]
    exact ⟨rfl, N0, rfl⟩
  · show Steps p.tables e below (s₁.setTop (mkF m 0 #[.val (.ref a1), .val (.ref a2), .unset] [])) _
    refine XS.aloadN X0.here hx rfl (hb hby d22_0) rfl rfl ?_
    refine X0.arraylength hx (by rw [e0]; exact Ar1.1) (State.isArrayOf_alike hZ.alike Ar1.2.1) (g := (mkF m 1 #[.val (.ref a1), .val (.ref a2), .unset] [(.ref a1)])) rfl rfl (hb hby d22_1) _ ?_
    show Steps p.tables e below (s₁.setTop (mkF m 2 #[.val (.ref a1), .val (.ref a2), .unset] [(.int cl1.slots.size.toInt32)])) _
    rw [len_of S1 M1]
    refine XS.aloadN X0.here hx rfl (hb hby d22_2) rfl rfl ?_
    refine X0.arraylength hx (by rw [e0]; exact Ar2.1) (State.isArrayOf_alike hZ.alike Ar2.2.1) (g := (mkF m 3 #[.val (.ref a1), .val (.ref a2), .unset] [(.ref a2), (.int (2 : Int32))])) rfl rfl (hb hby d22_3) _ ?_
    show Steps p.tables e below (s₁.setTop (mkF m 4 #[.val (.ref a1), .val (.ref a2), .unset] [(.int cl2.slots.size.toInt32), (.int (2 : Int32))])) _
    rw [len_of S2 M2]
    refine XS.icmpNo X0.here hx rfl (hb hby d22_4) rfl (teq ((by decide : (2 : Int32) = (2 : Int32)) : (2 : Int32) = (2 : Int32))).2 ?_
    refine XS.iconst X0.here hx rfl (hb hby d22_7) ?_
    refine XS.istoreN X0.here hx rfl (hb hby d22_8) rfl (l' := #[.val (.ref a1), .val (.ref a2), .val (.int (0 : Int32))]) rfl ?_
    refine XS.iloadN X0.here hx rfl (hb hby d22_9) rfl ?_
    refine XS.aloadN X0.here hx rfl (hb hby d22_10) rfl rfl ?_
    refine X0.arraylength hx (by rw [e0]; exact Ar1.1) (State.isArrayOf_alike hZ.alike Ar1.2.1) (g := (mkF m 11 #[.val (.ref a1), .val (.ref a2), .val (.int (0 : Int32))] [(.ref a1), (.int (0 : Int32))])) rfl rfl (hb hby d22_11) _ ?_
    show Steps p.tables e below (s₁.setTop (mkF m 12 #[.val (.ref a1), .val (.ref a2), .val (.int (0 : Int32))] [(.int cl1.slots.size.toInt32), (.int (0 : Int32))])) _
    rw [len_of S1 M1]
    refine XS.icmpNo X0.here hx rfl (hb hby d22_12) rfl (tlt ((by decide : (0 : Int32) < (2 : Int32)) : (0 : Int32) < (2 : Int32))).2.1 ?_
    refine XS.aloadN X0.here hx rfl (hb hby d22_15) rfl rfl ?_
    refine XS.iloadN X0.here hx rfl (hb hby d22_16) rfl ?_
    refine X0.baloadBytes hx (j := (0 : Int32)) (v := (.int i3)) (by rw [e0]; exact Ar1.1) (State.isArrayOf_alike hZ.alike Ar1.2.1) Ar1.2.2 hin3 (Has.at Hs1 hin3 rfl) (g := (mkF m 17 #[.val (.ref a1), .val (.ref a2), .val (.int (0 : Int32))] [(.int (0 : Int32)), (.ref a1)])) rfl rfl (hb hby d22_17) _ ?_
    refine XS.aloadN X0.here hx rfl (hb hby d22_18) rfl rfl ?_
    refine XS.iloadN X0.here hx rfl (hb hby d22_19) rfl ?_
    refine X0.baloadBytes hx (j := (0 : Int32)) (v := (.int i3)) (by rw [e0]; exact Ar2.1) (State.isArrayOf_alike hZ.alike Ar2.2.1) Ar2.2.2 hin4 (Has.at Hs2 hin4 rfl) (g := (mkF m 20 #[.val (.ref a1), .val (.ref a2), .val (.int (0 : Int32))] [(.int (0 : Int32)), (.ref a2), (.int i3)])) rfl rfl (hb hby d22_20) _ ?_
    refine XS.icmpYes X0.here hx rfl (pc0 := 21) (pc' := 26) rfl (hb hby d22_21) rfl (teq (rfl : i3 = i3)).1 (by decide) (by decide) ?_
    refine XS.iinc X0.here hx rfl (hb hby d22_26) rfl (l' := #[.val (.ref a1), .val (.ref a2), .val (.int (1 : Int32))]) rfl ?_
    refine XS.goto X0.here hx rfl (pc0 := 29) (pc' := 9) rfl (hb hby d22_29) (by decide) (by decide) ?_
    refine XS.iloadN X0.here hx rfl (hb hby d22_9) rfl ?_
    show Steps p.tables e below (s₁.setTop (mkF m 10 #[.val (.ref a1), .val (.ref a2), .val (.int (1 : Int32))] [(.int (1 : Int32))])) _
    refine XS.aloadN X0.here hx rfl (hb hby d22_10) rfl rfl ?_
    refine X0.arraylength hx (by rw [e0]; exact Ar1.1) (State.isArrayOf_alike hZ.alike Ar1.2.1) (g := (mkF m 11 #[.val (.ref a1), .val (.ref a2), .val (.int (1 : Int32))] [(.ref a1), (.int (1 : Int32))])) rfl rfl (hb hby d22_11) _ ?_
    show Steps p.tables e below (s₁.setTop (mkF m 12 #[.val (.ref a1), .val (.ref a2), .val (.int (1 : Int32))] [(.int cl1.slots.size.toInt32), (.int (1 : Int32))])) _
    rw [len_of S1 M1]
    refine XS.icmpNo X0.here hx rfl (hb hby d22_12) rfl (tlt ((by decide : (1 : Int32) < (2 : Int32)) : (1 : Int32) < (2 : Int32))).2.1 ?_
    refine XS.aloadN X0.here hx rfl (hb hby d22_15) rfl rfl ?_
    refine XS.iloadN X0.here hx rfl (hb hby d22_16) rfl ?_
    refine X0.baloadBytes hx (j := (1 : Int32)) (v := (.int i4)) (by rw [e0]; exact Ar1.1) (State.isArrayOf_alike hZ.alike Ar1.2.1) Ar1.2.2 hin5 (Has.at Hs1 hin5 rfl) (g := (mkF m 17 #[.val (.ref a1), .val (.ref a2), .val (.int (1 : Int32))] [(.int (1 : Int32)), (.ref a1)])) rfl rfl (hb hby d22_17) _ ?_
    refine XS.aloadN X0.here hx rfl (hb hby d22_18) rfl rfl ?_
    refine XS.iloadN X0.here hx rfl (hb hby d22_19) rfl ?_
    refine X0.baloadBytes hx (j := (1 : Int32)) (v := (.int i4)) (by rw [e0]; exact Ar2.1) (State.isArrayOf_alike hZ.alike Ar2.2.1) Ar2.2.2 hin6 (Has.at Hs2 hin6 rfl) (g := (mkF m 20 #[.val (.ref a1), .val (.ref a2), .val (.int (1 : Int32))] [(.int (1 : Int32)), (.ref a2), (.int i4)])) rfl rfl (hb hby d22_20) _ ?_
    refine XS.icmpYes X0.here hx rfl (pc0 := 21) (pc' := 26) rfl (hb hby d22_21) rfl (teq (rfl : i4 = i4)).1 (by decide) (by decide) ?_
    refine XS.iinc X0.here hx rfl (hb hby d22_26) rfl (l' := #[.val (.ref a1), .val (.ref a2), .val (.int (2 : Int32))]) rfl ?_
    refine XS.goto X0.here hx rfl (pc0 := 29) (pc' := 9) rfl (hb hby d22_29) (by decide) (by decide) ?_
    refine XS.iloadN X0.here hx rfl (hb hby d22_9) rfl ?_
    show Steps p.tables e below (s₁.setTop (mkF m 10 #[.val (.ref a1), .val (.ref a2), .val (.int (2 : Int32))] [(.int (2 : Int32))])) _
    refine XS.aloadN X0.here hx rfl (hb hby d22_10) rfl rfl ?_
    refine X0.arraylength hx (by rw [e0]; exact Ar1.1) (State.isArrayOf_alike hZ.alike Ar1.2.1) (g := (mkF m 11 #[.val (.ref a1), .val (.ref a2), .val (.int (2 : Int32))] [(.ref a1), (.int (2 : Int32))])) rfl rfl (hb hby d22_11) _ ?_
    show Steps p.tables e below (s₁.setTop (mkF m 12 #[.val (.ref a1), .val (.ref a2), .val (.int (2 : Int32))] [(.int cl1.slots.size.toInt32), (.int (2 : Int32))])) _
    rw [len_of S1 M1]
    refine XS.icmpYes X0.here hx rfl (pc0 := 12) (pc' := 32) rfl (hb hby d22_12) rfl (flt ((by decide : ¬ ((2 : Int32) < (2 : Int32))) : ¬ ((2 : Int32) < (2 : Int32)))).2.1 (by decide) (by decide) ?_
    refine XS.iconst X0.here hx rfl (hb hby d22_32) ?_
    exact retN X0 hx (t := .boolean) hret (by simp) (hb hby d22_33) hr
-- java/lang/String.equals(Ljava/lang/Object;)Z
abbrev Rm35 : Room := { frames := 1, cells := 0, slots := 0, locals := 14 }
def Q35 (Z : State) (a1 : Addr) (a2 : Addr) (i3 : Int32) (a5 : Addr) (a6 : Addr) (i7 : Int32) (i8 : Int32) (ck9 : ClassId) (ck10 : ClassId) (h0 : Heap) (n0 : Nat) (v : Option Value) (h : Heap) (L : List Loc) : Prop := v = some (.int (1 : Int32)) ∧ Fr n0 L ∧ h = h0
theorem ef35 (a1 : Addr) (a2 : Addr) (m : MethodId) : entryFrame m #[(.ref a1), (.ref a2)] 3 = mkF m 0 #[.val (.ref a1), .val (.ref a2), .unset] [] := by first | (simp [entryFrame, mkF, argsToLocals, Value.category]; done) | rfl
theorem rm35 (l : Launch) (Z : State) (a0 : Array Value) (hw : ∀ d ∈ tables_1, d.before a0 Z = true) (ws : List Jvm.Cond) (a1 : Addr) (a2 : Addr) (i3 : Int32) (a5 : Addr) (a6 : Addr) (i7 : Int32) (i8 : Int32) (ck9 : ClassId) (ck10 : ClassId) (h0 : Heap) (n0 : Nat) (Z0 : n0 ≤ h0.size) (ne_a1_a2 : a1 ≠ a2) (E_a2 : Exa Z h0 a2 "java/lang/String") (S_COMPACT_STRINGS : Sta Z Z.heap "java/lang/String" "COMPACT_STRINGS" "Z" (.int i3)) (Od0 : Old Z n0 h0) (c4 : ¬ (i3 = (0 : Int32))) (F_coder_a1 : Fld Z h0 a1 "java/lang/String" "coder" "B" (.int (0 : Int32))) (F_coder_a2 : Fld Z h0 a2 "java/lang/String" "coder" "B" (.int (0 : Int32))) (F_value_a1 : Fld Z h0 a1 "java/lang/String" "value" "[B" (.ref a5)) (F_value_a2 : Fld Z h0 a2 "java/lang/String" "value" "[B" (.ref a6)) (V_a5 : Arv Z h0 a5 ck9 .byte (2 : Int32) [(.int i7), (.int i8)] (.int (0 : Int32))) (V_a6 : Arv Z h0 a6 ck10 .byte (2 : Int32) [(.int i7), (.int i8)] (.int (0 : Int32))) :
    OwnMet l Z y_18 jdk_42_method_66_code 3 (some .boolean) ws Rm35 #[(.ref a1), (.ref a2)] h0 (Q35 Z a1 a2 i3 a5 a6 i7 i8 ck9 ck10 h0 n0) := by
  refine own_body (plainFor_of_name pn_2) (ef35 a1 a2) ?_
  intro p e s m below meth c s₁ hx hby hml hown hnm hret hZ X0 e0
  have N0 := Fr.nil n0
  obtain ⟨T1, X1, e1, st1⟩ := instY X0 hx hZ hown (w_104 hw) e0 (Ins.self E_a2) (g := (mkF m 8 #[.val (.ref a1), .val (.ref a2), .unset] [(.ref a2)])) rfl rfl (hb hby d20_8)
  obtain ⟨T2, X2, e2, st2⟩ := castY X1 hx hZ hown (w_104 hw) e1 (Ins.self E_a2) (g := (mkF m 15 #[.val (.ref a1), .val (.ref a2), .unset] [(.ref a2)])) rfl rfl (hb hby d20_15)
  obtain ⟨T3, X3, e3, st3⟩ := getS2 X2 hx hZ hown (host := "") (Or.inl (w_18 hw)) Via.refl e2 (S_COMPACT_STRINGS.ext Od0.2) (g := (mkF m 19 #[.val (.ref a1), .val (.ref a2), .val (.ref a2)] [])) rfl (hb hby d20_19)
  obtain ⟨T4, X4, e4, st4⟩ := getF X3 hx hZ hown (host := "") (Or.inl (w_30 hw)) Via.refl e3 F_coder_a1 (g := (mkF m 26 #[.val (.ref a1), .val (.ref a2), .val (.ref a2)] [(.ref a1)])) rfl rfl (hb hby d20_26)
  obtain ⟨T5, X5, e5, st5⟩ := getF X4 hx hZ hown (host := "") (Or.inl (w_30 hw)) Via.refl e4 F_coder_a2 (g := (mkF m 30 #[.val (.ref a1), .val (.ref a2), .val (.ref a2)] [(.ref a2), (.int (0 : Int32))])) rfl rfl (hb hby d20_30)
  obtain ⟨T6, X6, e6, st6⟩ := getF X5 hx hZ hown (host := "") (Or.inl (w_32 hw)) Via.refl e5 F_value_a1 (g := (mkF m 37 #[.val (.ref a1), .val (.ref a2), .val (.ref a2)] [(.ref a1)])) rfl rfl (hb hby d20_37)
  obtain ⟨T7, X7, e7, st7⟩ := getF X6 hx hZ hown (host := "") (Or.inl (w_32 hw)) Via.refl e6 F_value_a2 (g := (mkF m 41 #[.val (.ref a1), .val (.ref a2), .val (.ref a2)] [(.ref a2), (.ref a5)])) rfl rfl (hb hby d20_41)
  obtain ⟨_, T8, L8, X8, hQ8, st8⟩ := own_callS X7 hx hZ hown (y := y_19) (w_105 hw) (w_106 hw) (w_65 hw) (w_107 hw) (rm34 l Z a0 hw [] a5 a6 i7 i8 ck9 ck10 h0 n0 Z0 V_a5 V_a6) e7 (Ls := #[.val (.ref a1), .val (.ref a2), .val (.ref a2)]) (by rw [hml]; rfl) (argsL := [(.ref a5), (.ref a6)]) (rest := []) (lenOf pd_17 rfl) (hb hby d20_44) (W := 0)
  obtain ⟨rfl, Nq8, e8⟩ := hQ8
  have N8 := Fr.app N0 Nq8
  refine ⟨T8, _, _, _, (some (.int (1 : Int32))), X8, nofun, by decide, by decide, ?_, fun fs hr => ?_⟩
  · show Q35 Z a1 a2 i3 a5 a6 i7 i8 ck9 ck10 h0 n0 _ T8.heap _
    rw [e8]
    exact ⟨rfl, N8, rfl⟩
  · show Steps p.tables e below (s₁.setTop (mkF m 0 #[.val (.ref a1), .val (.ref a2), .unset] [])) _
    refine XS.aloadN X0.here hx rfl (hb hby d20_0) rfl rfl ?_
    refine XS.aloadN X0.here hx rfl (hb hby d20_1) rfl rfl ?_
    refine Jvm.RoadKit.acmp (g := (mkF m 2 #[.val (.ref a1), .val (.ref a2), .unset] [(.ref a2), (.ref a1)])) X0 hx rfl rfl rfl (pc0 := 2) (pc' := 7) (same := false) rfl (hb hby d20_2) rfl (decide_eq_false fun q => ne_a1_a2 (Value.ref.inj q)) (by decide) (by decide) ?_
    refine XS.aloadN X0.here hx rfl (hb hby d20_7) rfl rfl ?_
    refine st1 _ ?_
    refine XS.ifNo X1.here hx rfl (hb hby d20_11) rfl ((if0 _ _).trans (feq ((by decide : ¬ ((1 : Int32) = (0 : Int32))) : ¬ ((1 : Int32) = (0 : Int32)))).1) ?_
    refine XS.aloadN X1.here hx rfl (hb hby d20_14) rfl rfl ?_
    refine st2 _ ?_
    refine XS.astoreN X2.here hx rfl (hb hby d20_18) rfl rfl (l' := #[.val (.ref a1), .val (.ref a2), .val (.ref a2)]) rfl ?_
    refine st3 _ ?_
    refine XS.ifNo X3.here hx rfl (hb hby d20_22) rfl ((if0 _ _).trans (feq (c4 : ¬ (i3 = (0 : Int32)))).1) ?_
    refine XS.aloadN X3.here hx rfl (hb hby d20_25) rfl rfl ?_
    show Steps p.tables e below (T3.setTop (mkF m 26 #[.val (.ref a1), .val (.ref a2), .val (.ref a2)] [(.ref a1)])) _
    refine st4 _ ?_
    refine XS.aloadN X4.here hx rfl (hb hby d20_29) rfl rfl ?_
    refine st5 _ ?_
    refine XS.icmpNo X5.here hx rfl (hb hby d20_33) rfl (teq ((by decide : (0 : Int32) = (0 : Int32)) : (0 : Int32) = (0 : Int32))).2 ?_
    refine XS.aloadN X5.here hx rfl (hb hby d20_36) rfl rfl ?_
    refine st6 _ ?_
    refine XS.aloadN X6.here hx rfl (hb hby d20_40) rfl rfl ?_
    refine st7 _ ?_
    refine st8 _ ?_
    refine XS.ifNo X8.here hx rfl (hb hby d20_47) rfl ((if0 _ _).trans (feq ((by decide : ¬ ((1 : Int32) = (0 : Int32))) : ¬ ((1 : Int32) = (0 : Int32)))).1) ?_
    refine XS.iconst X8.here hx rfl (hb hby d20_50) ?_
    refine XS.goto X8.here hx rfl (pc0 := 51) (pc' := 55) rfl (hb hby d20_51) (by decide) (by decide) ?_
    show Steps p.tables e below (T8.setTop (mkF m 55 #[.val (.ref a1), .val (.ref a2), .val (.ref a2)] [(.int (1 : Int32))])) _
    exact retN X8 hx (t := .boolean) hret (by simp) (hb hby d20_55) hr
-- com/example/bare_queue/barequeue/QueueName.equals(Ljava/lang/Object;)Z
abbrev Rm36 : Room := { frames := 2, cells := 0, slots := 0, locals := 28 }
def Q36 (Z : State) (a1 : Addr) (a2 : Addr) (a3 : Addr) (a4 : Addr) (i5 : Int32) (a7 : Addr) (a8 : Addr) (i9 : Int32) (i10 : Int32) (ck11 : ClassId) (ck12 : ClassId) (h0 : Heap) (n0 : Nat) (v : Option Value) (h : Heap) (L : List Loc) : Prop := v = some (.int (1 : Int32)) ∧ Fr n0 L ∧ h = h0
theorem ef36 (a1 : Addr) (a2 : Addr) (m : MethodId) : entryFrame m #[(.ref a1), (.ref a2)] 3 = mkF m 0 #[.val (.ref a1), .val (.ref a2), .unset] [] := by first | (simp [entryFrame, mkF, argsToLocals, Value.category]; done) | rfl
theorem rm36 (l : Launch) (Z : State) (a0 : Array Value) (hw : ∀ d ∈ tables_1, d.before a0 Z = true) (ws : List Jvm.Cond) (a1 : Addr) (a2 : Addr) (a3 : Addr) (a4 : Addr) (i5 : Int32) (a7 : Addr) (a8 : Addr) (i9 : Int32) (i10 : Int32) (ck11 : ClassId) (ck12 : ClassId) (h0 : Heap) (n0 : Nat) (Z0 : n0 ≤ h0.size) (E_a2 : Exa Z h0 a2 "com/example/bare_queue/barequeue/QueueName") (F_value_a1 : Fld Z h0 a1 "com/example/bare_queue/barequeue/QueueName" "value" "Ljava/lang/String;" (.ref a3)) (F_value_a2 : Fld Z h0 a2 "com/example/bare_queue/barequeue/QueueName" "value" "Ljava/lang/String;" (.ref a4)) (E_a3 : Exa Z h0 a3 "java/lang/String") (ne_a3_a4 : a3 ≠ a4) (E_a4 : Exa Z h0 a4 "java/lang/String") (S_COMPACT_STRINGS : Sta Z Z.heap "java/lang/String" "COMPACT_STRINGS" "Z" (.int i5)) (Od0 : Old Z n0 h0) (c6 : ¬ (i5 = (0 : Int32))) (F_coder_a3 : Fld Z h0 a3 "java/lang/String" "coder" "B" (.int (0 : Int32))) (F_coder_a4 : Fld Z h0 a4 "java/lang/String" "coder" "B" (.int (0 : Int32))) (F_value_a3 : Fld Z h0 a3 "java/lang/String" "value" "[B" (.ref a7)) (F_value_a4 : Fld Z h0 a4 "java/lang/String" "value" "[B" (.ref a8)) (V_a7 : Arv Z h0 a7 ck11 .byte (2 : Int32) [(.int i9), (.int i10)] (.int (0 : Int32))) (V_a8 : Arv Z h0 a8 ck12 .byte (2 : Int32) [(.int i9), (.int i10)] (.int (0 : Int32))) :
    OwnMet l Z y_20 prog_12_method_5_code 3 (some .boolean) ws Rm36 #[(.ref a1), (.ref a2)] h0 (Q36 Z a1 a2 a3 a4 i5 a7 a8 i9 i10 ck11 ck12 h0 n0) := by
  refine own_body (plainFor_of_name pn_5) (ef36 a1 a2) ?_
  intro p e s m below meth c s₁ hx hby hml hown hnm hret hZ X0 e0
  have N0 := Fr.nil n0
  obtain ⟨T1, X1, e1, st1⟩ := instY X0 hx hZ hown (w_78 hw) e0 (Ins.self E_a2) (g := (mkF m 1 #[.val (.ref a1), .val (.ref a2), .unset] [(.ref a2)])) rfl rfl (hb hby d21_1)
  obtain ⟨T2, X2, e2, st2⟩ := castY X1 hx hZ hown (w_78 hw) e1 (Ins.self E_a2) (g := (mkF m 8 #[.val (.ref a1), .val (.ref a2), .unset] [(.ref a2)])) rfl rfl (hb hby d21_8)
  obtain ⟨T3, X3, e3, st3⟩ := getF X2 hx hZ hown (host := "") (Or.inl (w_84 hw)) Via.refl e2 F_value_a1 (g := (mkF m 13 #[.val (.ref a1), .val (.ref a2), .val (.ref a2)] [(.ref a1)])) rfl rfl (hb hby d21_13)
  obtain ⟨T4, X4, e4, st4⟩ := getF X3 hx hZ hown (host := "") (Or.inl (w_84 hw)) Via.refl e3 F_value_a2 (g := (mkF m 17 #[.val (.ref a1), .val (.ref a2), .val (.ref a2)] [(.ref a2), (.ref a3)])) rfl rfl (hb hby d21_17)
  obtain ⟨_, T5, L5, X5, hQ5, st5⟩ := own_virtual X4 hx hZ hown (y := y_18) (z := y_18) E_a3 (w_103 hw) (w_92 hw) (notFace_of_selects (args := #[]) (mvT hZ (w_94 hw))) (w_94 hw) (w_93 hw) (w_7 hw) (w_95 hw) (rm35 l Z a0 hw [] a3 a4 i5 a7 a8 i9 i10 ck11 ck12 h0 n0 Z0 ne_a3_a4 E_a4 S_COMPACT_STRINGS Od0 c6 F_coder_a3 F_coder_a4 F_value_a3 F_value_a4 V_a7 V_a8) e4 (Ls := #[.val (.ref a1), .val (.ref a2), .val (.ref a2)]) (by rw [hml]; rfl) (argsL := [(.ref a4)]) (rest := []) (lenOf pd_16 rfl) (hb hby d21_20) (W := 0)
  obtain ⟨rfl, Nq5, e5⟩ := hQ5
  have N5 := Fr.app N0 Nq5
  refine ⟨T5, _, _, _, (some (.int (1 : Int32))), X5, nofun, by decide, by decide, ?_, fun fs hr => ?_⟩
  · show Q36 Z a1 a2 a3 a4 i5 a7 a8 i9 i10 ck11 ck12 h0 n0 _ T5.heap _
    rw [e5]
    exact ⟨rfl, N5, rfl⟩
  · show Steps p.tables e below (s₁.setTop (mkF m 0 #[.val (.ref a1), .val (.ref a2), .unset] [])) _
    refine XS.aloadN X0.here hx rfl (hb hby d21_0) rfl rfl ?_
    refine st1 _ ?_
    refine XS.ifNo X1.here hx rfl (hb hby d21_4) rfl ((if0 _ _).trans (feq ((by decide : ¬ ((1 : Int32) = (0 : Int32))) : ¬ ((1 : Int32) = (0 : Int32)))).1) ?_
    refine XS.aloadN X1.here hx rfl (hb hby d21_7) rfl rfl ?_
    refine st2 _ ?_
    refine XS.astoreN X2.here hx rfl (hb hby d21_11) rfl rfl (l' := #[.val (.ref a1), .val (.ref a2), .val (.ref a2)]) rfl ?_
    refine XS.aloadN X2.here hx rfl (hb hby d21_12) rfl rfl ?_
    refine st3 _ ?_
    refine XS.aloadN X3.here hx rfl (hb hby d21_16) rfl rfl ?_
    refine st4 _ ?_
    refine st5 _ ?_
    refine XS.ifNo X5.here hx rfl (hb hby d21_23) rfl ((if0 _ _).trans (feq ((by decide : ¬ ((1 : Int32) = (0 : Int32))) : ¬ ((1 : Int32) = (0 : Int32)))).1) ?_
    show Steps p.tables e below (T5.setTop (mkF m 26 #[.val (.ref a1), .val (.ref a2), .val (.ref a2)] [])) _
    refine XS.iconst X5.here hx rfl (hb hby d21_26) ?_
    refine XS.goto X5.here hx rfl (pc0 := 27) (pc' := 31) rfl (hb hby d21_27) (by decide) (by decide) ?_
    exact retN X5 hx (t := .boolean) hret (by simp) (hb hby d21_31) hr
theorem rm0_1 (l : Launch) (Z : State) (a0 : Array Value) (hw : ∀ d ∈ tables_1, d.before a0 Z = true) (ws : List Jvm.Cond) (p1 : Int32) (p2 : Int32) (p3 : Int32) (p4 : Int32) (sr1 : Value) (si2 : Int32) (h0 : Heap) (n0 : Nat) (Z0 : n0 ≤ h0.size) (Od0 : Old Z n0 h0) (R_sr1 : sr1.isRef = true) (nc3 : ¬ (si2 = (0 : Int32))) (S4_SIOOBE_FORMATTER : Sta Z Z.heap "jdk/internal/util/Preconditions" "SIOOBE_FORMATTER" "Ljava/util/function/BiFunction;" sr1) (S5_COMPACT_STRINGS : Sta Z Z.heap "java/lang/String" "COMPACT_STRINGS" "Z" (.int si2)) (hk : (p4 &&& (3 : Int32)) = (1 : Int32)) (hn0 : n0 = h0.size) (hcw : Jvm.Lit.compactW.before a0 Z = true) (hch_7 : Jvm.Lit.constHeld Z "com/example/bare_queue/barequeue/QueueNameOfPinLaw" 7) :
    OwnMet l Z x code maxLocals ret ws room_1 #[(.int p1), (.int p2), (.int p3), (.int p4)] h0 (Q0 n0) := by
  refine own_body (plainFor_of_name pn_0) (ef0 p1 p2 p3 p4) ?_
  intro p e s m below meth c s₁ hx hby hml hown hnm hret hZ X0 e0
  have N0 := Fr.nil n0
  obtain ⟨T1, h1, k1, X1, e1, E1, A1, B1, st1⟩ := newPE (aty := .char) X0 hx hZ (w_0 hw) e0 (g := (mkF m 30 #[.val (.int p1), .val (.int p2), .val (.int p3), .val (.int p4), .val (.int (1 : Int32)), .unset, .unset, .val (.int (2 : Int32)), .unset] [(.int (2 : Int32))])) rfl (hb hby at_30) rfl (by decide) (cap := 2) (by decide) (by decide) (by decide) (by decide) (ad := "[C") (by decide)
  obtain ⟨b1, g1⟩ : ∃ z, z = h0.size := ⟨_, rfl⟩
  rw [← g1] at A1 B1 st1
  have s0 := E1.1
  have Vn1 : Arv Z h1 b1 k1 .char (2 : Int32) [(.int (0 : Int32)), (.int (0 : Int32))] (.int (0 : Int32)) := (Arv.new A1 (by decide)).pad (pad_rep [] (.int (0 : Int32)) 2)
  have z1 := Nat.le_trans Z0 s0
  obtain ⟨_, T2, L2, X2, hQ2, st2⟩ := own_callS X1 hx hZ hown (y := y_0) (w_1 hw) (w_2 hw) (w_3 hw) (w_4 hw) (rm1 l Z a0 hw [] p1 h1 n0 z1) e1 (Ls := #[.val (.int p1), .val (.int p2), .val (.int p3), .val (.int p4), .val (.int (1 : Int32)), .unset, .unset, .val (.int (2 : Int32)), .val (.ref b1)]) (by rw [hml]; rfl) (argsL := [(.int p1)]) (rest := [(.int (0 : Int32)), (.ref b1)]) (lenOf pd_0 rfl) (hb hby at_38) (W := 2)
  obtain ⟨rfl, Nq2, e2⟩ := hQ2
  have N2 := Fr.app N0 Nq2
  obtain ⟨x3, ex3⟩ : ∃ z, z = (if (p1 &&& (63 : Int32)) < (26 : Int32) then (nar .char (((65 : Int32) + (p1 &&& (63 : Int32))).toUInt32.toUInt16.toUInt32.toInt32)) else (if (p1 &&& (63 : Int32)) < (52 : Int32) then (nar .char (((97 : Int32) + ((p1 &&& (63 : Int32)) - (26 : Int32))).toUInt32.toUInt16.toUInt32.toInt32)) else (if (p1 &&& (63 : Int32)) < (62 : Int32) then (nar .char (((48 : Int32) + ((p1 &&& (63 : Int32)) - (52 : Int32))).toUInt32.toUInt16.toUInt32.toInt32)) else (if (p1 &&& (63 : Int32)) = (62 : Int32) then (45 : Int32) else (95 : Int32))))) := ⟨_, rfl⟩
  obtain ⟨cl4, Ar4, q4, S4, M4, Hs4, G4⟩ := id Vn1
  have hin5 : ¬ ((0 : Int32) < 0 ∨ cl4.slots.size ≤ ((0 : Int32)).toNatClampNeg) := inb_of S4 ⟨(by decide : ¬ ((0 : Int32) < (0 : Int32))), (by decide : (0 : Int32) < (2 : Int32))⟩
  obtain ⟨T6, h6, X6, e6, W6, st6⟩ := stC X2 hx hZ e2 Ar4 (j := (0 : Int32)) hin5 (g := (mkF m 41 #[.val (.int p1), .val (.int p2), .val (.int p3), .val (.int p4), .val (.int (1 : Int32)), .unset, .unset, .val (.int (2 : Int32)), .val (.ref b1)] [(.int x3), (.int (0 : Int32)), (.ref b1)])) rfl rfl (hb hby at_41)
  have s1 := (Keep.of_wr W6).1
  have g_b1 : n0 ≤ b1 := Nat.le_trans Z0 (Nat.le_of_eq g1.symm)
  have N6 := Fr.snoc X6 N2 g_b1
  have Vs6 : Arv Z h6 b1 k1 .char (2 : Int32) [(.int (nar .char x3)), (.int (0 : Int32))] (.int (0 : Int32)) := Arv.set Ar4 q4 S4 M4 Hs4 G4 (fits_nar_char _) W6 0 rfl (Nat.le_of_ble_eq_true rfl)
  have z2 := Nat.le_trans Z0 (Nat.le_trans s0 s1)
  obtain ⟨_, T7, L7, X7, hQ7, st7⟩ := own_callS X6 hx hZ hown (y := y_0) (w_1 hw) (w_2 hw) (w_3 hw) (w_4 hw) (rm1 l Z a0 hw [] p2 h6 n0 z2) e6 (Ls := #[.val (.int p1), .val (.int p2), .val (.int p3), .val (.int p4), .val (.int (1 : Int32)), .unset, .unset, .val (.int (2 : Int32)), .val (.ref b1)]) (by rw [hml]; rfl) (argsL := [(.int p2)]) (rest := [(.int (1 : Int32)), (.ref b1)]) (lenOf pd_0 rfl) (hb hby at_52) (W := 2)
  obtain ⟨rfl, Nq7, e7⟩ := hQ7
  have N7 := Fr.app N6 Nq7
  obtain ⟨x8, ex8⟩ : ∃ z, z = (if (p2 &&& (63 : Int32)) < (26 : Int32) then (nar .char (((65 : Int32) + (p2 &&& (63 : Int32))).toUInt32.toUInt16.toUInt32.toInt32)) else (if (p2 &&& (63 : Int32)) < (52 : Int32) then (nar .char (((97 : Int32) + ((p2 &&& (63 : Int32)) - (26 : Int32))).toUInt32.toUInt16.toUInt32.toInt32)) else (if (p2 &&& (63 : Int32)) < (62 : Int32) then (nar .char (((48 : Int32) + ((p2 &&& (63 : Int32)) - (52 : Int32))).toUInt32.toUInt16.toUInt32.toInt32)) else (if (p2 &&& (63 : Int32)) = (62 : Int32) then (45 : Int32) else (95 : Int32))))) := ⟨_, rfl⟩
  obtain ⟨cl9, Ar9, q9, S9, M9, Hs9, G9⟩ := id Vs6
  have hin10 : ¬ ((1 : Int32) < 0 ∨ cl9.slots.size ≤ ((1 : Int32)).toNatClampNeg) := inb_of S9 ⟨(by decide : ¬ ((1 : Int32) < (0 : Int32))), (by decide : (1 : Int32) < (2 : Int32))⟩
  obtain ⟨T11, h11, X11, e11, W11, st11⟩ := stC X7 hx hZ e7 Ar9 (j := (1 : Int32)) hin10 (g := (mkF m 55 #[.val (.int p1), .val (.int p2), .val (.int p3), .val (.int p4), .val (.int (1 : Int32)), .unset, .unset, .val (.int (2 : Int32)), .val (.ref b1)] [(.int x8), (.int (1 : Int32)), (.ref b1)])) rfl rfl (hb hby at_55)
  have s2 := (Keep.of_wr W11).1
  have N11 := Fr.snoc X11 N7 g_b1
  have Vs11 : Arv Z h11 b1 k1 .char (2 : Int32) [(.int (nar .char x3)), (.int (nar .char x8))] (.int (0 : Int32)) := Arv.set Ar9 q9 S9 M9 Hs9 G9 (fits_nar_char _) W11 1 rfl (Nat.le_of_ble_eq_true rfl)
  obtain ⟨T12, h12, X12, e12, E12, A12, D12, -, st12⟩ := newO X11 hx hZ hown (w_5 hw) (w_6 hw) (w_7 hw) e11 (g := (mkF m 70 #[.val (.int p1), .val (.int p2), .val (.int p3), .val (.int p4), .val (.int (1 : Int32)), .unset, .unset, .val (.int (2 : Int32)), .val (.ref b1)] [])) rfl (hb hby at_70) (by decide) (by decide)
  obtain ⟨b12, g12⟩ : ∃ z, z = h11.size := ⟨_, rfl⟩
  rw [← g12] at A12 D12 st12
  have s3 := E12.1
  have Fn12_coder : Fld Z h12 b12 "java/lang/String" "coder" "B" (.int (0 : Int32)) := D12 (Or.inr (w_31 hw)) (ty := .byte) (by decide)
  have Fn12_value : Fld Z h12 b12 "java/lang/String" "value" "[B" .null := D12 (Or.inr (w_33 hw)) (ty := (.array .byte)) (by decide)
  have Va13 := (Vs11.ext E12)
  have Od1 : Old Z n0 h1 := Od0.ext E1
  have Od2 : Old Z n0 h6 := Od1.wr W6 g_b1
  have Od3 : Old Z n0 h11 := Od2.wr W11 g_b1
  have Od4 : Old Z n0 h12 := Od3.ext E12
  have cd14 : ¬ ((255 : Int32) < (nar .char (if (p1 &&& (63 : Int32)) < (26 : Int32) then (nar .char (((65 : Int32) + (p1 &&& (63 : Int32))).toUInt32.toUInt16.toUInt32.toInt32)) else (if (p1 &&& (63 : Int32)) < (52 : Int32) then (nar .char (((97 : Int32) + ((p1 &&& (63 : Int32)) - (26 : Int32))).toUInt32.toUInt16.toUInt32.toInt32)) else (if (p1 &&& (63 : Int32)) < (62 : Int32) then (nar .char (((48 : Int32) + ((p1 &&& (63 : Int32)) - (52 : Int32))).toUInt32.toUInt16.toUInt32.toInt32)) else (if (p1 &&& (63 : Int32)) = (62 : Int32) then (45 : Int32) else (95 : Int32))))))) := (by have h : ∀ n : Fin 64, ¬ ((255 : Int32) < (nar .char (if (Int32.ofInt (n.val : Int)) < (26 : Int32) then (nar .char (((65 : Int32) + (Int32.ofInt (n.val : Int))).toUInt32.toUInt16.toUInt32.toInt32)) else (if (Int32.ofInt (n.val : Int)) < (52 : Int32) then (nar .char (((97 : Int32) + ((Int32.ofInt (n.val : Int)) - (26 : Int32))).toUInt32.toUInt16.toUInt32.toInt32)) else (if (Int32.ofInt (n.val : Int)) < (62 : Int32) then (nar .char (((48 : Int32) + ((Int32.ofInt (n.val : Int)) - (52 : Int32))).toUInt32.toUInt16.toUInt32.toInt32)) else (if (Int32.ofInt (n.val : Int)) = (62 : Int32) then (45 : Int32) else (95 : Int32))))))) := (by decide +kernel); obtain ⟨n, hn⟩ := own_fin64 p1; rw [hn]; exact h n)
  have cd15 : ¬ ((255 : Int32) < (nar .char (if (p2 &&& (63 : Int32)) < (26 : Int32) then (nar .char (((65 : Int32) + (p2 &&& (63 : Int32))).toUInt32.toUInt16.toUInt32.toInt32)) else (if (p2 &&& (63 : Int32)) < (52 : Int32) then (nar .char (((97 : Int32) + ((p2 &&& (63 : Int32)) - (26 : Int32))).toUInt32.toUInt16.toUInt32.toInt32)) else (if (p2 &&& (63 : Int32)) < (62 : Int32) then (nar .char (((48 : Int32) + ((p2 &&& (63 : Int32)) - (52 : Int32))).toUInt32.toUInt16.toUInt32.toInt32)) else (if (p2 &&& (63 : Int32)) = (62 : Int32) then (45 : Int32) else (95 : Int32))))))) := (by have h : ∀ n : Fin 64, ¬ ((255 : Int32) < (nar .char (if (Int32.ofInt (n.val : Int)) < (26 : Int32) then (nar .char (((65 : Int32) + (Int32.ofInt (n.val : Int))).toUInt32.toUInt16.toUInt32.toInt32)) else (if (Int32.ofInt (n.val : Int)) < (52 : Int32) then (nar .char (((97 : Int32) + ((Int32.ofInt (n.val : Int)) - (26 : Int32))).toUInt32.toUInt16.toUInt32.toInt32)) else (if (Int32.ofInt (n.val : Int)) < (62 : Int32) then (nar .char (((48 : Int32) + ((Int32.ofInt (n.val : Int)) - (52 : Int32))).toUInt32.toUInt16.toUInt32.toInt32)) else (if (Int32.ofInt (n.val : Int)) = (62 : Int32) then (45 : Int32) else (95 : Int32))))))) := (by decide +kernel); obtain ⟨n, hn⟩ := own_fin64 p2; rw [hn]; exact h n)
  have z3 := Nat.le_trans Z0 (Nat.le_trans (Nat.le_trans s0 s1) s2)
  have g_b12 : n0 ≤ b12 := Nat.le_trans z3 (Nat.le_of_eq g12.symm)
  have z4 := Nat.le_trans Z0 (Nat.le_trans (Nat.le_trans (Nat.le_trans s0 s1) s2) s3)
  obtain ⟨_, T16, L16, X16, hQ16, st16⟩ := own_special X12 hx hZ hown (y := y_5) (a := b12) (w_8 hw) (w_9 hw) (w_7 hw) (w_10 hw) (rm30 l Z a0 hw [] b12 b1 (nar .char x3) (nar .char x8) k1 si2 h12 n0 z4 Va13 S5_COMPACT_STRINGS Od4 nc3 (by rw [ex3]; exact cd14) (by rw [ex8]; exact cd15) Fn12_coder A12 g_b12 Fn12_value) e12 (Ls := #[.val (.int p1), .val (.int p2), .val (.int p3), .val (.int p4), .val (.int (1 : Int32)), .unset, .unset, .val (.int (2 : Int32)), .val (.ref b1)]) (by rw [hml]; rfl) (argsL := [(.ref b1)]) (rest := [(.ref b12)]) (lenOf pd_5 rfl) (hb hby at_76) (W := 1)
  obtain ⟨b16_b2_b3_b1, k16_k2_k3_k1, rfl, Nq16, K16, o16_0, o16_1, o16_2, o16_3, o16_4, o16_5⟩ := hQ16
  have N16 := Fr.app N11 Nq16
  have s4 := K16.1
  obtain ⟨T17, h17, X17, e17, E17, A17, D17, -, st17⟩ := newO X16 hx hZ hown (w_5 hw) (w_6 hw) (w_7 hw) rfl (g := (mkF m 81 #[.val (.int p1), .val (.int p2), .val (.int p3), .val (.int p4), .val (.int (1 : Int32)), .val (.ref b12), .unset, .val (.int (2 : Int32)), .val (.ref b1)] [])) rfl (hb hby at_81) (by decide) (by decide)
  obtain ⟨b17, g17⟩ : ∃ z, z = T16.heap.size := ⟨_, rfl⟩
  rw [← g17] at A17 D17 st17
  have s5 := E17.1
  have Fn17_coder : Fld Z h17 b17 "java/lang/String" "coder" "B" (.int (0 : Int32)) := D17 (Or.inr (w_31 hw)) (ty := .byte) (by decide)
  have Fn17_value : Fld Z h17 b17 "java/lang/String" "value" "[B" .null := D17 (Or.inr (w_33 hw)) (ty := (.array .byte)) (by decide)
  have ne_b1_b12 := Nat.ne_of_lt (Nat.lt_of_lt_of_le Vs11.lt (Nat.le_of_eq g12.symm))
  have Va18 := ((Va13.keep K16 (ninS ne_b1_b12 nin0)).ext E17)
  have Od5 : Old Z n0 T16.heap := Od4.keep K16 (allS g_b12 all0)
  have Od6 : Old Z n0 h17 := Od5.ext E17
  have z5 := Nat.le_trans Z0 (Nat.le_trans (Nat.le_trans (Nat.le_trans (Nat.le_trans s0 s1) s2) s3) s4)
  have g_b17 : n0 ≤ b17 := Nat.le_trans z5 (Nat.le_of_eq g17.symm)
  have z6 := Nat.le_trans Z0 (Nat.le_trans (Nat.le_trans (Nat.le_trans (Nat.le_trans (Nat.le_trans s0 s1) s2) s3) s4) s5)
  obtain ⟨_, T19, L19, X19, hQ19, st19⟩ := own_special X17 hx hZ hown (y := y_5) (a := b17) (w_8 hw) (w_9 hw) (w_7 hw) (w_10 hw) (rm30 l Z a0 hw [] b17 b1 (nar .char x3) (nar .char x8) k1 si2 h17 n0 z6 Va18 S5_COMPACT_STRINGS Od6 nc3 (by rw [ex3]; exact cd14) (by rw [ex8]; exact cd15) Fn17_coder A17 g_b17 Fn17_value) e17 (Ls := #[.val (.int p1), .val (.int p2), .val (.int p3), .val (.int p4), .val (.int (1 : Int32)), .val (.ref b12), .unset, .val (.int (2 : Int32)), .val (.ref b1)]) (by rw [hml]; rfl) (argsL := [(.ref b1)]) (rest := [(.ref b17)]) (lenOf pd_5 rfl) (hb hby at_87) (W := 1)
  obtain ⟨b19_b2_b3_b1, k19_k2_k3_k1, rfl, Nq19, K19, o19_0, o19_1, o19_2, o19_3, o19_4, o19_5⟩ := hQ19
  have N19 := Fr.app N16 Nq19
  have s6 := K19.1
  have Ex20 := ((o16_0.ext E17).keep K19)
  have ne_b12_b17 := Nat.ne_of_lt (Nat.lt_of_lt_of_le o16_2.lt (Nat.le_of_eq g17.symm))
  have Fl21 := ((o16_2.ext E17).keep K19 (ninS ne_b12_b17 nin0))
  have ne_b16_b2_b3_b1_b17 := Nat.ne_of_lt (Nat.lt_of_lt_of_le o16_5.lt (Nat.le_of_eq g17.symm))
  have Va22 := ((o16_5.ext E17).keep K19 (ninS ne_b16_b2_b3_b1_b17 nin0))
  have Od7 : Old Z n0 T19.heap := Od6.keep K19 (allS g_b17 all0)
  have Fl23 := ((o16_1.ext E17).keep K19 (ninS ne_b12_b17 nin0))
  have cd24 : ¬ ((122 : Int32) < (nar .char (nar .char (((nar .byte ((nar .char (if (p1 &&& (63 : Int32)) < (26 : Int32) then (nar .char (((65 : Int32) + (p1 &&& (63 : Int32))).toUInt32.toUInt16.toUInt32.toInt32)) else (if (p1 &&& (63 : Int32)) < (52 : Int32) then (nar .char (((97 : Int32) + ((p1 &&& (63 : Int32)) - (26 : Int32))).toUInt32.toUInt16.toUInt32.toInt32)) else (if (p1 &&& (63 : Int32)) < (62 : Int32) then (nar .char (((48 : Int32) + ((p1 &&& (63 : Int32)) - (52 : Int32))).toUInt32.toUInt16.toUInt32.toInt32)) else (if (p1 &&& (63 : Int32)) = (62 : Int32) then (45 : Int32) else (95 : Int32)))))).toInt8.toInt32)) &&& (255 : Int32)).toUInt32.toUInt16.toUInt32.toInt32)))) := (by have h : ∀ n : Fin 64, ¬ ((122 : Int32) < (nar .char (nar .char (((nar .byte ((nar .char (if (Int32.ofInt (n.val : Int)) < (26 : Int32) then (nar .char (((65 : Int32) + (Int32.ofInt (n.val : Int))).toUInt32.toUInt16.toUInt32.toInt32)) else (if (Int32.ofInt (n.val : Int)) < (52 : Int32) then (nar .char (((97 : Int32) + ((Int32.ofInt (n.val : Int)) - (26 : Int32))).toUInt32.toUInt16.toUInt32.toInt32)) else (if (Int32.ofInt (n.val : Int)) < (62 : Int32) then (nar .char (((48 : Int32) + ((Int32.ofInt (n.val : Int)) - (52 : Int32))).toUInt32.toUInt16.toUInt32.toInt32)) else (if (Int32.ofInt (n.val : Int)) = (62 : Int32) then (45 : Int32) else (95 : Int32)))))).toInt8.toInt32)) &&& (255 : Int32)).toUInt32.toUInt16.toUInt32.toInt32)))) := (by decide +kernel); obtain ⟨n, hn⟩ := own_fin64 p1; rw [hn]; exact h n)
  have cd25 : ¬ ((if (nar .char (nar .char (((nar .byte ((nar .char (if (p1 &&& (63 : Int32)) < (26 : Int32) then (nar .char (((65 : Int32) + (p1 &&& (63 : Int32))).toUInt32.toUInt16.toUInt32.toInt32)) else (if (p1 &&& (63 : Int32)) < (52 : Int32) then (nar .char (((97 : Int32) + ((p1 &&& (63 : Int32)) - (26 : Int32))).toUInt32.toUInt16.toUInt32.toInt32)) else (if (p1 &&& (63 : Int32)) < (62 : Int32) then (nar .char (((48 : Int32) + ((p1 &&& (63 : Int32)) - (52 : Int32))).toUInt32.toUInt16.toUInt32.toInt32)) else (if (p1 &&& (63 : Int32)) = (62 : Int32) then (45 : Int32) else (95 : Int32)))))).toInt8.toInt32)) &&& (255 : Int32)).toUInt32.toUInt16.toUInt32.toInt32))) < (65 : Int32) then (if (nar .char (nar .char (((nar .byte ((nar .char (if (p1 &&& (63 : Int32)) < (26 : Int32) then (nar .char (((65 : Int32) + (p1 &&& (63 : Int32))).toUInt32.toUInt16.toUInt32.toInt32)) else (if (p1 &&& (63 : Int32)) < (52 : Int32) then (nar .char (((97 : Int32) + ((p1 &&& (63 : Int32)) - (26 : Int32))).toUInt32.toUInt16.toUInt32.toInt32)) else (if (p1 &&& (63 : Int32)) < (62 : Int32) then (nar .char (((48 : Int32) + ((p1 &&& (63 : Int32)) - (52 : Int32))).toUInt32.toUInt16.toUInt32.toInt32)) else (if (p1 &&& (63 : Int32)) = (62 : Int32) then (45 : Int32) else (95 : Int32)))))).toInt8.toInt32)) &&& (255 : Int32)).toUInt32.toUInt16.toUInt32.toInt32))) < (48 : Int32) then (if (nar .char (nar .char (((nar .byte ((nar .char (if (p1 &&& (63 : Int32)) < (26 : Int32) then (nar .char (((65 : Int32) + (p1 &&& (63 : Int32))).toUInt32.toUInt16.toUInt32.toInt32)) else (if (p1 &&& (63 : Int32)) < (52 : Int32) then (nar .char (((97 : Int32) + ((p1 &&& (63 : Int32)) - (26 : Int32))).toUInt32.toUInt16.toUInt32.toInt32)) else (if (p1 &&& (63 : Int32)) < (62 : Int32) then (nar .char (((48 : Int32) + ((p1 &&& (63 : Int32)) - (52 : Int32))).toUInt32.toUInt16.toUInt32.toInt32)) else (if (p1 &&& (63 : Int32)) = (62 : Int32) then (45 : Int32) else (95 : Int32)))))).toInt8.toInt32)) &&& (255 : Int32)).toUInt32.toUInt16.toUInt32.toInt32))) = (45 : Int32) then (1 : Int32) else (0 : Int32)) else (if (57 : Int32) < (nar .char (nar .char (((nar .byte ((nar .char (if (p1 &&& (63 : Int32)) < (26 : Int32) then (nar .char (((65 : Int32) + (p1 &&& (63 : Int32))).toUInt32.toUInt16.toUInt32.toInt32)) else (if (p1 &&& (63 : Int32)) < (52 : Int32) then (nar .char (((97 : Int32) + ((p1 &&& (63 : Int32)) - (26 : Int32))).toUInt32.toUInt16.toUInt32.toInt32)) else (if (p1 &&& (63 : Int32)) < (62 : Int32) then (nar .char (((48 : Int32) + ((p1 &&& (63 : Int32)) - (52 : Int32))).toUInt32.toUInt16.toUInt32.toInt32)) else (if (p1 &&& (63 : Int32)) = (62 : Int32) then (45 : Int32) else (95 : Int32)))))).toInt8.toInt32)) &&& (255 : Int32)).toUInt32.toUInt16.toUInt32.toInt32))) then (0 : Int32) else (1 : Int32))) else (if (90 : Int32) < (nar .char (nar .char (((nar .byte ((nar .char (if (p1 &&& (63 : Int32)) < (26 : Int32) then (nar .char (((65 : Int32) + (p1 &&& (63 : Int32))).toUInt32.toUInt16.toUInt32.toInt32)) else (if (p1 &&& (63 : Int32)) < (52 : Int32) then (nar .char (((97 : Int32) + ((p1 &&& (63 : Int32)) - (26 : Int32))).toUInt32.toUInt16.toUInt32.toInt32)) else (if (p1 &&& (63 : Int32)) < (62 : Int32) then (nar .char (((48 : Int32) + ((p1 &&& (63 : Int32)) - (52 : Int32))).toUInt32.toUInt16.toUInt32.toInt32)) else (if (p1 &&& (63 : Int32)) = (62 : Int32) then (45 : Int32) else (95 : Int32)))))).toInt8.toInt32)) &&& (255 : Int32)).toUInt32.toUInt16.toUInt32.toInt32))) then (if (nar .char (nar .char (((nar .byte ((nar .char (if (p1 &&& (63 : Int32)) < (26 : Int32) then (nar .char (((65 : Int32) + (p1 &&& (63 : Int32))).toUInt32.toUInt16.toUInt32.toInt32)) else (if (p1 &&& (63 : Int32)) < (52 : Int32) then (nar .char (((97 : Int32) + ((p1 &&& (63 : Int32)) - (26 : Int32))).toUInt32.toUInt16.toUInt32.toInt32)) else (if (p1 &&& (63 : Int32)) < (62 : Int32) then (nar .char (((48 : Int32) + ((p1 &&& (63 : Int32)) - (52 : Int32))).toUInt32.toUInt16.toUInt32.toInt32)) else (if (p1 &&& (63 : Int32)) = (62 : Int32) then (45 : Int32) else (95 : Int32)))))).toInt8.toInt32)) &&& (255 : Int32)).toUInt32.toUInt16.toUInt32.toInt32))) < (97 : Int32) then (if (nar .char (nar .char (((nar .byte ((nar .char (if (p1 &&& (63 : Int32)) < (26 : Int32) then (nar .char (((65 : Int32) + (p1 &&& (63 : Int32))).toUInt32.toUInt16.toUInt32.toInt32)) else (if (p1 &&& (63 : Int32)) < (52 : Int32) then (nar .char (((97 : Int32) + ((p1 &&& (63 : Int32)) - (26 : Int32))).toUInt32.toUInt16.toUInt32.toInt32)) else (if (p1 &&& (63 : Int32)) < (62 : Int32) then (nar .char (((48 : Int32) + ((p1 &&& (63 : Int32)) - (52 : Int32))).toUInt32.toUInt16.toUInt32.toInt32)) else (if (p1 &&& (63 : Int32)) = (62 : Int32) then (45 : Int32) else (95 : Int32)))))).toInt8.toInt32)) &&& (255 : Int32)).toUInt32.toUInt16.toUInt32.toInt32))) = (95 : Int32) then (1 : Int32) else (0 : Int32)) else (1 : Int32)) else (1 : Int32))) = (0 : Int32)) := (by have h : ∀ n : Fin 64, ¬ ((if (nar .char (nar .char (((nar .byte ((nar .char (if (Int32.ofInt (n.val : Int)) < (26 : Int32) then (nar .char (((65 : Int32) + (Int32.ofInt (n.val : Int))).toUInt32.toUInt16.toUInt32.toInt32)) else (if (Int32.ofInt (n.val : Int)) < (52 : Int32) then (nar .char (((97 : Int32) + ((Int32.ofInt (n.val : Int)) - (26 : Int32))).toUInt32.toUInt16.toUInt32.toInt32)) else (if (Int32.ofInt (n.val : Int)) < (62 : Int32) then (nar .char (((48 : Int32) + ((Int32.ofInt (n.val : Int)) - (52 : Int32))).toUInt32.toUInt16.toUInt32.toInt32)) else (if (Int32.ofInt (n.val : Int)) = (62 : Int32) then (45 : Int32) else (95 : Int32)))))).toInt8.toInt32)) &&& (255 : Int32)).toUInt32.toUInt16.toUInt32.toInt32))) < (65 : Int32) then (if (nar .char (nar .char (((nar .byte ((nar .char (if (Int32.ofInt (n.val : Int)) < (26 : Int32) then (nar .char (((65 : Int32) + (Int32.ofInt (n.val : Int))).toUInt32.toUInt16.toUInt32.toInt32)) else (if (Int32.ofInt (n.val : Int)) < (52 : Int32) then (nar .char (((97 : Int32) + ((Int32.ofInt (n.val : Int)) - (26 : Int32))).toUInt32.toUInt16.toUInt32.toInt32)) else (if (Int32.ofInt (n.val : Int)) < (62 : Int32) then (nar .char (((48 : Int32) + ((Int32.ofInt (n.val : Int)) - (52 : Int32))).toUInt32.toUInt16.toUInt32.toInt32)) else (if (Int32.ofInt (n.val : Int)) = (62 : Int32) then (45 : Int32) else (95 : Int32)))))).toInt8.toInt32)) &&& (255 : Int32)).toUInt32.toUInt16.toUInt32.toInt32))) < (48 : Int32) then (if (nar .char (nar .char (((nar .byte ((nar .char (if (Int32.ofInt (n.val : Int)) < (26 : Int32) then (nar .char (((65 : Int32) + (Int32.ofInt (n.val : Int))).toUInt32.toUInt16.toUInt32.toInt32)) else (if (Int32.ofInt (n.val : Int)) < (52 : Int32) then (nar .char (((97 : Int32) + ((Int32.ofInt (n.val : Int)) - (26 : Int32))).toUInt32.toUInt16.toUInt32.toInt32)) else (if (Int32.ofInt (n.val : Int)) < (62 : Int32) then (nar .char (((48 : Int32) + ((Int32.ofInt (n.val : Int)) - (52 : Int32))).toUInt32.toUInt16.toUInt32.toInt32)) else (if (Int32.ofInt (n.val : Int)) = (62 : Int32) then (45 : Int32) else (95 : Int32)))))).toInt8.toInt32)) &&& (255 : Int32)).toUInt32.toUInt16.toUInt32.toInt32))) = (45 : Int32) then (1 : Int32) else (0 : Int32)) else (if (57 : Int32) < (nar .char (nar .char (((nar .byte ((nar .char (if (Int32.ofInt (n.val : Int)) < (26 : Int32) then (nar .char (((65 : Int32) + (Int32.ofInt (n.val : Int))).toUInt32.toUInt16.toUInt32.toInt32)) else (if (Int32.ofInt (n.val : Int)) < (52 : Int32) then (nar .char (((97 : Int32) + ((Int32.ofInt (n.val : Int)) - (26 : Int32))).toUInt32.toUInt16.toUInt32.toInt32)) else (if (Int32.ofInt (n.val : Int)) < (62 : Int32) then (nar .char (((48 : Int32) + ((Int32.ofInt (n.val : Int)) - (52 : Int32))).toUInt32.toUInt16.toUInt32.toInt32)) else (if (Int32.ofInt (n.val : Int)) = (62 : Int32) then (45 : Int32) else (95 : Int32)))))).toInt8.toInt32)) &&& (255 : Int32)).toUInt32.toUInt16.toUInt32.toInt32))) then (0 : Int32) else (1 : Int32))) else (if (90 : Int32) < (nar .char (nar .char (((nar .byte ((nar .char (if (Int32.ofInt (n.val : Int)) < (26 : Int32) then (nar .char (((65 : Int32) + (Int32.ofInt (n.val : Int))).toUInt32.toUInt16.toUInt32.toInt32)) else (if (Int32.ofInt (n.val : Int)) < (52 : Int32) then (nar .char (((97 : Int32) + ((Int32.ofInt (n.val : Int)) - (26 : Int32))).toUInt32.toUInt16.toUInt32.toInt32)) else (if (Int32.ofInt (n.val : Int)) < (62 : Int32) then (nar .char (((48 : Int32) + ((Int32.ofInt (n.val : Int)) - (52 : Int32))).toUInt32.toUInt16.toUInt32.toInt32)) else (if (Int32.ofInt (n.val : Int)) = (62 : Int32) then (45 : Int32) else (95 : Int32)))))).toInt8.toInt32)) &&& (255 : Int32)).toUInt32.toUInt16.toUInt32.toInt32))) then (if (nar .char (nar .char (((nar .byte ((nar .char (if (Int32.ofInt (n.val : Int)) < (26 : Int32) then (nar .char (((65 : Int32) + (Int32.ofInt (n.val : Int))).toUInt32.toUInt16.toUInt32.toInt32)) else (if (Int32.ofInt (n.val : Int)) < (52 : Int32) then (nar .char (((97 : Int32) + ((Int32.ofInt (n.val : Int)) - (26 : Int32))).toUInt32.toUInt16.toUInt32.toInt32)) else (if (Int32.ofInt (n.val : Int)) < (62 : Int32) then (nar .char (((48 : Int32) + ((Int32.ofInt (n.val : Int)) - (52 : Int32))).toUInt32.toUInt16.toUInt32.toInt32)) else (if (Int32.ofInt (n.val : Int)) = (62 : Int32) then (45 : Int32) else (95 : Int32)))))).toInt8.toInt32)) &&& (255 : Int32)).toUInt32.toUInt16.toUInt32.toInt32))) < (97 : Int32) then (if (nar .char (nar .char (((nar .byte ((nar .char (if (Int32.ofInt (n.val : Int)) < (26 : Int32) then (nar .char (((65 : Int32) + (Int32.ofInt (n.val : Int))).toUInt32.toUInt16.toUInt32.toInt32)) else (if (Int32.ofInt (n.val : Int)) < (52 : Int32) then (nar .char (((97 : Int32) + ((Int32.ofInt (n.val : Int)) - (26 : Int32))).toUInt32.toUInt16.toUInt32.toInt32)) else (if (Int32.ofInt (n.val : Int)) < (62 : Int32) then (nar .char (((48 : Int32) + ((Int32.ofInt (n.val : Int)) - (52 : Int32))).toUInt32.toUInt16.toUInt32.toInt32)) else (if (Int32.ofInt (n.val : Int)) = (62 : Int32) then (45 : Int32) else (95 : Int32)))))).toInt8.toInt32)) &&& (255 : Int32)).toUInt32.toUInt16.toUInt32.toInt32))) = (95 : Int32) then (1 : Int32) else (0 : Int32)) else (1 : Int32)) else (1 : Int32))) = (0 : Int32)) := (by decide +kernel); obtain ⟨n, hn⟩ := own_fin64 p1; rw [hn]; exact h n)
  have cd26 : ¬ ((122 : Int32) < (nar .char (nar .char (((nar .byte ((nar .char (if (p2 &&& (63 : Int32)) < (26 : Int32) then (nar .char (((65 : Int32) + (p2 &&& (63 : Int32))).toUInt32.toUInt16.toUInt32.toInt32)) else (if (p2 &&& (63 : Int32)) < (52 : Int32) then (nar .char (((97 : Int32) + ((p2 &&& (63 : Int32)) - (26 : Int32))).toUInt32.toUInt16.toUInt32.toInt32)) else (if (p2 &&& (63 : Int32)) < (62 : Int32) then (nar .char (((48 : Int32) + ((p2 &&& (63 : Int32)) - (52 : Int32))).toUInt32.toUInt16.toUInt32.toInt32)) else (if (p2 &&& (63 : Int32)) = (62 : Int32) then (45 : Int32) else (95 : Int32)))))).toInt8.toInt32)) &&& (255 : Int32)).toUInt32.toUInt16.toUInt32.toInt32)))) := (by have h : ∀ n : Fin 64, ¬ ((122 : Int32) < (nar .char (nar .char (((nar .byte ((nar .char (if (Int32.ofInt (n.val : Int)) < (26 : Int32) then (nar .char (((65 : Int32) + (Int32.ofInt (n.val : Int))).toUInt32.toUInt16.toUInt32.toInt32)) else (if (Int32.ofInt (n.val : Int)) < (52 : Int32) then (nar .char (((97 : Int32) + ((Int32.ofInt (n.val : Int)) - (26 : Int32))).toUInt32.toUInt16.toUInt32.toInt32)) else (if (Int32.ofInt (n.val : Int)) < (62 : Int32) then (nar .char (((48 : Int32) + ((Int32.ofInt (n.val : Int)) - (52 : Int32))).toUInt32.toUInt16.toUInt32.toInt32)) else (if (Int32.ofInt (n.val : Int)) = (62 : Int32) then (45 : Int32) else (95 : Int32)))))).toInt8.toInt32)) &&& (255 : Int32)).toUInt32.toUInt16.toUInt32.toInt32)))) := (by decide +kernel); obtain ⟨n, hn⟩ := own_fin64 p2; rw [hn]; exact h n)
  have cd27 : ¬ ((if (nar .char (nar .char (((nar .byte ((nar .char (if (p2 &&& (63 : Int32)) < (26 : Int32) then (nar .char (((65 : Int32) + (p2 &&& (63 : Int32))).toUInt32.toUInt16.toUInt32.toInt32)) else (if (p2 &&& (63 : Int32)) < (52 : Int32) then (nar .char (((97 : Int32) + ((p2 &&& (63 : Int32)) - (26 : Int32))).toUInt32.toUInt16.toUInt32.toInt32)) else (if (p2 &&& (63 : Int32)) < (62 : Int32) then (nar .char (((48 : Int32) + ((p2 &&& (63 : Int32)) - (52 : Int32))).toUInt32.toUInt16.toUInt32.toInt32)) else (if (p2 &&& (63 : Int32)) = (62 : Int32) then (45 : Int32) else (95 : Int32)))))).toInt8.toInt32)) &&& (255 : Int32)).toUInt32.toUInt16.toUInt32.toInt32))) < (65 : Int32) then (if (nar .char (nar .char (((nar .byte ((nar .char (if (p2 &&& (63 : Int32)) < (26 : Int32) then (nar .char (((65 : Int32) + (p2 &&& (63 : Int32))).toUInt32.toUInt16.toUInt32.toInt32)) else (if (p2 &&& (63 : Int32)) < (52 : Int32) then (nar .char (((97 : Int32) + ((p2 &&& (63 : Int32)) - (26 : Int32))).toUInt32.toUInt16.toUInt32.toInt32)) else (if (p2 &&& (63 : Int32)) < (62 : Int32) then (nar .char (((48 : Int32) + ((p2 &&& (63 : Int32)) - (52 : Int32))).toUInt32.toUInt16.toUInt32.toInt32)) else (if (p2 &&& (63 : Int32)) = (62 : Int32) then (45 : Int32) else (95 : Int32)))))).toInt8.toInt32)) &&& (255 : Int32)).toUInt32.toUInt16.toUInt32.toInt32))) < (48 : Int32) then (if (nar .char (nar .char (((nar .byte ((nar .char (if (p2 &&& (63 : Int32)) < (26 : Int32) then (nar .char (((65 : Int32) + (p2 &&& (63 : Int32))).toUInt32.toUInt16.toUInt32.toInt32)) else (if (p2 &&& (63 : Int32)) < (52 : Int32) then (nar .char (((97 : Int32) + ((p2 &&& (63 : Int32)) - (26 : Int32))).toUInt32.toUInt16.toUInt32.toInt32)) else (if (p2 &&& (63 : Int32)) < (62 : Int32) then (nar .char (((48 : Int32) + ((p2 &&& (63 : Int32)) - (52 : Int32))).toUInt32.toUInt16.toUInt32.toInt32)) else (if (p2 &&& (63 : Int32)) = (62 : Int32) then (45 : Int32) else (95 : Int32)))))).toInt8.toInt32)) &&& (255 : Int32)).toUInt32.toUInt16.toUInt32.toInt32))) = (45 : Int32) then (1 : Int32) else (0 : Int32)) else (if (57 : Int32) < (nar .char (nar .char (((nar .byte ((nar .char (if (p2 &&& (63 : Int32)) < (26 : Int32) then (nar .char (((65 : Int32) + (p2 &&& (63 : Int32))).toUInt32.toUInt16.toUInt32.toInt32)) else (if (p2 &&& (63 : Int32)) < (52 : Int32) then (nar .char (((97 : Int32) + ((p2 &&& (63 : Int32)) - (26 : Int32))).toUInt32.toUInt16.toUInt32.toInt32)) else (if (p2 &&& (63 : Int32)) < (62 : Int32) then (nar .char (((48 : Int32) + ((p2 &&& (63 : Int32)) - (52 : Int32))).toUInt32.toUInt16.toUInt32.toInt32)) else (if (p2 &&& (63 : Int32)) = (62 : Int32) then (45 : Int32) else (95 : Int32)))))).toInt8.toInt32)) &&& (255 : Int32)).toUInt32.toUInt16.toUInt32.toInt32))) then (0 : Int32) else (1 : Int32))) else (if (90 : Int32) < (nar .char (nar .char (((nar .byte ((nar .char (if (p2 &&& (63 : Int32)) < (26 : Int32) then (nar .char (((65 : Int32) + (p2 &&& (63 : Int32))).toUInt32.toUInt16.toUInt32.toInt32)) else (if (p2 &&& (63 : Int32)) < (52 : Int32) then (nar .char (((97 : Int32) + ((p2 &&& (63 : Int32)) - (26 : Int32))).toUInt32.toUInt16.toUInt32.toInt32)) else (if (p2 &&& (63 : Int32)) < (62 : Int32) then (nar .char (((48 : Int32) + ((p2 &&& (63 : Int32)) - (52 : Int32))).toUInt32.toUInt16.toUInt32.toInt32)) else (if (p2 &&& (63 : Int32)) = (62 : Int32) then (45 : Int32) else (95 : Int32)))))).toInt8.toInt32)) &&& (255 : Int32)).toUInt32.toUInt16.toUInt32.toInt32))) then (if (nar .char (nar .char (((nar .byte ((nar .char (if (p2 &&& (63 : Int32)) < (26 : Int32) then (nar .char (((65 : Int32) + (p2 &&& (63 : Int32))).toUInt32.toUInt16.toUInt32.toInt32)) else (if (p2 &&& (63 : Int32)) < (52 : Int32) then (nar .char (((97 : Int32) + ((p2 &&& (63 : Int32)) - (26 : Int32))).toUInt32.toUInt16.toUInt32.toInt32)) else (if (p2 &&& (63 : Int32)) < (62 : Int32) then (nar .char (((48 : Int32) + ((p2 &&& (63 : Int32)) - (52 : Int32))).toUInt32.toUInt16.toUInt32.toInt32)) else (if (p2 &&& (63 : Int32)) = (62 : Int32) then (45 : Int32) else (95 : Int32)))))).toInt8.toInt32)) &&& (255 : Int32)).toUInt32.toUInt16.toUInt32.toInt32))) < (97 : Int32) then (if (nar .char (nar .char (((nar .byte ((nar .char (if (p2 &&& (63 : Int32)) < (26 : Int32) then (nar .char (((65 : Int32) + (p2 &&& (63 : Int32))).toUInt32.toUInt16.toUInt32.toInt32)) else (if (p2 &&& (63 : Int32)) < (52 : Int32) then (nar .char (((97 : Int32) + ((p2 &&& (63 : Int32)) - (26 : Int32))).toUInt32.toUInt16.toUInt32.toInt32)) else (if (p2 &&& (63 : Int32)) < (62 : Int32) then (nar .char (((48 : Int32) + ((p2 &&& (63 : Int32)) - (52 : Int32))).toUInt32.toUInt16.toUInt32.toInt32)) else (if (p2 &&& (63 : Int32)) = (62 : Int32) then (45 : Int32) else (95 : Int32)))))).toInt8.toInt32)) &&& (255 : Int32)).toUInt32.toUInt16.toUInt32.toInt32))) = (95 : Int32) then (1 : Int32) else (0 : Int32)) else (1 : Int32)) else (1 : Int32))) = (0 : Int32)) := (by have h : ∀ n : Fin 64, ¬ ((if (nar .char (nar .char (((nar .byte ((nar .char (if (Int32.ofInt (n.val : Int)) < (26 : Int32) then (nar .char (((65 : Int32) + (Int32.ofInt (n.val : Int))).toUInt32.toUInt16.toUInt32.toInt32)) else (if (Int32.ofInt (n.val : Int)) < (52 : Int32) then (nar .char (((97 : Int32) + ((Int32.ofInt (n.val : Int)) - (26 : Int32))).toUInt32.toUInt16.toUInt32.toInt32)) else (if (Int32.ofInt (n.val : Int)) < (62 : Int32) then (nar .char (((48 : Int32) + ((Int32.ofInt (n.val : Int)) - (52 : Int32))).toUInt32.toUInt16.toUInt32.toInt32)) else (if (Int32.ofInt (n.val : Int)) = (62 : Int32) then (45 : Int32) else (95 : Int32)))))).toInt8.toInt32)) &&& (255 : Int32)).toUInt32.toUInt16.toUInt32.toInt32))) < (65 : Int32) then (if (nar .char (nar .char (((nar .byte ((nar .char (if (Int32.ofInt (n.val : Int)) < (26 : Int32) then (nar .char (((65 : Int32) + (Int32.ofInt (n.val : Int))).toUInt32.toUInt16.toUInt32.toInt32)) else (if (Int32.ofInt (n.val : Int)) < (52 : Int32) then (nar .char (((97 : Int32) + ((Int32.ofInt (n.val : Int)) - (26 : Int32))).toUInt32.toUInt16.toUInt32.toInt32)) else (if (Int32.ofInt (n.val : Int)) < (62 : Int32) then (nar .char (((48 : Int32) + ((Int32.ofInt (n.val : Int)) - (52 : Int32))).toUInt32.toUInt16.toUInt32.toInt32)) else (if (Int32.ofInt (n.val : Int)) = (62 : Int32) then (45 : Int32) else (95 : Int32)))))).toInt8.toInt32)) &&& (255 : Int32)).toUInt32.toUInt16.toUInt32.toInt32))) < (48 : Int32) then (if (nar .char (nar .char (((nar .byte ((nar .char (if (Int32.ofInt (n.val : Int)) < (26 : Int32) then (nar .char (((65 : Int32) + (Int32.ofInt (n.val : Int))).toUInt32.toUInt16.toUInt32.toInt32)) else (if (Int32.ofInt (n.val : Int)) < (52 : Int32) then (nar .char (((97 : Int32) + ((Int32.ofInt (n.val : Int)) - (26 : Int32))).toUInt32.toUInt16.toUInt32.toInt32)) else (if (Int32.ofInt (n.val : Int)) < (62 : Int32) then (nar .char (((48 : Int32) + ((Int32.ofInt (n.val : Int)) - (52 : Int32))).toUInt32.toUInt16.toUInt32.toInt32)) else (if (Int32.ofInt (n.val : Int)) = (62 : Int32) then (45 : Int32) else (95 : Int32)))))).toInt8.toInt32)) &&& (255 : Int32)).toUInt32.toUInt16.toUInt32.toInt32))) = (45 : Int32) then (1 : Int32) else (0 : Int32)) else (if (57 : Int32) < (nar .char (nar .char (((nar .byte ((nar .char (if (Int32.ofInt (n.val : Int)) < (26 : Int32) then (nar .char (((65 : Int32) + (Int32.ofInt (n.val : Int))).toUInt32.toUInt16.toUInt32.toInt32)) else (if (Int32.ofInt (n.val : Int)) < (52 : Int32) then (nar .char (((97 : Int32) + ((Int32.ofInt (n.val : Int)) - (26 : Int32))).toUInt32.toUInt16.toUInt32.toInt32)) else (if (Int32.ofInt (n.val : Int)) < (62 : Int32) then (nar .char (((48 : Int32) + ((Int32.ofInt (n.val : Int)) - (52 : Int32))).toUInt32.toUInt16.toUInt32.toInt32)) else (if (Int32.ofInt (n.val : Int)) = (62 : Int32) then (45 : Int32) else (95 : Int32)))))).toInt8.toInt32)) &&& (255 : Int32)).toUInt32.toUInt16.toUInt32.toInt32))) then (0 : Int32) else (1 : Int32))) else (if (90 : Int32) < (nar .char (nar .char (((nar .byte ((nar .char (if (Int32.ofInt (n.val : Int)) < (26 : Int32) then (nar .char (((65 : Int32) + (Int32.ofInt (n.val : Int))).toUInt32.toUInt16.toUInt32.toInt32)) else (if (Int32.ofInt (n.val : Int)) < (52 : Int32) then (nar .char (((97 : Int32) + ((Int32.ofInt (n.val : Int)) - (26 : Int32))).toUInt32.toUInt16.toUInt32.toInt32)) else (if (Int32.ofInt (n.val : Int)) < (62 : Int32) then (nar .char (((48 : Int32) + ((Int32.ofInt (n.val : Int)) - (52 : Int32))).toUInt32.toUInt16.toUInt32.toInt32)) else (if (Int32.ofInt (n.val : Int)) = (62 : Int32) then (45 : Int32) else (95 : Int32)))))).toInt8.toInt32)) &&& (255 : Int32)).toUInt32.toUInt16.toUInt32.toInt32))) then (if (nar .char (nar .char (((nar .byte ((nar .char (if (Int32.ofInt (n.val : Int)) < (26 : Int32) then (nar .char (((65 : Int32) + (Int32.ofInt (n.val : Int))).toUInt32.toUInt16.toUInt32.toInt32)) else (if (Int32.ofInt (n.val : Int)) < (52 : Int32) then (nar .char (((97 : Int32) + ((Int32.ofInt (n.val : Int)) - (26 : Int32))).toUInt32.toUInt16.toUInt32.toInt32)) else (if (Int32.ofInt (n.val : Int)) < (62 : Int32) then (nar .char (((48 : Int32) + ((Int32.ofInt (n.val : Int)) - (52 : Int32))).toUInt32.toUInt16.toUInt32.toInt32)) else (if (Int32.ofInt (n.val : Int)) = (62 : Int32) then (45 : Int32) else (95 : Int32)))))).toInt8.toInt32)) &&& (255 : Int32)).toUInt32.toUInt16.toUInt32.toInt32))) < (97 : Int32) then (if (nar .char (nar .char (((nar .byte ((nar .char (if (Int32.ofInt (n.val : Int)) < (26 : Int32) then (nar .char (((65 : Int32) + (Int32.ofInt (n.val : Int))).toUInt32.toUInt16.toUInt32.toInt32)) else (if (Int32.ofInt (n.val : Int)) < (52 : Int32) then (nar .char (((97 : Int32) + ((Int32.ofInt (n.val : Int)) - (26 : Int32))).toUInt32.toUInt16.toUInt32.toInt32)) else (if (Int32.ofInt (n.val : Int)) < (62 : Int32) then (nar .char (((48 : Int32) + ((Int32.ofInt (n.val : Int)) - (52 : Int32))).toUInt32.toUInt16.toUInt32.toInt32)) else (if (Int32.ofInt (n.val : Int)) = (62 : Int32) then (45 : Int32) else (95 : Int32)))))).toInt8.toInt32)) &&& (255 : Int32)).toUInt32.toUInt16.toUInt32.toInt32))) = (95 : Int32) then (1 : Int32) else (0 : Int32)) else (1 : Int32)) else (1 : Int32))) = (0 : Int32)) := (by decide +kernel); obtain ⟨n, hn⟩ := own_fin64 p2; rw [hn]; exact h n)
  have z7 := Nat.le_trans Z0 (Nat.le_trans (Nat.le_trans (Nat.le_trans (Nat.le_trans (Nat.le_trans (Nat.le_trans s0 s1) s2) s3) s4) s5) s6)
  obtain ⟨_, T28, L28, X28, hQ28, st28⟩ := own_callS X19 hx hZ hown (y := y_16) (w_34 hw) (w_35 hw) (w_36 hw) (w_37 hw) (rm33 l Z a0 hw [] b12 b16_b2_b3_b1 (nar .byte ((nar .char x3).toInt8.toInt32)) (nar .byte ((nar .char x8).toInt8.toInt32)) k16_k2_k3_k1 si2 sr1 T19.heap n0 z7 Ex20 Fl21 Va22 S5_COMPACT_STRINGS Od7 nc3 Fl23 R_sr1 S4_SIOOBE_FORMATTER (by rw [ex3]; exact cd24) (by rw [ex3]; exact cd25) (by rw [ex8]; exact cd26) (by rw [ex8]; exact cd27)) rfl (Ls := #[.val (.int p1), .val (.int p2), .val (.int p3), .val (.int p4), .val (.int (1 : Int32)), .val (.ref b12), .val (.ref b17), .val (.int (2 : Int32)), .val (.ref b1)]) (by rw [hml]; rfl) (argsL := [(.ref b12)]) (rest := []) (lenOf pd_14 rfl) (hb hby at_94) (W := 0)
  obtain ⟨b28_b6, rfl, Nq28, K28, o28_0, o28_1, o28_2⟩ := hQ28
  have N28 := Fr.app N19 Nq28
  have s7 := K28.1
  have Ex29 := (o19_0.keep K28)
  have Fl30 := (o19_2.keep K28 nin0)
  have Va31 := (o19_5.keep K28 nin0)
  have Od8 : Old Z n0 T28.heap := Od7.keep K28 all0
  have Fl32 := (o19_1.keep K28 nin0)
  have z8 := Nat.le_trans Z0 (Nat.le_trans (Nat.le_trans (Nat.le_trans (Nat.le_trans (Nat.le_trans (Nat.le_trans (Nat.le_trans s0 s1) s2) s3) s4) s5) s6) s7)
  obtain ⟨_, T33, L33, X33, hQ33, st33⟩ := own_callS X28 hx hZ hown (y := y_16) (w_34 hw) (w_35 hw) (w_36 hw) (w_37 hw) (rm33 l Z a0 hw [] b17 b19_b2_b3_b1 (nar .byte ((nar .char x3).toInt8.toInt32)) (nar .byte ((nar .char x8).toInt8.toInt32)) k19_k2_k3_k1 si2 sr1 T28.heap n0 z8 Ex29 Fl30 Va31 S5_COMPACT_STRINGS Od8 nc3 Fl32 R_sr1 S4_SIOOBE_FORMATTER (by rw [ex3]; exact cd24) (by rw [ex3]; exact cd25) (by rw [ex8]; exact cd26) (by rw [ex8]; exact cd27)) rfl (Ls := #[.val (.int p1), .val (.int p2), .val (.int p3), .val (.int p4), .val (.int (1 : Int32)), .val (.ref b12), .val (.ref b17), .val (.ref b28_b6), .val (.ref b1)]) (by rw [hml]; rfl) (argsL := [(.ref b17)]) (rest := []) (lenOf pd_14 rfl) (hb hby at_101) (W := 0)
  obtain ⟨b33_b6, rfl, Nq33, K33, o33_0, o33_1, o33_2⟩ := hQ33
  have N33 := Fr.app N28 Nq33
  have s8 := K33.1
  have Ex34 := (o28_1.keep K33)
  have Fl35 := (o28_2.keep K33 nin0)
  have z9 := Nat.le_trans Z0 (Nat.le_trans (Nat.le_trans (Nat.le_trans (Nat.le_trans (Nat.le_trans (Nat.le_trans (Nat.le_trans (Nat.le_trans s0 s1) s2) s3) s4) s5) s6) s7) s8)
  obtain ⟨_, T36, L36, X36, hQ36, st36⟩ := own_virtual X33 hx hZ hown (y := y_17) (z := y_17) Ex34 (w_86 hw) (w_87 hw) (notFace_of_selects (args := #[]) (mvT hZ (w_89 hw))) (w_89 hw) (w_88 hw) (w_36 hw) (w_90 hw) (rm21 l Z a0 hw [] b28_b6 b12 T33.heap n0 z9 Fl35) rfl (Ls := #[.val (.int p1), .val (.int p2), .val (.int p3), .val (.int p4), .val (.int (1 : Int32)), .val (.ref b12), .val (.ref b17), .val (.ref b28_b6), .val (.ref b33_b6)]) (by rw [hml]; rfl) (argsL := []) (rest := []) (lenOf pd_15 rfl) (hb hby at_113) (W := 0)
  obtain ⟨rfl, Nq36, e36⟩ := hQ36
  have N36 := Fr.app N33 Nq36
  have Ex37 := ((Ex20.keep K28).keep K33)
  obtain ⟨_, T38, L38, X38, hQ38, st38⟩ := own_virtual X36 hx hZ hown (y := y_18) (z := y_18) Ex37 (w_91 hw) (w_92 hw) (notFace_of_selects (args := #[]) (mvT hZ (w_94 hw))) (w_94 hw) (w_93 hw) (w_7 hw) (w_95 hw) (rm22 l Z a0 hw [] b12 T33.heap n0 z9) e36 (Ls := #[.val (.int p1), .val (.int p2), .val (.int p3), .val (.int p4), .val (.int (1 : Int32)), .val (.ref b12), .val (.ref b17), .val (.ref b28_b6), .val (.ref b33_b6)]) (by rw [hml]; rfl) (argsL := [(.ref b12)]) (rest := []) (lenOf pd_16 rfl) (hb hby at_118) (W := 0)
  obtain ⟨rfl, Nq38, e38⟩ := hQ38
  have N38 := Fr.app N36 Nq38
  obtain ⟨_, T39, L39, X39, hQ39, st39⟩ := own_virtual X38 hx hZ hown (y := y_17) (z := y_17) Ex34 (w_86 hw) (w_87 hw) (notFace_of_selects (args := #[]) (mvT hZ (w_89 hw))) (w_89 hw) (w_88 hw) (w_36 hw) (w_90 hw) (rm21 l Z a0 hw [] b28_b6 b12 T33.heap n0 z9 Fl35) e38 (Ls := #[.val (.int p1), .val (.int p2), .val (.int p3), .val (.int p4), .val (.int (1 : Int32)), .val (.ref b12), .val (.ref b17), .val (.ref b28_b6), .val (.ref b33_b6)]) (by rw [hml]; rfl) (argsL := []) (rest := []) (lenOf pd_15 rfl) (hb hby at_126) (W := 0)
  obtain ⟨rfl, Nq39, e39⟩ := hQ39
  have N39 := Fr.app N38 Nq39
  have Fl40 := ((Fl21.keep K28 nin0).keep K33 nin0)
  have Va41 := ((Va22.keep K28 nin0).keep K33 nin0)
  have Od9 : Old Z n0 T33.heap := Od8.keep K33 all0
  have Fl42 := ((Fl23.keep K28 nin0).keep K33 nin0)
  obtain ⟨_, T43, L43, X43, hQ43, st43⟩ := own_virtual X39 hx hZ hown (y := y_8) (z := y_8) Ex37 (w_96 hw) (w_44 hw) (notFace_of_selects (args := #[]) (mvT hZ (w_46 hw))) (w_46 hw) (w_45 hw) (w_7 hw) (w_47 hw) (rm32 l Z a0 hw [] b12 b16_b2_b3_b1 (nar .byte ((nar .char x3).toInt8.toInt32)) (nar .byte ((nar .char x8).toInt8.toInt32)) k16_k2_k3_k1 si2 T33.heap n0 z9 Fl40 Va41 Ex37 S5_COMPACT_STRINGS Od9 nc3 Fl42) e39 (Ls := #[.val (.int p1), .val (.int p2), .val (.int p3), .val (.int p4), .val (.int (1 : Int32)), .val (.ref b12), .val (.ref b17), .val (.ref b28_b6), .val (.ref b33_b6)]) (by rw [hml]; rfl) (argsL := []) (rest := []) (lenOf pd_8 rfl) (hb hby at_129) (W := 0)
  obtain ⟨rfl, Nq43, e43⟩ := hQ43
  have N43 := Fr.app N39 Nq43
  obtain ⟨_, T44, L44, X44, hQ44, st44⟩ := own_virtual X43 hx hZ hown (y := y_8) (z := y_8) Ex37 (w_96 hw) (w_44 hw) (notFace_of_selects (args := #[]) (mvT hZ (w_46 hw))) (w_46 hw) (w_45 hw) (w_7 hw) (w_47 hw) (rm32 l Z a0 hw [] b12 b16_b2_b3_b1 (nar .byte ((nar .char x3).toInt8.toInt32)) (nar .byte ((nar .char x8).toInt8.toInt32)) k16_k2_k3_k1 si2 T33.heap n0 z9 Fl40 Va41 Ex37 S5_COMPACT_STRINGS Od9 nc3 Fl42) e43 (Ls := #[.val (.int p1), .val (.int p2), .val (.int p3), .val (.int p4), .val (.int (1 : Int32)), .val (.ref b12), .val (.ref b17), .val (.ref b28_b6), .val (.ref b33_b6)]) (by rw [hml]; rfl) (argsL := []) (rest := [(.int (2 : Int32))]) (lenOf pd_8 rfl) (hb hby at_134) (W := 1)
  obtain ⟨rfl, Nq44, e44⟩ := hQ44
  have N44 := Fr.app N43 Nq44
  have Ex45 := (Ex29.keep K33)
  have Fl46 := (Fl32.keep K33 nin0)
  have Fl47 := (Fl30.keep K33 nin0)
  have Va48 := (Va31.keep K33 nin0)
  obtain ⟨_, T49, L49, X49, hQ49, st49⟩ := own_virtual X44 hx hZ hown (y := y_20) (z := y_20) Ex34 (w_97 hw) (w_98 hw) (notFace_of_selects (args := #[]) (mvT hZ (w_100 hw))) (w_100 hw) (w_99 hw) (w_36 hw) (w_101 hw) (rm36 l Z a0 hw [] b28_b6 b33_b6 b12 b17 si2 b16_b2_b3_b1 b19_b2_b3_b1 (nar .byte ((nar .char x3).toInt8.toInt32)) (nar .byte ((nar .char x8).toInt8.toInt32)) k16_k2_k3_k1 k19_k2_k3_k1 T33.heap n0 z9 o33_1 Fl35 o33_2 Ex37 ne_b12_b17 Ex45 S5_COMPACT_STRINGS Od9 nc3 Fl42 Fl46 Fl40 Fl47 Va41 Va48) e44 (Ls := #[.val (.int p1), .val (.int p2), .val (.int p3), .val (.int p4), .val (.int (1 : Int32)), .val (.ref b12), .val (.ref b17), .val (.ref b28_b6), .val (.ref b33_b6)]) (by rw [hml]; rfl) (argsL := [(.ref b33_b6)]) (rest := []) (lenOf pd_16 rfl) (hb hby at_144) (W := 0)
  obtain ⟨rfl, Nq49, e49⟩ := hQ49
  have N49 := Fr.app N44 Nq49
  refine ⟨T49, _, _, _, (some (.int (1 : Int32))), X49, nofun, by decide, by decide, ?_, fun fs hr => ?_⟩
  · show Q0 n0 _ T49.heap _
    rw [e49]
    subst ex8
    subst ex3
    exact ⟨rfl, N49⟩
  · show Steps p.tables e below (s₁.setTop (mkF m 0 #[.val (.int p1), .val (.int p2), .val (.int p3), .val (.int p4), .unset, .unset, .unset, .unset, .unset] [])) _
    refine XS.iloadN X0.here hx rfl (hb hby at_0) rfl ?_
    refine XS.iconst X0.here hx rfl (hb hby at_1) ?_
    refine XS.iand X0.here hx rfl (hb hby at_2) rfl ?_
    show Steps p.tables e below (s₁.setTop (mkF m 3 #[.val (.int p1), .val (.int p2), .val (.int p3), .val (.int p4), .unset, .unset, .unset, .unset, .unset] [(.int (p4 &&& (3 : Int32)))])) _
    rw [hk]
    refine XS.istore X0.here hx rfl (hb hby at_3) rfl (l' := #[.val (.int p1), .val (.int p2), .val (.int p3), .val (.int p4), .val (.int (1 : Int32)), .unset, .unset, .unset, .unset]) rfl ?_
    refine XS.iload X0.here hx rfl (hb hby at_5) rfl ?_
    refine XS.iconst X0.here hx rfl (hb hby at_7) ?_
    refine XS.icmpYes X0.here hx rfl (pc0 := 8) (pc' := 22) rfl (hb hby at_8) rfl (feq ((by decide : ¬ ((1 : Int32) = (3 : Int32))) : ¬ ((1 : Int32) = (3 : Int32)))).2 (by decide) (by decide) ?_
    refine XS.iload X0.here hx rfl (hb hby at_22) rfl ?_
    refine XS.iconst X0.here hx rfl (hb hby at_24) ?_
    refine XS.iadd X0.here hx rfl (hb hby at_25) rfl ?_
    refine XS.istore X0.here hx rfl (hb hby at_26) rfl (l' := #[.val (.int p1), .val (.int p2), .val (.int p3), .val (.int p4), .val (.int (1 : Int32)), .unset, .unset, .val (.int (2 : Int32)), .unset]) rfl ?_
    refine XS.iload X0.here hx rfl (hb hby at_28) rfl ?_
    refine st1 _ ?_
    refine XS.astore X1.here hx rfl (hb hby at_32) rfl rfl (l' := #[.val (.int p1), .val (.int p2), .val (.int p3), .val (.int p4), .val (.int (1 : Int32)), .unset, .unset, .val (.int (2 : Int32)), .val (.ref b1)]) rfl ?_
    show Steps p.tables e below (T1.setTop (mkF m 34 #[.val (.int p1), .val (.int p2), .val (.int p3), .val (.int p4), .val (.int (1 : Int32)), .unset, .unset, .val (.int (2 : Int32)), .val (.ref b1)] [])) _
    refine XS.aload X1.here hx rfl (hb hby at_34) rfl rfl ?_
    refine XS.iconst X1.here hx rfl (hb hby at_36) ?_
    refine XS.iloadN X1.here hx rfl (hb hby at_37) rfl ?_
    refine st2 _ ?_
    show Steps p.tables e below (T2.setTop (mkF m 41 #[.val (.int p1), .val (.int p2), .val (.int p3), .val (.int p4), .val (.int (1 : Int32)), .unset, .unset, .val (.int (2 : Int32)), .val (.ref b1)] [(.int (if (p1 &&& (63 : Int32)) < (26 : Int32) then (nar .char (((65 : Int32) + (p1 &&& (63 : Int32))).toUInt32.toUInt16.toUInt32.toInt32)) else (if (p1 &&& (63 : Int32)) < (52 : Int32) then (nar .char (((97 : Int32) + ((p1 &&& (63 : Int32)) - (26 : Int32))).toUInt32.toUInt16.toUInt32.toInt32)) else (if (p1 &&& (63 : Int32)) < (62 : Int32) then (nar .char (((48 : Int32) + ((p1 &&& (63 : Int32)) - (52 : Int32))).toUInt32.toUInt16.toUInt32.toInt32)) else (if (p1 &&& (63 : Int32)) = (62 : Int32) then (45 : Int32) else (95 : Int32)))))), (.int (0 : Int32)), (.ref b1)])) _
    rw [← ex3]
    refine st6 _ ?_
    refine XS.iload X6.here hx rfl (hb hby at_42) rfl ?_
    refine XS.iconst X6.here hx rfl (hb hby at_44) ?_
    refine XS.icmpNo X6.here hx rfl (hb hby at_45) rfl (tlt ((by decide : (1 : Int32) < (2 : Int32)) : (1 : Int32) < (2 : Int32))).2.2.2 ?_
    refine XS.aload X6.here hx rfl (hb hby at_48) rfl rfl ?_
    refine XS.iconst X6.here hx rfl (hb hby at_50) ?_
    refine XS.iloadN X6.here hx rfl (hb hby at_51) rfl ?_
    refine st7 _ ?_
    show Steps p.tables e below (T7.setTop (mkF m 55 #[.val (.int p1), .val (.int p2), .val (.int p3), .val (.int p4), .val (.int (1 : Int32)), .unset, .unset, .val (.int (2 : Int32)), .val (.ref b1)] [(.int (if (p2 &&& (63 : Int32)) < (26 : Int32) then (nar .char (((65 : Int32) + (p2 &&& (63 : Int32))).toUInt32.toUInt16.toUInt32.toInt32)) else (if (p2 &&& (63 : Int32)) < (52 : Int32) then (nar .char (((97 : Int32) + ((p2 &&& (63 : Int32)) - (26 : Int32))).toUInt32.toUInt16.toUInt32.toInt32)) else (if (p2 &&& (63 : Int32)) < (62 : Int32) then (nar .char (((48 : Int32) + ((p2 &&& (63 : Int32)) - (52 : Int32))).toUInt32.toUInt16.toUInt32.toInt32)) else (if (p2 &&& (63 : Int32)) = (62 : Int32) then (45 : Int32) else (95 : Int32)))))), (.int (1 : Int32)), (.ref b1)])) _
    rw [← ex8]
    refine st11 _ ?_
    refine XS.iload X11.here hx rfl (hb hby at_56) rfl ?_
    refine XS.iconst X11.here hx rfl (hb hby at_58) ?_
    refine XS.icmpYes X11.here hx rfl (pc0 := 59) (pc' := 70) rfl (hb hby at_59) rfl (flt ((by decide : ¬ ((2 : Int32) < (2 : Int32))) : ¬ ((2 : Int32) < (2 : Int32)))).2.2.2 (by decide) (by decide) ?_
    refine st12 _ ?_
    refine XS.dup X12.here hx rfl (hb hby at_73) rfl rfl ?_
    refine XS.aload X12.here hx rfl (hb hby at_74) rfl rfl ?_
    refine st16 _ ?_
    refine XS.astore X16.here hx rfl (hb hby at_79) rfl rfl (l' := #[.val (.int p1), .val (.int p2), .val (.int p3), .val (.int p4), .val (.int (1 : Int32)), .val (.ref b12), .unset, .val (.int (2 : Int32)), .val (.ref b1)]) rfl ?_
    refine st17 _ ?_
    refine XS.dup X17.here hx rfl (hb hby at_84) rfl rfl ?_
    show Steps p.tables e below (T17.setTop (mkF m 85 #[.val (.int p1), .val (.int p2), .val (.int p3), .val (.int p4), .val (.int (1 : Int32)), .val (.ref b12), .unset, .val (.int (2 : Int32)), .val (.ref b1)] [(.ref b17), (.ref b17)])) _
    refine XS.aload X17.here hx rfl (hb hby at_85) rfl rfl ?_
    refine st19 _ ?_
    refine XS.astore X19.here hx rfl (hb hby at_90) rfl rfl (l' := #[.val (.int p1), .val (.int p2), .val (.int p3), .val (.int p4), .val (.int (1 : Int32)), .val (.ref b12), .val (.ref b17), .val (.int (2 : Int32)), .val (.ref b1)]) rfl ?_
    refine XS.aload X19.here hx rfl (hb hby at_92) rfl rfl ?_
    refine st28 _ ?_
    refine XS.astore X28.here hx rfl (hb hby at_97) rfl rfl (l' := #[.val (.int p1), .val (.int p2), .val (.int p3), .val (.int p4), .val (.int (1 : Int32)), .val (.ref b12), .val (.ref b17), .val (.ref b28_b6), .val (.ref b1)]) rfl ?_
    refine XS.aload X28.here hx rfl (hb hby at_99) rfl rfl ?_
    refine st33 _ ?_
    refine XS.astore X33.here hx rfl (hb hby at_104) rfl rfl (l' := #[.val (.int p1), .val (.int p2), .val (.int p3), .val (.int p4), .val (.int (1 : Int32)), .val (.ref b12), .val (.ref b17), .val (.ref b28_b6), .val (.ref b33_b6)]) rfl ?_
    refine XS.aload X33.here hx rfl (hb hby at_106) rfl rfl ?_
    refine XS.ifnullNo X33.here hx rfl (hb hby at_108) rfl ?_
    refine XS.aload X33.here hx rfl (hb hby at_111) rfl rfl ?_
    show Steps p.tables e below (T33.setTop (mkF m 113 #[.val (.int p1), .val (.int p2), .val (.int p3), .val (.int p4), .val (.int (1 : Int32)), .val (.ref b12), .val (.ref b17), .val (.ref b28_b6), .val (.ref b33_b6)] [(.ref b28_b6)])) _
    refine st36 _ ?_
    refine XS.aload X36.here hx rfl (hb hby at_116) rfl rfl ?_
    refine st38 _ ?_
    refine XS.ifNo X38.here hx rfl (hb hby at_121) rfl ((if0 _ _).trans (feq ((by decide : ¬ ((1 : Int32) = (0 : Int32))) : ¬ ((1 : Int32) = (0 : Int32)))).1) ?_
    refine XS.aload X38.here hx rfl (hb hby at_124) rfl rfl ?_
    refine st39 _ ?_
    refine st43 _ ?_
    refine XS.aload X43.here hx rfl (hb hby at_132) rfl rfl ?_
    refine st44 _ ?_
    refine XS.icmpNo X44.here hx rfl (hb hby at_137) rfl (teq ((by decide : (2 : Int32) = (2 : Int32)) : (2 : Int32) = (2 : Int32))).2 ?_
    refine XS.aload X44.here hx rfl (hb hby at_140) rfl rfl ?_
    refine XS.aload X44.here hx rfl (hb hby at_142) rfl rfl ?_
    show Steps p.tables e below (T44.setTop (mkF m 144 #[.val (.int p1), .val (.int p2), .val (.int p3), .val (.int p4), .val (.int (1 : Int32)), .val (.ref b12), .val (.ref b17), .val (.ref b28_b6), .val (.ref b33_b6)] [(.ref b33_b6), (.ref b28_b6)])) _
    refine st49 _ ?_
    refine XS.ifNo X49.here hx rfl (hb hby at_147) rfl ((if0 _ _).trans (feq ((by decide : ¬ ((1 : Int32) = (0 : Int32))) : ¬ ((1 : Int32) = (0 : Int32)))).1) ?_
    refine XS.iconst X49.here hx rfl (hb hby at_150) ?_
    refine XS.goto X49.here hx rfl (pc0 := 151) (pc' := 155) rfl (hb hby at_151) (by decide) (by decide) ?_
    exact retN X49 hx (t := .boolean) hret (by simp) (hb hby at_155) hr
-- java/lang/StringUTF16.compress([CI[BII)I
abbrev Rm37 : Room := { frames := 0, cells := 0, slots := 0, locals := 0 }
def Q37 (Z : State) (a1 : Addr) (a2 : Addr) (i3 : Int32) (i4 : Int32) (i5 : Int32) (ck6 : ClassId) (ck8 : ClassId) (h0 : Heap) (n0 : Nat) (v : Option Value) (h : Heap) (L : List Loc) : Prop := v = some (.int (3 : Int32)) ∧ Fr n0 L ∧ Keep h0 h [a2] ∧ Exa Z h a2 "[B" ∧ Arv Z h a2 ck8 .byte (3 : Int32) [(.int (nar .byte (i3.toInt8.toInt32))), (.int (nar .byte (i4.toInt8.toInt32))), (.int (nar .byte (i5.toInt8.toInt32)))] (.int (0 : Int32))
theorem ef37 (a1 : Addr) (a2 : Addr) (m : MethodId) : entryFrame m #[(.ref a1), (.int (0 : Int32)), (.ref a2), (.int (0 : Int32)), (.int (3 : Int32))] 7 = mkF m 0 #[.val (.ref a1), .val (.int (0 : Int32)), .val (.ref a2), .val (.int (0 : Int32)), .val (.int (3 : Int32)), .unset, .unset] [] := by first | (simp [entryFrame, mkF, argsToLocals, Value.category]; done) | rfl
theorem rm37 (l : Launch) (Z : State) (a0 : Array Value) (hw : ∀ d ∈ tables_1, d.before a0 Z = true) (ws : List Jvm.Cond) (a1 : Addr) (a2 : Addr) (i3 : Int32) (i4 : Int32) (i5 : Int32) (ck6 : ClassId) (ck8 : ClassId) (h0 : Heap) (n0 : Nat) (Z0 : n0 ≤ h0.size) (V_a1 : Arv Z h0 a1 ck6 .char (3 : Int32) [(.int i3), (.int i4), (.int i5)] (.int (0 : Int32))) (c7 : ¬ ((255 : Int32) < i3)) (V_a2 : Arv Z h0 a2 ck8 .byte (3 : Int32) [(.int (0 : Int32)), (.int (0 : Int32)), (.int (0 : Int32))] (.int (0 : Int32))) (g_a2 : n0 ≤ a2) (ne_a1_a2 : a1 ≠ a2) (c9 : ¬ ((255 : Int32) < i4)) (c10 : ¬ ((255 : Int32) < i5)) (E_a2 : Exa Z h0 a2 "[B") :
    OwnMet l Z y_1 jdk_52_method_21_code 7 (some .int) ws Rm37 #[(.ref a1), (.int (0 : Int32)), (.ref a2), (.int (0 : Int32)), (.int (3 : Int32))] h0 (Q37 Z a1 a2 i3 i4 i5 ck6 ck8 h0 n0) := by
  refine own_body (plainFor_of_name pn_1) (ef37 a1 a2) ?_
  intro p e s m below meth c s₁ hx hby hml hown hnm hret hZ X0 e0
  have N0 := Fr.nil n0
  obtain ⟨cl1, Ar1, q1, S1, M1, Hs1, G1⟩ := id V_a1
  have hin2 : ¬ ((0 : Int32) < 0 ∨ cl1.slots.size ≤ ((0 : Int32)).toNatClampNeg) := inb_of S1 ⟨(by decide : ¬ ((0 : Int32) < (0 : Int32))), (by decide : (0 : Int32) < (3 : Int32))⟩
  obtain ⟨cl3, Ar3, q3, S3, M3, Hs3, G3⟩ := id V_a2
  have hin4 : ¬ ((0 : Int32) < 0 ∨ cl3.slots.size ≤ ((0 : Int32)).toNatClampNeg) := inb_of S3 ⟨(by decide : ¬ ((0 : Int32) < (0 : Int32))), (by decide : (0 : Int32) < (3 : Int32))⟩
  obtain ⟨T5, h5, X5, e5, W5, st5⟩ := stB X0 hx hZ e0 Ar3 (j := (0 : Int32)) hin4 (g := (mkF m 31 #[.val (.ref a1), .val (.int (0 : Int32)), .val (.ref a2), .val (.int (0 : Int32)), .val (.int (3 : Int32)), .val (.int (0 : Int32)), .val (.int i3)] [(.int (i3.toInt8.toInt32)), (.int (0 : Int32)), (.ref a2)])) rfl rfl (hb hby d6_31)
  have s0 := (Keep.of_wr W5).1
  have N5 := Fr.snoc X5 N0 g_a2
  have Vs5 : Arv Z h5 a2 ck8 .byte (3 : Int32) [(.int (nar .byte (i3.toInt8.toInt32))), (.int (0 : Int32)), (.int (0 : Int32))] (.int (0 : Int32)) := Arv.set Ar3 q3 S3 M3 Hs3 G3 (fits_nar_byte _) W5 0 rfl (Nat.le_of_ble_eq_true rfl)
  have Va6 := (V_a1.other W5 ne_a1_a2)
  obtain ⟨cl7, Ar7, q7, S7, M7, Hs7, G7⟩ := id Va6
  have hin8 : ¬ ((1 : Int32) < 0 ∨ cl7.slots.size ≤ ((1 : Int32)).toNatClampNeg) := inb_of S7 ⟨(by decide : ¬ ((1 : Int32) < (0 : Int32))), (by decide : (1 : Int32) < (3 : Int32))⟩
  obtain ⟨cl9, Ar9, q9, S9, M9, Hs9, G9⟩ := id Vs5
  have hin10 : ¬ ((1 : Int32) < 0 ∨ cl9.slots.size ≤ ((1 : Int32)).toNatClampNeg) := inb_of S9 ⟨(by decide : ¬ ((1 : Int32) < (0 : Int32))), (by decide : (1 : Int32) < (3 : Int32))⟩
  obtain ⟨T11, h11, X11, e11, W11, st11⟩ := stB X5 hx hZ e5 Ar9 (j := (1 : Int32)) hin10 (g := (mkF m 31 #[.val (.ref a1), .val (.int (1 : Int32)), .val (.ref a2), .val (.int (1 : Int32)), .val (.int (3 : Int32)), .val (.int (1 : Int32)), .val (.int i4)] [(.int (i4.toInt8.toInt32)), (.int (1 : Int32)), (.ref a2)])) rfl rfl (hb hby d6_31)
  have s1 := (Keep.of_wr W11).1
  have N11 := Fr.snoc X11 N5 g_a2
  have Vs11 : Arv Z h11 a2 ck8 .byte (3 : Int32) [(.int (nar .byte (i3.toInt8.toInt32))), (.int (nar .byte (i4.toInt8.toInt32))), (.int (0 : Int32))] (.int (0 : Int32)) := Arv.set Ar9 q9 S9 M9 Hs9 G9 (fits_nar_byte _) W11 1 rfl (Nat.le_of_ble_eq_true rfl)
  have Va12 := (Va6.other W11 ne_a1_a2)
  obtain ⟨cl13, Ar13, q13, S13, M13, Hs13, G13⟩ := id Va12
  have hin14 : ¬ ((2 : Int32) < 0 ∨ cl13.slots.size ≤ ((2 : Int32)).toNatClampNeg) := inb_of S13 ⟨(by decide : ¬ ((2 : Int32) < (0 : Int32))), (by decide : (2 : Int32) < (3 : Int32))⟩
  obtain ⟨cl15, Ar15, q15, S15, M15, Hs15, G15⟩ := id Vs11
  have hin16 : ¬ ((2 : Int32) < 0 ∨ cl15.slots.size ≤ ((2 : Int32)).toNatClampNeg) := inb_of S15 ⟨(by decide : ¬ ((2 : Int32) < (0 : Int32))), (by decide : (2 : Int32) < (3 : Int32))⟩
  obtain ⟨T17, h17, X17, e17, W17, st17⟩ := stB X11 hx hZ e11 Ar15 (j := (2 : Int32)) hin16 (g := (mkF m 31 #[.val (.ref a1), .val (.int (2 : Int32)), .val (.ref a2), .val (.int (2 : Int32)), .val (.int (3 : Int32)), .val (.int (2 : Int32)), .val (.int i5)] [(.int (i5.toInt8.toInt32)), (.int (2 : Int32)), (.ref a2)])) rfl rfl (hb hby d6_31)
  have s2 := (Keep.of_wr W17).1
  have N17 := Fr.snoc X17 N11 g_a2
  have Vs17 : Arv Z h17 a2 ck8 .byte (3 : Int32) [(.int (nar .byte (i3.toInt8.toInt32))), (.int (nar .byte (i4.toInt8.toInt32))), (.int (nar .byte (i5.toInt8.toInt32)))] (.int (0 : Int32)) := Arv.set Ar15 q15 S15 M15 Hs15 G15 (fits_nar_byte _) W17 2 rfl (Nat.le_of_ble_eq_true rfl)
  have Ex18 := (((E_a2.wr W5).wr W11).wr W17)
  have Kp0 : Keep h0 h5 [a2] := (Keep.refl h0 [a2]).wr W5 (Or.inl (List.mem_of_getElem? (i := 0) rfl))
  have Kp1 : Keep h0 h11 [a2] := Kp0.wr W11 (Or.inl (List.mem_of_getElem? (i := 0) rfl))
  have Kp2 : Keep h0 h17 [a2] := Kp1.wr W17 (Or.inl (List.mem_of_getElem? (i := 0) rfl))
  refine ⟨T17, _, _, _, (some (.int (3 : Int32))), X17, nofun, by decide, by decide, ?_, fun fs hr => ?_⟩
  · show Q37 Z a1 a2 i3 i4 i5 ck6 ck8 h0 n0 _ T17.heap _
    rw [e17]
    exact ⟨rfl, N17, Kp2, Ex18, Vs17⟩
  · show Steps p.tables e below (s₁.setTop (mkF m 0 #[.val (.ref a1), .val (.int (0 : Int32)), .val (.ref a2), .val (.int (0 : Int32)), .val (.int (3 : Int32)), .unset, .unset] [])) _
    refine XS.iconst X0.here hx rfl (hb hby d6_0) ?_
    refine XS.istore X0.here hx rfl (hb hby d6_1) rfl (l' := #[.val (.ref a1), .val (.int (0 : Int32)), .val (.ref a2), .val (.int (0 : Int32)), .val (.int (3 : Int32)), .val (.int (0 : Int32)), .unset]) rfl ?_
    refine XS.iload X0.here hx rfl (hb hby d6_3) rfl ?_
    refine XS.iload X0.here hx rfl (hb hby d6_5) rfl ?_
    refine XS.icmpNo X0.here hx rfl (hb hby d6_7) rfl (tlt ((by decide : (0 : Int32) < (3 : Int32)) : (0 : Int32) < (3 : Int32))).2.1 ?_
    refine XS.aloadN X0.here hx rfl (hb hby d6_10) rfl rfl ?_
    refine XS.iloadN X0.here hx rfl (hb hby d6_11) rfl ?_
    refine X0.caload hx (j := (0 : Int32)) (v := (.int i3)) (by rw [e0]; exact Ar1.1) (State.isArrayOf_alike hZ.alike Ar1.2.1) Ar1.2.2 hin2 (Has.at Hs1 hin2 rfl) (g := (mkF m 12 #[.val (.ref a1), .val (.int (0 : Int32)), .val (.ref a2), .val (.int (0 : Int32)), .val (.int (3 : Int32)), .val (.int (0 : Int32)), .unset] [(.int (0 : Int32)), (.ref a1)])) rfl rfl (hb hby d6_12) _ ?_
    refine XS.istore X0.here hx rfl (hb hby d6_13) rfl (l' := #[.val (.ref a1), .val (.int (0 : Int32)), .val (.ref a2), .val (.int (0 : Int32)), .val (.int (3 : Int32)), .val (.int (0 : Int32)), .val (.int i3)]) rfl ?_
    refine XS.iload X0.here hx rfl (hb hby d6_15) rfl ?_
    refine XS.sipush X0.here hx rfl (hb hby d6_17) ?_
    refine XS.icmpYes X0.here hx rfl (pc0 := 20) (pc' := 26) rfl (hb hby d6_20) rfl (flt (c7 : ¬ ((255 : Int32) < i3))).2.2.2 (by decide) (by decide) ?_
    show Steps p.tables e below (s₁.setTop (mkF m 26 #[.val (.ref a1), .val (.int (0 : Int32)), .val (.ref a2), .val (.int (0 : Int32)), .val (.int (3 : Int32)), .val (.int (0 : Int32)), .val (.int i3)] [])) _
    refine XS.aloadN X0.here hx rfl (hb hby d6_26) rfl rfl ?_
    refine XS.iloadN X0.here hx rfl (hb hby d6_27) rfl ?_
    refine XS.iload X0.here hx rfl (hb hby d6_28) rfl ?_
    refine XS.i2b X0.here hx rfl (hb hby d6_30) rfl ?_
    refine st5 _ ?_
    refine XS.iinc X5.here hx rfl (hb hby d6_32) rfl (l' := #[.val (.ref a1), .val (.int (1 : Int32)), .val (.ref a2), .val (.int (0 : Int32)), .val (.int (3 : Int32)), .val (.int (0 : Int32)), .val (.int i3)]) rfl ?_
    refine XS.iinc X5.here hx rfl (hb hby d6_35) rfl (l' := #[.val (.ref a1), .val (.int (1 : Int32)), .val (.ref a2), .val (.int (1 : Int32)), .val (.int (3 : Int32)), .val (.int (0 : Int32)), .val (.int i3)]) rfl ?_
    refine XS.iinc X5.here hx rfl (hb hby d6_38) rfl (l' := #[.val (.ref a1), .val (.int (1 : Int32)), .val (.ref a2), .val (.int (1 : Int32)), .val (.int (3 : Int32)), .val (.int (1 : Int32)), .val (.int i3)]) rfl ?_
    refine XS.goto X5.here hx rfl (pc0 := 41) (pc' := 3) rfl (hb hby d6_41) (by decide) (by decide) ?_
    refine XS.iload X5.here hx rfl (hb hby d6_3) rfl ?_
    refine XS.iload X5.here hx rfl (hb hby d6_5) rfl ?_
    refine XS.icmpNo X5.here hx rfl (hb hby d6_7) rfl (tlt ((by decide : (1 : Int32) < (3 : Int32)) : (1 : Int32) < (3 : Int32))).2.1 ?_
    show Steps p.tables e below (T5.setTop (mkF m 10 #[.val (.ref a1), .val (.int (1 : Int32)), .val (.ref a2), .val (.int (1 : Int32)), .val (.int (3 : Int32)), .val (.int (1 : Int32)), .val (.int i3)] [])) _
    refine XS.aloadN X5.here hx rfl (hb hby d6_10) rfl rfl ?_
    refine XS.iloadN X5.here hx rfl (hb hby d6_11) rfl ?_
    refine X5.caload hx (j := (1 : Int32)) (v := (.int i4)) (by rw [e5]; exact Ar7.1) (State.isArrayOf_alike hZ.alike Ar7.2.1) Ar7.2.2 hin8 (Has.at Hs7 hin8 rfl) (g := (mkF m 12 #[.val (.ref a1), .val (.int (1 : Int32)), .val (.ref a2), .val (.int (1 : Int32)), .val (.int (3 : Int32)), .val (.int (1 : Int32)), .val (.int i3)] [(.int (1 : Int32)), (.ref a1)])) rfl rfl (hb hby d6_12) _ ?_
    refine XS.istore X5.here hx rfl (hb hby d6_13) rfl (l' := #[.val (.ref a1), .val (.int (1 : Int32)), .val (.ref a2), .val (.int (1 : Int32)), .val (.int (3 : Int32)), .val (.int (1 : Int32)), .val (.int i4)]) rfl ?_
    refine XS.iload X5.here hx rfl (hb hby d6_15) rfl ?_
    refine XS.sipush X5.here hx rfl (hb hby d6_17) ?_
    refine XS.icmpYes X5.here hx rfl (pc0 := 20) (pc' := 26) rfl (hb hby d6_20) rfl (flt (c9 : ¬ ((255 : Int32) < i4))).2.2.2 (by decide) (by decide) ?_
    refine XS.aloadN X5.here hx rfl (hb hby d6_26) rfl rfl ?_
    refine XS.iloadN X5.here hx rfl (hb hby d6_27) rfl ?_
    refine XS.iload X5.here hx rfl (hb hby d6_28) rfl ?_
    refine XS.i2b X5.here hx rfl (hb hby d6_30) rfl ?_
    refine st11 _ ?_
    show Steps p.tables e below (T11.setTop (mkF m 32 #[.val (.ref a1), .val (.int (1 : Int32)), .val (.ref a2), .val (.int (1 : Int32)), .val (.int (3 : Int32)), .val (.int (1 : Int32)), .val (.int i4)] [])) _
    refine XS.iinc X11.here hx rfl (hb hby d6_32) rfl (l' := #[.val (.ref a1), .val (.int (2 : Int32)), .val (.ref a2), .val (.int (1 : Int32)), .val (.int (3 : Int32)), .val (.int (1 : Int32)), .val (.int i4)]) rfl ?_
    refine XS.iinc X11.here hx rfl (hb hby d6_35) rfl (l' := #[.val (.ref a1), .val (.int (2 : Int32)), .val (.ref a2), .val (.int (2 : Int32)), .val (.int (3 : Int32)), .val (.int (1 : Int32)), .val (.int i4)]) rfl ?_
    refine XS.iinc X11.here hx rfl (hb hby d6_38) rfl (l' := #[.val (.ref a1), .val (.int (2 : Int32)), .val (.ref a2), .val (.int (2 : Int32)), .val (.int (3 : Int32)), .val (.int (2 : Int32)), .val (.int i4)]) rfl ?_
    refine XS.goto X11.here hx rfl (pc0 := 41) (pc' := 3) rfl (hb hby d6_41) (by decide) (by decide) ?_
    refine XS.iload X11.here hx rfl (hb hby d6_3) rfl ?_
    refine XS.iload X11.here hx rfl (hb hby d6_5) rfl ?_
    refine XS.icmpNo X11.here hx rfl (hb hby d6_7) rfl (tlt ((by decide : (2 : Int32) < (3 : Int32)) : (2 : Int32) < (3 : Int32))).2.1 ?_
    refine XS.aloadN X11.here hx rfl (hb hby d6_10) rfl rfl ?_
    refine XS.iloadN X11.here hx rfl (hb hby d6_11) rfl ?_
    refine X11.caload hx (j := (2 : Int32)) (v := (.int i5)) (by rw [e11]; exact Ar13.1) (State.isArrayOf_alike hZ.alike Ar13.2.1) Ar13.2.2 hin14 (Has.at Hs13 hin14 rfl) (g := (mkF m 12 #[.val (.ref a1), .val (.int (2 : Int32)), .val (.ref a2), .val (.int (2 : Int32)), .val (.int (3 : Int32)), .val (.int (2 : Int32)), .val (.int i4)] [(.int (2 : Int32)), (.ref a1)])) rfl rfl (hb hby d6_12) _ ?_
    refine XS.istore X11.here hx rfl (hb hby d6_13) rfl (l' := #[.val (.ref a1), .val (.int (2 : Int32)), .val (.ref a2), .val (.int (2 : Int32)), .val (.int (3 : Int32)), .val (.int (2 : Int32)), .val (.int i5)]) rfl ?_
    refine XS.iload X11.here hx rfl (hb hby d6_15) rfl ?_
    show Steps p.tables e below (T11.setTop (mkF m 17 #[.val (.ref a1), .val (.int (2 : Int32)), .val (.ref a2), .val (.int (2 : Int32)), .val (.int (3 : Int32)), .val (.int (2 : Int32)), .val (.int i5)] [(.int i5)])) _
    refine XS.sipush X11.here hx rfl (hb hby d6_17) ?_
    refine XS.icmpYes X11.here hx rfl (pc0 := 20) (pc' := 26) rfl (hb hby d6_20) rfl (flt (c10 : ¬ ((255 : Int32) < i5))).2.2.2 (by decide) (by decide) ?_
    refine XS.aloadN X11.here hx rfl (hb hby d6_26) rfl rfl ?_
    refine XS.iloadN X11.here hx rfl (hb hby d6_27) rfl ?_
    refine XS.iload X11.here hx rfl (hb hby d6_28) rfl ?_
    refine XS.i2b X11.here hx rfl (hb hby d6_30) rfl ?_
    refine st17 _ ?_
    refine XS.iinc X17.here hx rfl (hb hby d6_32) rfl (l' := #[.val (.ref a1), .val (.int (3 : Int32)), .val (.ref a2), .val (.int (2 : Int32)), .val (.int (3 : Int32)), .val (.int (2 : Int32)), .val (.int i5)]) rfl ?_
    refine XS.iinc X17.here hx rfl (hb hby d6_35) rfl (l' := #[.val (.ref a1), .val (.int (3 : Int32)), .val (.ref a2), .val (.int (3 : Int32)), .val (.int (3 : Int32)), .val (.int (2 : Int32)), .val (.int i5)]) rfl ?_
    refine XS.iinc X17.here hx rfl (hb hby d6_38) rfl (l' := #[.val (.ref a1), .val (.int (3 : Int32)), .val (.ref a2), .val (.int (3 : Int32)), .val (.int (3 : Int32)), .val (.int (3 : Int32)), .val (.int i5)]) rfl ?_
    refine XS.goto X17.here hx rfl (pc0 := 41) (pc' := 3) rfl (hb hby d6_41) (by decide) (by decide) ?_
    refine XS.iload X17.here hx rfl (hb hby d6_3) rfl ?_
    show Steps p.tables e below (T17.setTop (mkF m 5 #[.val (.ref a1), .val (.int (3 : Int32)), .val (.ref a2), .val (.int (3 : Int32)), .val (.int (3 : Int32)), .val (.int (3 : Int32)), .val (.int i5)] [(.int (3 : Int32))])) _
    refine XS.iload X17.here hx rfl (hb hby d6_5) rfl ?_
    refine XS.icmpYes X17.here hx rfl (pc0 := 7) (pc' := 44) rfl (hb hby d6_7) rfl (flt ((by decide : ¬ ((3 : Int32) < (3 : Int32))) : ¬ ((3 : Int32) < (3 : Int32)))).2.1 (by decide) (by decide) ?_
    refine XS.iload X17.here hx rfl (hb hby d6_44) rfl ?_
    exact retI X17 hx hret (hb hby d6_46) hr
-- java/lang/StringUTF16.compress([CII)[B
abbrev Rm38 : Room := { frames := 1, cells := 1, slots := 3, locals := 18 }
def Q38 (Z : State) (a1 : Addr) (i2 : Int32) (i3 : Int32) (i4 : Int32) (ck5 : ClassId) (h0 : Heap) (n0 : Nat) (v : Option Value) (h : Heap) (L : List Loc) : Prop := ∃ b1 : Addr, ∃ k1 : ClassId, v = some (.ref b1) ∧ Fr n0 L ∧ Keep h0 h [] ∧ h0.size ≤ b1 ∧ Exa Z h b1 "[B" ∧ Arv Z h b1 k1 .byte (3 : Int32) [(.int (nar .byte (i2.toInt8.toInt32))), (.int (nar .byte (i3.toInt8.toInt32))), (.int (nar .byte (i4.toInt8.toInt32)))] (.int (0 : Int32))
theorem ef38 (a1 : Addr) (m : MethodId) : entryFrame m #[(.ref a1), (.int (0 : Int32)), (.int (3 : Int32))] 6 = mkF m 0 #[.val (.ref a1), .val (.int (0 : Int32)), .val (.int (3 : Int32)), .unset, .unset, .unset] [] := by first | (simp [entryFrame, mkF, argsToLocals, Value.category]; done) | rfl
theorem rm38 (l : Launch) (Z : State) (a0 : Array Value) (hw : ∀ d ∈ tables_1, d.before a0 Z = true) (ws : List Jvm.Cond) (a1 : Addr) (i2 : Int32) (i3 : Int32) (i4 : Int32) (ck5 : ClassId) (h0 : Heap) (n0 : Nat) (Z0 : n0 ≤ h0.size) (V_a1 : Arv Z h0 a1 ck5 .char (3 : Int32) [(.int i2), (.int i3), (.int i4)] (.int (0 : Int32))) (c6 : ¬ ((255 : Int32) < i2)) (c7 : ¬ ((255 : Int32) < i3)) (c8 : ¬ ((255 : Int32) < i4)) :
    OwnMet l Z y_2 jdk_52_method_16_code 6 (some (.array .byte)) ws Rm38 #[(.ref a1), (.int (0 : Int32)), (.int (3 : Int32))] h0 (Q38 Z a1 i2 i3 i4 ck5 h0 n0) := by
  refine own_body (plainFor_of_name pn_1) (ef38 a1) ?_
  intro p e s m below meth c s₁ hx hby hml hown hnm hret hZ X0 e0
  have N0 := Fr.nil n0
  obtain ⟨T1, h1, k1, X1, e1, E1, A1, B1, st1⟩ := newPE (aty := .byte) X0 hx hZ (w_23 hw) e0 (g := (mkF m 1 #[.val (.ref a1), .val (.int (0 : Int32)), .val (.int (3 : Int32)), .unset, .unset, .unset] [(.int (3 : Int32))])) rfl (hb hby d5_1) rfl (by decide) (cap := 3) (by decide) (by decide) (by decide) (by decide) (ad := "[B") (by decide)
  obtain ⟨b1, g1⟩ : ∃ z, z = h0.size := ⟨_, rfl⟩
  rw [← g1] at A1 B1 st1
  have s0 := E1.1
  have Vn1 : Arv Z h1 b1 k1 .byte (3 : Int32) [(.int (0 : Int32)), (.int (0 : Int32)), (.int (0 : Int32))] (.int (0 : Int32)) := (Arv.new A1 (by decide)).pad (pad_rep [] (.int (0 : Int32)) 3)
  have Va2 := (V_a1.ext E1)
  have g_b1 : n0 ≤ b1 := Nat.le_trans Z0 (Nat.le_of_eq g1.symm)
  have ne_a1_b1 := Nat.ne_of_lt (Nat.lt_of_lt_of_le V_a1.lt (Nat.le_of_eq g1.symm))
  have z1 := Nat.le_trans Z0 s0
  obtain ⟨_, T3, L3, X3, hQ3, st3⟩ := own_callS X1 hx hZ hown (y := y_1) (w_24 hw) (w_25 hw) (w_21 hw) (w_26 hw) (rm37 l Z a0 hw [] a1 b1 i2 i3 i4 ck5 k1 h1 n0 z1 Va2 c6 Vn1 g_b1 ne_a1_b1 c7 c8 B1) e1 (Ls := #[.val (.ref a1), .val (.int (0 : Int32)), .val (.int (3 : Int32)), .val (.ref b1), .unset, .unset]) (by rw [hml]; rfl) (argsL := [(.ref a1), (.int (0 : Int32)), (.ref b1), (.int (0 : Int32)), (.int (3 : Int32))]) (rest := []) (lenOf pd_1 rfl) (hb hby d5_9) (W := 0)
  obtain ⟨rfl, Nq3, K3, o3_0, o3_1⟩ := hQ3
  have N3 := Fr.app N0 Nq3
  have s1 := K3.1
  have sz_b1 : h0.size ≤ b1 := (Nat.le_of_eq g1.symm)
  have Kp0 : Keep h0 h1 [] := (Keep.refl h0 []).ext E1
  have Kp1 : Keep h0 T3.heap [] := Kp0.trans K3 (allS (Or.inr sz_b1) all0)
  refine ⟨T3, _, _, _, (some (.ref b1)), X3, nofun, by decide, by decide, ?_, fun fs hr => ?_⟩
  · show Q38 Z a1 i2 i3 i4 ck5 h0 n0 _ T3.heap _
    exact ⟨b1, k1, rfl, N3, Kp1, sz_b1, o3_0, o3_1⟩
  · show Steps p.tables e below (s₁.setTop (mkF m 0 #[.val (.ref a1), .val (.int (0 : Int32)), .val (.int (3 : Int32)), .unset, .unset, .unset] [])) _
    refine XS.iloadN X0.here hx rfl (hb hby d5_0) rfl ?_
    refine st1 _ ?_
    refine XS.astoreN X1.here hx rfl (hb hby d5_3) rfl rfl (l' := #[.val (.ref a1), .val (.int (0 : Int32)), .val (.int (3 : Int32)), .val (.ref b1), .unset, .unset]) rfl ?_
    refine XS.aloadN X1.here hx rfl (hb hby d5_4) rfl rfl ?_
    refine XS.iloadN X1.here hx rfl (hb hby d5_5) rfl ?_
    refine XS.aloadN X1.here hx rfl (hb hby d5_6) rfl rfl ?_
    refine XS.iconst X1.here hx rfl (hb hby d5_7) ?_
    refine XS.iloadN X1.here hx rfl (hb hby d5_8) rfl ?_
    refine st3 _ ?_
    refine XS.istore X3.here hx rfl (hb hby d5_12) rfl (l' := #[.val (.ref a1), .val (.int (0 : Int32)), .val (.int (3 : Int32)), .val (.ref b1), .val (.int (3 : Int32)), .unset]) rfl ?_
    refine XS.iload X3.here hx rfl (hb hby d5_14) rfl ?_
    refine XS.iloadN X3.here hx rfl (hb hby d5_16) rfl ?_
    show Steps p.tables e below (T3.setTop (mkF m 17 #[.val (.ref a1), .val (.int (0 : Int32)), .val (.int (3 : Int32)), .val (.ref b1), .val (.int (3 : Int32)), .unset] [(.int (3 : Int32)), (.int (3 : Int32))])) _
    refine XS.icmpYes X3.here hx rfl (pc0 := 17) (pc' := 57) rfl (hb hby d5_17) rfl (teq ((by decide : (3 : Int32) = (3 : Int32)) : (3 : Int32) = (3 : Int32))).1 (by decide) (by decide) ?_
    refine XS.aloadN X3.here hx rfl (hb hby d5_57) rfl rfl ?_
    exact retOut X3 hx hret rfl (Or.inr (Or.inr (Or.inr (Or.inr ⟨rfl, rfl, rfl⟩)))) (hb hby d5_58) hr
-- java/lang/StringUTF16.coderFromArrayLen([BI)B
abbrev Rm39 : Room := { frames := 0, cells := 0, slots := 0, locals := 0 }
def Q39 (Z : State) (a1 : Addr) (i2 : Int32) (i3 : Int32) (i4 : Int32) (ck5 : ClassId) (h0 : Heap) (n0 : Nat) (v : Option Value) (h : Heap) (L : List Loc) : Prop := v = some (.int (0 : Int32)) ∧ Fr n0 L ∧ h = h0
theorem ef39 (a1 : Addr) (m : MethodId) : entryFrame m #[(.ref a1), (.int (3 : Int32))] 2 = mkF m 0 #[.val (.ref a1), .val (.int (3 : Int32))] [] := by first | (simp [entryFrame, mkF, argsToLocals, Value.category]; done) | rfl
theorem rm39 (l : Launch) (Z : State) (a0 : Array Value) (hw : ∀ d ∈ tables_1, d.before a0 Z = true) (ws : List Jvm.Cond) (a1 : Addr) (i2 : Int32) (i3 : Int32) (i4 : Int32) (ck5 : ClassId) (h0 : Heap) (n0 : Nat) (Z0 : n0 ≤ h0.size) (V_a1 : Arv Z h0 a1 ck5 .byte (3 : Int32) [(.int i2), (.int i3), (.int i4)] (.int (0 : Int32))) :
    OwnMet l Z y_3 jdk_52_method_15_code 2 (some .byte) ws Rm39 #[(.ref a1), (.int (3 : Int32))] h0 (Q39 Z a1 i2 i3 i4 ck5 h0 n0) := by
  refine own_body (plainFor_of_name pn_1) (ef39 a1) ?_
  intro p e s m below meth c s₁ hx hby hml hown hnm hret hZ X0 e0
  have N0 := Fr.nil n0
  obtain ⟨cl1, Ar1, q1, S1, M1, Hs1, G1⟩ := id V_a1
  refine ⟨s₁, _, _, _, (some (.int (0 : Int32))), X0, nofun, by decide, by decide, ?_, fun fs hr => ?_⟩
  · show Q39 Z a1 i2 i3 i4 ck5 h0 n0 _ s₁.heap _
    rw [e0]
    exact ⟨rfl, N0, rfl⟩
  · show Steps p.tables e below (s₁.setTop (mkF m 0 #[.val (.ref a1), .val (.int (3 : Int32))] [])) _
    refine XS.iloadN X0.here hx rfl (hb hby d7_0) rfl ?_
    refine XS.aloadN X0.here hx rfl (hb hby d7_1) rfl rfl ?_
    refine X0.arraylength hx (by rw [e0]; exact Ar1.1) (State.isArrayOf_alike hZ.alike Ar1.2.1) (g := (mkF m 2 #[.val (.ref a1), .val (.int (3 : Int32))] [(.ref a1), (.int (3 : Int32))])) rfl rfl (hb hby d7_2) _ ?_
    show Steps p.tables e below (s₁.setTop (mkF m 3 #[.val (.ref a1), .val (.int (3 : Int32))] [(.int cl1.slots.size.toInt32), (.int (3 : Int32))])) _
    rw [len_of S1 M1]
    refine XS.isub X0.here hx rfl (hb hby d7_3) rfl ?_
    refine XS.bipush X0.here hx rfl (hb hby d7_4) ?_
    refine XS.iushr X0.here hx rfl (hb hby d7_6) rfl ?_
    refine XS.i2b X0.here hx rfl (hb hby d7_7) rfl ?_
    exact retN X0 hx (t := .byte) hret (by simp) (hb hby d7_8) hr
-- java/lang/String.<init>([CIILjava/lang/Void;)V
abbrev Rm40 : Room := { frames := 2, cells := 1, slots := 3, locals := 35 }
def Q40 (Z : State) (a1 : Addr) (a2 : Addr) (i3 : Int32) (i5 : Int32) (i6 : Int32) (i7 : Int32) (ck8 : ClassId) (h0 : Heap) (n0 : Nat) (v : Option Value) (h : Heap) (L : List Loc) : Prop := ∃ b3_b1 : Addr, ∃ k3_k1 : ClassId, v = none ∧ Fr n0 L ∧ Keep h0 h [a1] ∧ Exa Z h a1 "java/lang/String" ∧ Fld Z h a1 "java/lang/String" "coder" "B" (.int (0 : Int32)) ∧ Fld Z h a1 "java/lang/String" "value" "[B" (.ref b3_b1) ∧ h0.size ≤ b3_b1 ∧ Exa Z h b3_b1 "[B" ∧ Arv Z h b3_b1 k3_k1 .byte (3 : Int32) [(.int (nar .byte (i5.toInt8.toInt32))), (.int (nar .byte (i6.toInt8.toInt32))), (.int (nar .byte (i7.toInt8.toInt32)))] (.int (0 : Int32))
theorem ef40 (a1 : Addr) (a2 : Addr) (m : MethodId) : entryFrame m #[(.ref a1), (.ref a2), (.int (0 : Int32)), (.int (3 : Int32)), .null] 6 = mkF m 0 #[.val (.ref a1), .val (.ref a2), .val (.int (0 : Int32)), .val (.int (3 : Int32)), .val .null, .unset] [] := by first | (simp [entryFrame, mkF, argsToLocals, Value.category]; done) | rfl
theorem rm40 (l : Launch) (Z : State) (a0 : Array Value) (hw : ∀ d ∈ tables_1, d.before a0 Z = true) (ws : List Jvm.Cond) (a1 : Addr) (a2 : Addr) (i3 : Int32) (i5 : Int32) (i6 : Int32) (i7 : Int32) (ck8 : ClassId) (h0 : Heap) (n0 : Nat) (Z0 : n0 ≤ h0.size) (S_COMPACT_STRINGS : Sta Z Z.heap "java/lang/String" "COMPACT_STRINGS" "Z" (.int i3)) (Od0 : Old Z n0 h0) (c4 : ¬ (i3 = (0 : Int32))) (V_a2 : Arv Z h0 a2 ck8 .char (3 : Int32) [(.int i5), (.int i6), (.int i7)] (.int (0 : Int32))) (c9 : ¬ ((255 : Int32) < i5)) (c10 : ¬ ((255 : Int32) < i6)) (c11 : ¬ ((255 : Int32) < i7)) (F_coder_a1 : Fld Z h0 a1 "java/lang/String" "coder" "B" (.int (0 : Int32))) (E_a1 : Exa Z h0 a1 "java/lang/String") (g_a1 : n0 ≤ a1) (F_value_a1 : Fld Z h0 a1 "java/lang/String" "value" "[B" .null) :
    OwnMet l Z y_4 jdk_42_method_149_code 6 none ws Rm40 #[(.ref a1), (.ref a2), (.int (0 : Int32)), (.int (3 : Int32)), .null] h0 (Q40 Z a1 a2 i3 i5 i6 i7 ck8 h0 n0) := by
  refine own_body (plainFor_of_name pn_2) (ef40 a1 a2) ?_
  intro p e s m below meth c s₁ hx hby hml hown hnm hret hZ X0 e0
  have N0 := Fr.nil n0
  obtain ⟨T1, X1, e1, st1⟩ := initO X0 hx hZ hown (w_15 hw) (w_16 hw) (w_17 hw) e0 (g := (mkF m 1 #[.val (.ref a1), .val (.ref a2), .val (.int (0 : Int32)), .val (.int (3 : Int32)), .val .null, .unset] [(.ref a1)])) rfl (by rw [hml]; rfl) rfl (hb hby d3_1) (by decide) (W := 0) (by show 2 * 0 + _ ≤ _; exact Nat.le_of_eq rfl) (by decide)
  obtain ⟨T2, X2, e2, st2⟩ := getS2 X1 hx hZ hown (host := "") (Or.inl (w_18 hw)) Via.refl e1 (S_COMPACT_STRINGS.ext Od0.2) (g := (mkF m 27 #[.val (.ref a1), .val (.ref a2), .val (.int (0 : Int32)), .val (.int (3 : Int32)), .val .null, .unset] [])) rfl (hb hby d3_27)
  obtain ⟨_, T3, L3, X3, hQ3, st3⟩ := own_callS X2 hx hZ hown (y := y_2) (w_19 hw) (w_20 hw) (w_21 hw) (w_22 hw) (rm38 l Z a0 hw [] a2 i5 i6 i7 ck8 h0 n0 Z0 V_a2 c9 c10 c11) e2 (Ls := #[.val (.ref a1), .val (.ref a2), .val (.int (0 : Int32)), .val (.int (3 : Int32)), .val .null, .unset]) (by rw [hml]; rfl) (argsL := [(.ref a2), (.int (0 : Int32)), (.int (3 : Int32))]) (rest := []) (lenOf pd_2 rfl) (hb hby d3_36) (W := 0)
  obtain ⟨b3_b1, k3_k1, rfl, Nq3, K3, o3_0, o3_1, o3_2⟩ := hQ3
  have N3 := Fr.app N0 Nq3
  have s0 := K3.1
  have z1 := Nat.le_trans Z0 s0
  obtain ⟨_, T4, L4, X4, hQ4, st4⟩ := own_callS X3 hx hZ hown (y := y_3) (w_27 hw) (w_28 hw) (w_21 hw) (w_29 hw) (rm39 l Z a0 hw [] b3_b1 (nar .byte (i5.toInt8.toInt32)) (nar .byte (i6.toInt8.toInt32)) (nar .byte (i7.toInt8.toInt32)) k3_k1 T3.heap n0 z1 o3_2) rfl (Ls := #[.val (.ref a1), .val (.ref a2), .val (.int (0 : Int32)), .val (.int (3 : Int32)), .val .null, .val (.ref b3_b1)]) (by rw [hml]; rfl) (argsL := [(.ref b3_b1), (.int (3 : Int32))]) (rest := [(.ref a1)]) (lenOf pd_3 rfl) (hb hby d3_45) (W := 1)
  obtain ⟨rfl, Nq4, e4⟩ := hQ4
  have N4 := Fr.app N3 Nq4
  have Fl5 := (F_coder_a1.keep K3 nin0)
  have Ex6 := (E_a1.keep K3)
  obtain ⟨T7, h7, X7, e7, W7, st7⟩ := putFN X4 hx hZ hown (w_30 hw) Via.refl e4 Fl5 Ex6 (Or.inr ⟨(w_31 hw), rfl, hnm⟩) (w_6 hw) (ty := .byte) (v' := (.int (nar .byte (0 : Int32)))) (by decide) rfl (fits_nar_byte _) (g := (mkF m 48 #[.val (.ref a1), .val (.ref a2), .val (.int (0 : Int32)), .val (.int (3 : Int32)), .val .null, .val (.ref b3_b1)] [(.int (0 : Int32)), (.ref a1)])) rfl rfl (hb hby d3_48)
  have s1 := (Keep.of_wr W7).1
  have N7 := Fr.snoc X7 N4 g_a1
  have Fw7 : Fld Z h7 a1 "java/lang/String" "coder" "B" (.int (0 : Int32)) := Fl5.same W7
  have Ex8 := (Ex6.wr W7)
  have Fl9 := ((F_value_a1.keep K3 nin0).other W7 (Or.inr (slot_ne (Or.inr (w_33 hw)) (Or.inr (w_31 hw)) (by decide) (t := (.array .byte)) (t' := .byte) (by decide) (by decide))))
  obtain ⟨T10, h10, X10, e10, W10, st10⟩ := putF X7 hx hZ hown (host := "") (Or.inl (w_32 hw)) Via.refl e7 Fl9 Ex8 (Or.inr ⟨(w_33 hw), rfl, hnm⟩) (w_6 hw) (ty := (.array .byte)) (by decide) rfl rfl (g := (mkF m 54 #[.val (.ref a1), .val (.ref a2), .val (.int (0 : Int32)), .val (.int (3 : Int32)), .val .null, .val (.ref b3_b1)] [(.ref b3_b1), (.ref a1)])) rfl rfl (hb hby d3_54)
  have s2 := (Keep.of_wr W10).1
  have N10 := Fr.snoc X10 N7 g_a1
  have Fw10 : Fld Z h10 a1 "java/lang/String" "value" "[B" (.ref b3_b1) := Fl9.same W10
  have Ex11 := (Ex8.wr W10)
  have Fl12 := (Fw7.other W10 (Or.inr (slot_ne (Or.inr (w_31 hw)) (Or.inr (w_33 hw)) (by decide) (t := .byte) (t' := (.array .byte)) (by decide) (by decide))))
  have sz_b3_b1 : h0.size ≤ b3_b1 := o3_0
  have Ex13 := ((o3_1.wr W7).wr W10)
  have ne_a1_b3_b1 := Nat.ne_of_lt (Nat.lt_of_lt_of_le F_value_a1.lt o3_0)
  have Va14 := ((o3_2.other W7 (Ne.symm ne_a1_b3_b1)).other W10 (Ne.symm ne_a1_b3_b1))
  have Kp0 : Keep h0 T3.heap [a1] := (Keep.refl h0 [a1]).trans K3 all0
  have Kp1 : Keep h0 h7 [a1] := Kp0.wr W7 (Or.inl (List.mem_of_getElem? (i := 0) rfl))
  have Kp2 : Keep h0 h10 [a1] := Kp1.wr W10 (Or.inl (List.mem_of_getElem? (i := 0) rfl))
  refine ⟨T10, _, _, _, none, X10, (fun _ => rfl), by decide, by decide, ?_, fun fs hr => ?_⟩
  · show Q40 Z a1 a2 i3 i5 i6 i7 ck8 h0 n0 _ T10.heap _
    rw [e10]
    exact ⟨b3_b1, k3_k1, rfl, N10, Kp2, Ex11, Fl12, Fw10, sz_b3_b1, Ex13, Va14⟩
  · show Steps p.tables e below (s₁.setTop (mkF m 0 #[.val (.ref a1), .val (.ref a2), .val (.int (0 : Int32)), .val (.int (3 : Int32)), .val .null, .unset] [])) _
    refine XS.aloadN X0.here hx rfl (hb hby d3_0) rfl rfl ?_
    refine st1 _ ?_
    refine XS.iloadN X1.here hx rfl (hb hby d3_4) rfl ?_
    refine XS.ifYes X1.here hx rfl (pc0 := 5) (pc' := 27) rfl (hb hby d3_5) rfl ((if0 _ _).trans (feq ((by decide : ¬ ((3 : Int32) = (0 : Int32))) : ¬ ((3 : Int32) = (0 : Int32)))).2) (by decide) (by decide) ?_
    refine st2 _ ?_
    refine XS.ifNo X2.here hx rfl (hb hby d3_30) rfl ((if0 _ _).trans (feq (c4 : ¬ (i3 = (0 : Int32)))).1) ?_
    refine XS.aloadN X2.here hx rfl (hb hby d3_33) rfl rfl ?_
    refine XS.iloadN X2.here hx rfl (hb hby d3_34) rfl ?_
    refine XS.iloadN X2.here hx rfl (hb hby d3_35) rfl ?_
    refine st3 _ ?_
    refine XS.astore X3.here hx rfl (hb hby d3_39) rfl rfl (l' := #[.val (.ref a1), .val (.ref a2), .val (.int (0 : Int32)), .val (.int (3 : Int32)), .val .null, .val (.ref b3_b1)]) rfl ?_
    refine XS.aloadN X3.here hx rfl (hb hby d3_41) rfl rfl ?_
    show Steps p.tables e below (T3.setTop (mkF m 42 #[.val (.ref a1), .val (.ref a2), .val (.int (0 : Int32)), .val (.int (3 : Int32)), .val .null, .val (.ref b3_b1)] [(.ref a1)])) _
    refine XS.aload X3.here hx rfl (hb hby d3_42) rfl rfl ?_
    refine XS.iloadN X3.here hx rfl (hb hby d3_44) rfl ?_
    refine st4 _ ?_
    refine st7 _ ?_
    refine XS.aloadN X7.here hx rfl (hb hby d3_51) rfl rfl ?_
    refine XS.aload X7.here hx rfl (hb hby d3_52) rfl rfl ?_
    refine st10 _ ?_
    exact X10.returnOut hx hret (hb hby d3_57) hr
-- java/lang/String.<init>([C)V
abbrev Rm41 : Room := { frames := 3, cells := 1, slots := 3, locals := 52 }
def Q41 (Z : State) (a1 : Addr) (a2 : Addr) (i3 : Int32) (i4 : Int32) (i5 : Int32) (ck6 : ClassId) (i7 : Int32) (h0 : Heap) (n0 : Nat) (v : Option Value) (h : Heap) (L : List Loc) : Prop := ∃ b2_b3_b1 : Addr, ∃ k2_k3_k1 : ClassId, v = none ∧ Fr n0 L ∧ Keep h0 h [a1] ∧ Exa Z h a1 "java/lang/String" ∧ Fld Z h a1 "java/lang/String" "coder" "B" (.int (0 : Int32)) ∧ Fld Z h a1 "java/lang/String" "value" "[B" (.ref b2_b3_b1) ∧ h0.size ≤ b2_b3_b1 ∧ Exa Z h b2_b3_b1 "[B" ∧ Arv Z h b2_b3_b1 k2_k3_k1 .byte (3 : Int32) [(.int (nar .byte (i3.toInt8.toInt32))), (.int (nar .byte (i4.toInt8.toInt32))), (.int (nar .byte (i5.toInt8.toInt32)))] (.int (0 : Int32))
theorem ef41 (a1 : Addr) (a2 : Addr) (m : MethodId) : entryFrame m #[(.ref a1), (.ref a2)] 2 = mkF m 0 #[.val (.ref a1), .val (.ref a2)] [] := by first | (simp [entryFrame, mkF, argsToLocals, Value.category]; done) | rfl
theorem rm41 (l : Launch) (Z : State) (a0 : Array Value) (hw : ∀ d ∈ tables_1, d.before a0 Z = true) (ws : List Jvm.Cond) (a1 : Addr) (a2 : Addr) (i3 : Int32) (i4 : Int32) (i5 : Int32) (ck6 : ClassId) (i7 : Int32) (h0 : Heap) (n0 : Nat) (Z0 : n0 ≤ h0.size) (V_a2 : Arv Z h0 a2 ck6 .char (3 : Int32) [(.int i3), (.int i4), (.int i5)] (.int (0 : Int32))) (S_COMPACT_STRINGS : Sta Z Z.heap "java/lang/String" "COMPACT_STRINGS" "Z" (.int i7)) (Od0 : Old Z n0 h0) (c8 : ¬ (i7 = (0 : Int32))) (c9 : ¬ ((255 : Int32) < i3)) (c10 : ¬ ((255 : Int32) < i4)) (c11 : ¬ ((255 : Int32) < i5)) (F_coder_a1 : Fld Z h0 a1 "java/lang/String" "coder" "B" (.int (0 : Int32))) (E_a1 : Exa Z h0 a1 "java/lang/String") (g_a1 : n0 ≤ a1) (F_value_a1 : Fld Z h0 a1 "java/lang/String" "value" "[B" .null) :
    OwnMet l Z y_5 jdk_42_method_3_code 2 none ws Rm41 #[(.ref a1), (.ref a2)] h0 (Q41 Z a1 a2 i3 i4 i5 ck6 i7 h0 n0) := by
  refine own_body (plainFor_of_name pn_2) (ef41 a1 a2) ?_
  intro p e s m below meth c s₁ hx hby hml hown hnm hret hZ X0 e0
  have N0 := Fr.nil n0
  obtain ⟨cl1, Ar1, q1, S1, M1, Hs1, G1⟩ := id V_a2
  obtain ⟨_, T2, L2, X2, hQ2, st2⟩ := own_special X0 hx hZ hown (y := y_4) (a := a1) (w_11 hw) (w_12 hw) (w_7 hw) (w_14 hw) (rm40 l Z a0 hw [] a1 a2 i7 i3 i4 i5 ck6 h0 n0 Z0 S_COMPACT_STRINGS Od0 c8 V_a2 c9 c10 c11 F_coder_a1 E_a1 g_a1 F_value_a1) e0 (Ls := #[.val (.ref a1), .val (.ref a2)]) (by rw [hml]; rfl) (argsL := [(.ref a2), (.int (0 : Int32)), (.int (3 : Int32)), .null]) (rest := []) (lenOf pd_4 rfl) (hb hby d2_6) (W := 0)
  obtain ⟨b2_b3_b1, k2_k3_k1, rfl, Nq2, K2, o2_0, o2_1, o2_2, o2_3, o2_4, o2_5⟩ := hQ2
  have N2 := Fr.app N0 Nq2
  have s0 := K2.1
  have sz_b2_b3_b1 : h0.size ≤ b2_b3_b1 := o2_3
  have Kp0 : Keep h0 T2.heap [a1] := (Keep.refl h0 [a1]).trans K2 (allS (Or.inl (List.mem_of_getElem? (i := 0) rfl)) all0)
  refine ⟨T2, _, _, _, none, X2, (fun _ => rfl), by decide, by decide, ?_, fun fs hr => ?_⟩
  · show Q41 Z a1 a2 i3 i4 i5 ck6 i7 h0 n0 _ T2.heap _
    exact ⟨b2_b3_b1, k2_k3_k1, rfl, N2, Kp0, o2_0, o2_1, o2_2, sz_b2_b3_b1, o2_4, o2_5⟩
  · show Steps p.tables e below (s₁.setTop (mkF m 0 #[.val (.ref a1), .val (.ref a2)] [])) _
    refine XS.aloadN X0.here hx rfl (hb hby d2_0) rfl rfl ?_
    refine XS.aloadN X0.here hx rfl (hb hby d2_1) rfl rfl ?_
    refine XS.iconst X0.here hx rfl (hb hby d2_2) ?_
    refine XS.aloadN X0.here hx rfl (hb hby d2_3) rfl rfl ?_
    refine X0.arraylength hx (by rw [e0]; exact Ar1.1) (State.isArrayOf_alike hZ.alike Ar1.2.1) (g := (mkF m 4 #[.val (.ref a1), .val (.ref a2)] [(.ref a2), (.int (0 : Int32)), (.ref a2), (.ref a1)])) rfl rfl (hb hby d2_4) _ ?_
    show Steps p.tables e below (s₁.setTop (mkF m 5 #[.val (.ref a1), .val (.ref a2)] [(.int cl1.slots.size.toInt32), (.int (0 : Int32)), (.ref a2), (.ref a1)])) _
    rw [len_of S1 M1]
    refine XS.aconstNull X0.here hx rfl (hb hby d2_5) ?_
    refine st2 _ ?_
    exact X2.returnOut hx hret (hb hby d2_9) hr
-- java/lang/String.isEmpty()Z
abbrev Rm42 : Room := { frames := 0, cells := 0, slots := 0, locals := 0 }
def Q42 (Z : State) (a1 : Addr) (a2 : Addr) (i3 : Int32) (i4 : Int32) (i5 : Int32) (ck6 : ClassId) (h0 : Heap) (n0 : Nat) (v : Option Value) (h : Heap) (L : List Loc) : Prop := v = some (.int (0 : Int32)) ∧ Fr n0 L ∧ h = h0
theorem ef42 (a1 : Addr) (m : MethodId) : entryFrame m #[(.ref a1)] 1 = mkF m 0 #[.val (.ref a1)] [] := by first | (simp [entryFrame, mkF, argsToLocals, Value.category]; done) | rfl
theorem rm42 (l : Launch) (Z : State) (a0 : Array Value) (hw : ∀ d ∈ tables_1, d.before a0 Z = true) (ws : List Jvm.Cond) (a1 : Addr) (a2 : Addr) (i3 : Int32) (i4 : Int32) (i5 : Int32) (ck6 : ClassId) (h0 : Heap) (n0 : Nat) (Z0 : n0 ≤ h0.size) (F_value_a1 : Fld Z h0 a1 "java/lang/String" "value" "[B" (.ref a2)) (V_a2 : Arv Z h0 a2 ck6 .byte (3 : Int32) [(.int i3), (.int i4), (.int i5)] (.int (0 : Int32))) :
    OwnMet l Z y_6 jdk_42_method_55_code 1 (some .boolean) ws Rm42 #[(.ref a1)] h0 (Q42 Z a1 a2 i3 i4 i5 ck6 h0 n0) := by
  refine own_body (plainFor_of_name pn_2) (ef42 a1) ?_
  intro p e s m below meth c s₁ hx hby hml hown hnm hret hZ X0 e0
  have N0 := Fr.nil n0
  obtain ⟨T1, X1, e1, st1⟩ := getF X0 hx hZ hown (host := "") (Or.inl (w_32 hw)) Via.refl e0 F_value_a1 (g := (mkF m 1 #[.val (.ref a1)] [(.ref a1)])) rfl rfl (hb hby d9_1)
  obtain ⟨cl2, Ar2, q2, S2, M2, Hs2, G2⟩ := id V_a2
  refine ⟨T1, _, _, _, (some (.int (0 : Int32))), X1, nofun, by decide, by decide, ?_, fun fs hr => ?_⟩
  · show Q42 Z a1 a2 i3 i4 i5 ck6 h0 n0 _ T1.heap _
    rw [e1]
    exact ⟨rfl, N0, rfl⟩
  · show Steps p.tables e below (s₁.setTop (mkF m 0 #[.val (.ref a1)] [])) _
    refine XS.aloadN X0.here hx rfl (hb hby d9_0) rfl rfl ?_
    refine st1 _ ?_
    refine X1.arraylength hx (by rw [e1]; exact Ar2.1) (State.isArrayOf_alike hZ.alike Ar2.2.1) (g := (mkF m 4 #[.val (.ref a1)] [(.ref a2)])) rfl rfl (hb hby d9_4) _ ?_
    show Steps p.tables e below (T1.setTop (mkF m 5 #[.val (.ref a1)] [(.int cl2.slots.size.toInt32)])) _
    rw [len_of S2 M2]
    refine XS.ifYes X1.here hx rfl (pc0 := 5) (pc' := 12) rfl (hb hby d9_5) rfl ((if0 _ _).trans (feq ((by decide : ¬ ((3 : Int32) = (0 : Int32))) : ¬ ((3 : Int32) = (0 : Int32)))).2) (by decide) (by decide) ?_
    refine XS.iconst X1.here hx rfl (hb hby d9_12) ?_
    exact retN X1 hx (t := .boolean) hret (by simp) (hb hby d9_13) hr
-- java/lang/String.length()I
abbrev Rm43 : Room := { frames := 1, cells := 0, slots := 0, locals := 13 }
def Q43 (Z : State) (a1 : Addr) (a2 : Addr) (i3 : Int32) (i4 : Int32) (i5 : Int32) (ck6 : ClassId) (i7 : Int32) (h0 : Heap) (n0 : Nat) (v : Option Value) (h : Heap) (L : List Loc) : Prop := v = some (.int (3 : Int32)) ∧ Fr n0 L ∧ h = h0
theorem ef43 (a1 : Addr) (m : MethodId) : entryFrame m #[(.ref a1)] 1 = mkF m 0 #[.val (.ref a1)] [] := by first | (simp [entryFrame, mkF, argsToLocals, Value.category]; done) | rfl
theorem rm43 (l : Launch) (Z : State) (a0 : Array Value) (hw : ∀ d ∈ tables_1, d.before a0 Z = true) (ws : List Jvm.Cond) (a1 : Addr) (a2 : Addr) (i3 : Int32) (i4 : Int32) (i5 : Int32) (ck6 : ClassId) (i7 : Int32) (h0 : Heap) (n0 : Nat) (Z0 : n0 ≤ h0.size) (F_value_a1 : Fld Z h0 a1 "java/lang/String" "value" "[B" (.ref a2)) (V_a2 : Arv Z h0 a2 ck6 .byte (3 : Int32) [(.int i3), (.int i4), (.int i5)] (.int (0 : Int32))) (E_a1 : Exa Z h0 a1 "java/lang/String") (S_COMPACT_STRINGS : Sta Z Z.heap "java/lang/String" "COMPACT_STRINGS" "Z" (.int i7)) (Od0 : Old Z n0 h0) (c8 : ¬ (i7 = (0 : Int32))) (F_coder_a1 : Fld Z h0 a1 "java/lang/String" "coder" "B" (.int (0 : Int32))) :
    OwnMet l Z y_8 jdk_42_method_54_code 1 (some .int) ws Rm43 #[(.ref a1)] h0 (Q43 Z a1 a2 i3 i4 i5 ck6 i7 h0 n0) := by
  refine own_body (plainFor_of_name pn_2) (ef43 a1) ?_
  intro p e s m below meth c s₁ hx hby hml hown hnm hret hZ X0 e0
  have N0 := Fr.nil n0
  obtain ⟨T1, X1, e1, st1⟩ := getF X0 hx hZ hown (host := "") (Or.inl (w_32 hw)) Via.refl e0 F_value_a1 (g := (mkF m 1 #[.val (.ref a1)] [(.ref a1)])) rfl rfl (hb hby d10_1)
  obtain ⟨cl2, Ar2, q2, S2, M2, Hs2, G2⟩ := id V_a2
  obtain ⟨_, T3, L3, X3, hQ3, st3⟩ := own_virtual X1 hx hZ hown (y := y_7) (z := y_7) E_a1 (w_48 hw) (w_49 hw) (notFace_of_selects (args := #[]) (mvT hZ (w_51 hw))) (w_51 hw) (w_50 hw) (w_7 hw) (w_52 hw) (rm8 l Z a0 hw [] a1 i7 h0 n0 Z0 S_COMPACT_STRINGS Od0 c8 F_coder_a1) e1 (Ls := #[.val (.ref a1)]) (by rw [hml]; rfl) (argsL := []) (rest := [(.int (3 : Int32))]) (lenOf pd_7 rfl) (hb hby d10_6) (W := 1)
  obtain ⟨rfl, Nq3, e3⟩ := hQ3
  have N3 := Fr.app N0 Nq3
  refine ⟨T3, _, _, _, (some (.int (3 : Int32))), X3, nofun, by decide, by decide, ?_, fun fs hr => ?_⟩
  · show Q43 Z a1 a2 i3 i4 i5 ck6 i7 h0 n0 _ T3.heap _
    rw [e3]
    exact ⟨rfl, N3, rfl⟩
  · show Steps p.tables e below (s₁.setTop (mkF m 0 #[.val (.ref a1)] [])) _
    refine XS.aloadN X0.here hx rfl (hb hby d10_0) rfl rfl ?_
    refine st1 _ ?_
    refine X1.arraylength hx (by rw [e1]; exact Ar2.1) (State.isArrayOf_alike hZ.alike Ar2.2.1) (g := (mkF m 4 #[.val (.ref a1)] [(.ref a2)])) rfl rfl (hb hby d10_4) _ ?_
    show Steps p.tables e below (T1.setTop (mkF m 5 #[.val (.ref a1)] [(.int cl2.slots.size.toInt32)])) _
    rw [len_of S2 M2]
    refine XS.aloadN X1.here hx rfl (hb hby d10_5) rfl rfl ?_
    refine st3 _ ?_
    refine XS.ishr X3.here hx rfl (hb hby d10_9) rfl ?_
    exact retI X3 hx hret (hb hby d10_10) hr
-- com/example/bare_queue/barequeue/QueueName.of(Ljava/lang/String;)Lcom/example/bare_queue/barequeue/QueueName;
abbrev Rm44 : Room := { frames := 6, cells := 1, slots := 4, locals := 120 }
def Q44 (Z : State) (a1 : Addr) (a2 : Addr) (i3 : Int32) (i4 : Int32) (i5 : Int32) (ck6 : ClassId) (i7 : Int32) (r9 : Value) (h0 : Heap) (n0 : Nat) (v : Option Value) (h : Heap) (L : List Loc) : Prop := ∃ b7 : Addr, v = some (.ref b7) ∧ Fr n0 L ∧ Keep h0 h [] ∧ h0.size ≤ b7 ∧ Exa Z h b7 "com/example/bare_queue/barequeue/QueueName" ∧ Fld Z h b7 "com/example/bare_queue/barequeue/QueueName" "value" "Ljava/lang/String;" (.ref a1)
theorem ef44 (a1 : Addr) (m : MethodId) : entryFrame m #[(.ref a1)] 3 = mkF m 0 #[.val (.ref a1), .unset, .unset] [] := by first | (simp [entryFrame, mkF, argsToLocals, Value.category]; done) | rfl
theorem rm44 (l : Launch) (Z : State) (a0 : Array Value) (hw : ∀ d ∈ tables_1, d.before a0 Z = true) (ws : List Jvm.Cond) (a1 : Addr) (a2 : Addr) (i3 : Int32) (i4 : Int32) (i5 : Int32) (ck6 : ClassId) (i7 : Int32) (r9 : Value) (h0 : Heap) (n0 : Nat) (Z0 : n0 ≤ h0.size) (E_a1 : Exa Z h0 a1 "java/lang/String") (F_value_a1 : Fld Z h0 a1 "java/lang/String" "value" "[B" (.ref a2)) (V_a2 : Arv Z h0 a2 ck6 .byte (3 : Int32) [(.int i3), (.int i4), (.int i5)] (.int (0 : Int32))) (S_COMPACT_STRINGS : Sta Z Z.heap "java/lang/String" "COMPACT_STRINGS" "Z" (.int i7)) (Od0 : Old Z n0 h0) (c8 : ¬ (i7 = (0 : Int32))) (F_coder_a1 : Fld Z h0 a1 "java/lang/String" "coder" "B" (.int (0 : Int32))) (R_r9 : r9.isRef = true) (S_SIOOBE_FORMATTER : Sta Z Z.heap "jdk/internal/util/Preconditions" "SIOOBE_FORMATTER" "Ljava/util/function/BiFunction;" r9) (c10 : ¬ ((122 : Int32) < (nar .char (nar .char ((i3 &&& (255 : Int32)).toUInt32.toUInt16.toUInt32.toInt32))))) (c11 : ¬ ((if (nar .char (nar .char ((i3 &&& (255 : Int32)).toUInt32.toUInt16.toUInt32.toInt32))) < (65 : Int32) then (if (nar .char (nar .char ((i3 &&& (255 : Int32)).toUInt32.toUInt16.toUInt32.toInt32))) < (48 : Int32) then (if (nar .char (nar .char ((i3 &&& (255 : Int32)).toUInt32.toUInt16.toUInt32.toInt32))) = (45 : Int32) then (1 : Int32) else (0 : Int32)) else (if (57 : Int32) < (nar .char (nar .char ((i3 &&& (255 : Int32)).toUInt32.toUInt16.toUInt32.toInt32))) then (0 : Int32) else (1 : Int32))) else (if (90 : Int32) < (nar .char (nar .char ((i3 &&& (255 : Int32)).toUInt32.toUInt16.toUInt32.toInt32))) then (if (nar .char (nar .char ((i3 &&& (255 : Int32)).toUInt32.toUInt16.toUInt32.toInt32))) < (97 : Int32) then (if (nar .char (nar .char ((i3 &&& (255 : Int32)).toUInt32.toUInt16.toUInt32.toInt32))) = (95 : Int32) then (1 : Int32) else (0 : Int32)) else (1 : Int32)) else (1 : Int32))) = (0 : Int32))) (c12 : ¬ ((122 : Int32) < (nar .char (nar .char ((i4 &&& (255 : Int32)).toUInt32.toUInt16.toUInt32.toInt32))))) (c13 : ¬ ((if (nar .char (nar .char ((i4 &&& (255 : Int32)).toUInt32.toUInt16.toUInt32.toInt32))) < (65 : Int32) then (if (nar .char (nar .char ((i4 &&& (255 : Int32)).toUInt32.toUInt16.toUInt32.toInt32))) < (48 : Int32) then (if (nar .char (nar .char ((i4 &&& (255 : Int32)).toUInt32.toUInt16.toUInt32.toInt32))) = (45 : Int32) then (1 : Int32) else (0 : Int32)) else (if (57 : Int32) < (nar .char (nar .char ((i4 &&& (255 : Int32)).toUInt32.toUInt16.toUInt32.toInt32))) then (0 : Int32) else (1 : Int32))) else (if (90 : Int32) < (nar .char (nar .char ((i4 &&& (255 : Int32)).toUInt32.toUInt16.toUInt32.toInt32))) then (if (nar .char (nar .char ((i4 &&& (255 : Int32)).toUInt32.toUInt16.toUInt32.toInt32))) < (97 : Int32) then (if (nar .char (nar .char ((i4 &&& (255 : Int32)).toUInt32.toUInt16.toUInt32.toInt32))) = (95 : Int32) then (1 : Int32) else (0 : Int32)) else (1 : Int32)) else (1 : Int32))) = (0 : Int32))) (c14 : ¬ ((122 : Int32) < (nar .char (nar .char ((i5 &&& (255 : Int32)).toUInt32.toUInt16.toUInt32.toInt32))))) (c15 : ¬ ((if (nar .char (nar .char ((i5 &&& (255 : Int32)).toUInt32.toUInt16.toUInt32.toInt32))) < (65 : Int32) then (if (nar .char (nar .char ((i5 &&& (255 : Int32)).toUInt32.toUInt16.toUInt32.toInt32))) < (48 : Int32) then (if (nar .char (nar .char ((i5 &&& (255 : Int32)).toUInt32.toUInt16.toUInt32.toInt32))) = (45 : Int32) then (1 : Int32) else (0 : Int32)) else (if (57 : Int32) < (nar .char (nar .char ((i5 &&& (255 : Int32)).toUInt32.toUInt16.toUInt32.toInt32))) then (0 : Int32) else (1 : Int32))) else (if (90 : Int32) < (nar .char (nar .char ((i5 &&& (255 : Int32)).toUInt32.toUInt16.toUInt32.toInt32))) then (if (nar .char (nar .char ((i5 &&& (255 : Int32)).toUInt32.toUInt16.toUInt32.toInt32))) < (97 : Int32) then (if (nar .char (nar .char ((i5 &&& (255 : Int32)).toUInt32.toUInt16.toUInt32.toInt32))) = (95 : Int32) then (1 : Int32) else (0 : Int32)) else (1 : Int32)) else (1 : Int32))) = (0 : Int32))) :
    OwnMet l Z y_16 prog_12_method_2_code 3 (some (.object "com/example/bare_queue/barequeue/QueueName")) ws Rm44 #[(.ref a1)] h0 (Q44 Z a1 a2 i3 i4 i5 ck6 i7 r9 h0 n0) := by
  refine own_body (plainFor_of_name pn_5) (ef44 a1) ?_
  intro p e s m below meth c s₁ hx hby hml hown hnm hret hZ X0 e0
  have N0 := Fr.nil n0
  obtain ⟨_, T1, L1, X1, hQ1, st1⟩ := own_virtual X0 hx hZ hown (y := y_6) (z := y_6) E_a1 (w_38 hw) (w_39 hw) (notFace_of_selects (args := #[]) (mvT hZ (w_41 hw))) (w_41 hw) (w_40 hw) (w_7 hw) (w_42 hw) (rm42 l Z a0 hw [] a1 a2 i3 i4 i5 ck6 h0 n0 Z0 F_value_a1 V_a2) e0 (Ls := #[.val (.ref a1), .unset, .unset]) (by rw [hml]; rfl) (argsL := []) (rest := []) (lenOf pd_6 rfl) (hb hby d8_5) (W := 0)
  obtain ⟨rfl, Nq1, e1⟩ := hQ1
  have N1 := Fr.app N0 Nq1
  obtain ⟨T2, L2, X2, e2, N2, st2⟩ := tn16 l Z a0 hw a1 (0 : Int32) a2 [(.int i3), (.int i4), (.int i5)] ck6 (3 : Int32) i7 r9 i3 h0 n0 Z0 E_a1 F_value_a1 V_a2 S_COMPACT_STRINGS Od0 c8 F_coder_a1 (by decide) R_r9 S_SIOOBE_FORMATTER (by decide) (by decide) rfl c10 c11 hx hby hml hown hZ X1 e1 N1 (by decide) (by decide)
  obtain ⟨T3, L3, X3, e3, N3, st3⟩ := tn16 l Z a0 hw a1 (1 : Int32) a2 [(.int i3), (.int i4), (.int i5)] ck6 (3 : Int32) i7 r9 i4 h0 n0 Z0 E_a1 F_value_a1 V_a2 S_COMPACT_STRINGS Od0 c8 F_coder_a1 (by decide) R_r9 S_SIOOBE_FORMATTER (by decide) (by decide) rfl c12 c13 hx hby hml hown hZ X2 e2 N2 (by decide) (by decide)
  obtain ⟨T4, L4, X4, e4, N4, st4⟩ := tn16 l Z a0 hw a1 (2 : Int32) a2 [(.int i3), (.int i4), (.int i5)] ck6 (3 : Int32) i7 r9 i5 h0 n0 Z0 E_a1 F_value_a1 V_a2 S_COMPACT_STRINGS Od0 c8 F_coder_a1 (by decide) R_r9 S_SIOOBE_FORMATTER (by decide) (by decide) rfl c14 c15 hx hby hml hown hZ X3 e3 N3 (by decide) (by decide)
  obtain ⟨T5, L5, X5, e5, N5, st5⟩ := tn17 l Z a0 hw a1 (3 : Int32) a2 [(.int i3), (.int i4), (.int i5)] ck6 (3 : Int32) i7 h0 n0 Z0 E_a1 F_value_a1 V_a2 S_COMPACT_STRINGS Od0 c8 F_coder_a1 (by decide) hx hby hml hown hZ X4 e4 N4 (by decide) (by decide)
  obtain ⟨_, T6, L6, X6, hQ6, st6⟩ := own_virtual X5 hx hZ hown (y := y_8) (z := y_8) E_a1 (w_43 hw) (w_44 hw) (notFace_of_selects (args := #[]) (mvT hZ (w_46 hw))) (w_46 hw) (w_45 hw) (w_7 hw) (w_47 hw) (rm43 l Z a0 hw [] a1 a2 i3 i4 i5 ck6 i7 h0 n0 Z0 F_value_a1 V_a2 E_a1 S_COMPACT_STRINGS Od0 c8 F_coder_a1) e5 (Ls := #[.val (.ref a1), .val (.int (3 : Int32)), .unset]) (by rw [hml]; rfl) (argsL := []) (rest := []) (lenOf pd_8 rfl) (hb hby d8_93) (W := 0)
  obtain ⟨rfl, Nq6, e6⟩ := hQ6
  have N6 := Fr.app N5 Nq6
  obtain ⟨T7, h7, X7, e7, E7, A7, D7, -, st7⟩ := newO X6 hx hZ hown (w_78 hw) (w_79 hw) (w_36 hw) e6 (g := (mkF m 118 #[.val (.ref a1), .val (.int (3 : Int32)), .unset] [])) rfl (hb hby d8_118) (by decide) (by decide)
  obtain ⟨b7, g7⟩ : ∃ z, z = h0.size := ⟨_, rfl⟩
  rw [← g7] at A7 D7 st7
  have s0 := E7.1
  have Fn7_value : Fld Z h7 b7 "com/example/bare_queue/barequeue/QueueName" "value" "Ljava/lang/String;" .null := D7 (Or.inr (w_85 hw)) (ty := (.object "java/lang/String")) (by decide)
  have g_b7 : n0 ≤ b7 := Nat.le_trans Z0 (Nat.le_of_eq g7.symm)
  have z1 := Nat.le_trans Z0 s0
  obtain ⟨_, T8, L8, X8, hQ8, st8⟩ := own_special X7 hx hZ hown (y := y_15) (a := b7) (w_80 hw) (w_81 hw) (w_36 hw) (w_82 hw) (rm19 l Z a0 hw [] b7 a1 h7 n0 z1 Fn7_value A7 g_b7) e7 (Ls := #[.val (.ref a1), .val (.int (3 : Int32)), .unset]) (by rw [hml]; rfl) (argsL := [(.ref a1)]) (rest := [(.ref b7)]) (lenOf pd_13 rfl) (hb hby d8_123) (W := 1)
  obtain ⟨rfl, Nq8, K8, o8_0, o8_1⟩ := hQ8
  have N8 := Fr.app N6 Nq8
  have s1 := K8.1
  have sz_b7 : h0.size ≤ b7 := (Nat.le_of_eq g7.symm)
  have Kp0 : Keep h0 h7 [] := (Keep.refl h0 []).ext E7
  have Kp1 : Keep h0 T8.heap [] := Kp0.trans K8 (allS (Or.inr sz_b7) all0)
  refine ⟨T8, _, _, _, (some (.ref b7)), X8, nofun, by decide, by decide, ?_, fun fs hr => ?_⟩
  · show Q44 Z a1 a2 i3 i4 i5 ck6 i7 r9 h0 n0 _ T8.heap _
    exact ⟨b7, rfl, N8, Kp1, sz_b7, o8_0, o8_1⟩
  · show Steps p.tables e below (s₁.setTop (mkF m 0 #[.val (.ref a1), .unset, .unset] [])) _
    refine XS.aloadN X0.here hx rfl (hb hby d8_0) rfl rfl ?_
    refine XS.ifnullNo X0.here hx rfl (hb hby d8_1) rfl ?_
    refine XS.aloadN X0.here hx rfl (hb hby d8_4) rfl rfl ?_
    refine st1 _ ?_
    refine XS.ifYes X1.here hx rfl (pc0 := 8) (pc' := 21) rfl (hb hby d8_8) rfl ((if0 _ _).trans (teq ((by decide : (0 : Int32) = (0 : Int32)) : (0 : Int32) = (0 : Int32))).1) (by decide) (by decide) ?_
    refine XS.iconst X1.here hx rfl (hb hby d8_21) ?_
    refine XS.istoreN X1.here hx rfl (hb hby d8_22) rfl (l' := #[.val (.ref a1), .val (.int (0 : Int32)), .unset]) rfl ?_
    refine st2 _ ?_
    refine st3 _ ?_
    refine st4 _ ?_
    refine st5 _ ?_
    show Steps p.tables e below (T5.setTop (mkF m 92 #[.val (.ref a1), .val (.int (3 : Int32)), .unset] [])) _
    refine XS.aloadN X5.here hx rfl (hb hby d8_92) rfl rfl ?_
    refine st6 _ ?_
    refine XS.bipush X6.here hx rfl (hb hby d8_96) ?_
    refine XS.icmpYes X6.here hx rfl (pc0 := 98) (pc' := 118) rfl (hb hby d8_98) rfl (flt ((by decide : ¬ ((80 : Int32) < (3 : Int32))) : ¬ ((80 : Int32) < (3 : Int32)))).2.2.2 (by decide) (by decide) ?_
    refine st7 _ ?_
    refine XS.dup X7.here hx rfl (hb hby d8_121) rfl rfl ?_
    refine XS.aloadN X7.here hx rfl (hb hby d8_122) rfl rfl ?_
    refine st8 _ ?_
    exact retOut X8 hx hret rfl (Or.inr (Or.inr (Or.inr (Or.inr ⟨rfl, rfl, rfl⟩)))) (hb hby d8_126) hr
-- java/lang/StringLatin1.equals([B[B)Z
abbrev Rm45 : Room := { frames := 0, cells := 0, slots := 0, locals := 0 }
def Q45 (Z : State) (a1 : Addr) (a2 : Addr) (i3 : Int32) (i4 : Int32) (i5 : Int32) (ck6 : ClassId) (ck7 : ClassId) (h0 : Heap) (n0 : Nat) (v : Option Value) (h : Heap) (L : List Loc) : Prop := v = some (.int (1 : Int32)) ∧ Fr n0 L ∧ h = h0
theorem ef45 (a1 : Addr) (a2 : Addr) (m : MethodId) : entryFrame m #[(.ref a1), (.ref a2)] 3 = mkF m 0 #[.val (.ref a1), .val (.ref a2), .unset] [] := by first | (simp [entryFrame, mkF, argsToLocals, Value.category]; done) | rfl
theorem rm45 (l : Launch) (Z : State) (a0 : Array Value) (hw : ∀ d ∈ tables_1, d.before a0 Z = true) (ws : List Jvm.Cond) (a1 : Addr) (a2 : Addr) (i3 : Int32) (i4 : Int32) (i5 : Int32) (ck6 : ClassId) (ck7 : ClassId) (h0 : Heap) (n0 : Nat) (Z0 : n0 ≤ h0.size) (V_a1 : Arv Z h0 a1 ck6 .byte (3 : Int32) [(.int i3), (.int i4), (.int i5)] (.int (0 : Int32))) (V_a2 : Arv Z h0 a2 ck7 .byte (3 : Int32) [(.int i3), (.int i4), (.int i5)] (.int (0 : Int32))) :
    OwnMet l Z y_19 jdk_43_method_13_code 3 (some .boolean) ws Rm45 #[(.ref a1), (.ref a2)] h0 (Q45 Z a1 a2 i3 i4 i5 ck6 ck7 h0 n0) := by
  refine own_body (plainFor_of_name pn_4) (ef45 a1 a2) ?_
  intro p e s m below meth c s₁ hx hby hml hown hnm hret hZ X0 e0
  have N0 := Fr.nil n0
  obtain ⟨cl1, Ar1, q1, S1, M1, Hs1, G1⟩ := id V_a1
  obtain ⟨cl2, Ar2, q2, S2, M2, Hs2, G2⟩ := id V_a2
  have hin3 : ¬ ((0 : Int32) < 0 ∨ cl1.slots.size ≤ ((0 : Int32)).toNatClampNeg) := inb_of S1 ⟨(by decide : ¬ ((0 : Int32) < (0 : Int32))), (by decide : (0 : Int32) < (3 : Int32))⟩
  have hin4 : ¬ ((0 : Int32) < 0 ∨ cl2.slots.size ≤ ((0 : Int32)).toNatClampNeg) := inb_of S2 ⟨(by decide : ¬ ((0 : Int32) < (0 : Int32))), (by decide : (0 : Int32) < (3 : Int32))⟩
  have hin5 : ¬ ((1 : Int32) < 0 ∨ cl1.slots.size ≤ ((1 : Int32)).toNatClampNeg) := inb_of S1 ⟨(by decide : ¬ ((1 : Int32) < (0 : Int32))), (by decide : (1 : Int32) < (3 : Int32))⟩
  have hin6 : ¬ ((1 : Int32) < 0 ∨ cl2.slots.size ≤ ((1 : Int32)).toNatClampNeg) := inb_of S2 ⟨(by decide : ¬ ((1 : Int32) < (0 : Int32))), (by decide : (1 : Int32) < (3 : Int32))⟩
  have hin7 : ¬ ((2 : Int32) < 0 ∨ cl1.slots.size ≤ ((2 : Int32)).toNatClampNeg) := inb_of S1 ⟨(by decide : ¬ ((2 : Int32) < (0 : Int32))), (by decide : (2 : Int32) < (3 : Int32))⟩
  have hin8 : ¬ ((2 : Int32) < 0 ∨ cl2.slots.size ≤ ((2 : Int32)).toNatClampNeg) := inb_of S2 ⟨(by decide : ¬ ((2 : Int32) < (0 : Int32))), (by decide : (2 : Int32) < (3 : Int32))⟩
  refine ⟨s₁, _, _, _, (some (.int (1 : Int32))), X0, nofun, by decide, by decide, ?_, fun fs hr => ?_⟩
  · show Q45 Z a1 a2 i3 i4 i5 ck6 ck7 h0 n0 _ s₁.heap _
    rw [e0]
    exact ⟨rfl, N0, rfl⟩
  · show Steps p.tables e below (s₁.setTop (mkF m 0 #[.val (.ref a1), .val (.ref a2), .unset] [])) _
    refine XS.aloadN X0.here hx rfl (hb hby d22_0) rfl rfl ?_
    refine X0.arraylength hx (by rw [e0]; exact Ar1.1) (State.isArrayOf_alike hZ.alike Ar1.2.1) (g := (mkF m 1 #[.val (.ref a1), .val (.ref a2), .unset] [(.ref a1)])) rfl rfl (hb hby d22_1) _ ?_
    show Steps p.tables e below (s₁.setTop (mkF m 2 #[.val (.ref a1), .val (.ref a2), .unset] [(.int cl1.slots.size.toInt32)])) _
    rw [len_of S1 M1]
    refine XS.aloadN X0.here hx rfl (hb hby d22_2) rfl rfl ?_
    refine X0.arraylength hx (by rw [e0]; exact Ar2.1) (State.isArrayOf_alike hZ.alike Ar2.2.1) (g := (mkF m 3 #[.val (.ref a1), .val (.ref a2), .unset] [(.ref a2), (.int (3 : Int32))])) rfl rfl (hb hby d22_3) _ ?_
    show Steps p.tables e below (s₁.setTop (mkF m 4 #[.val (.ref a1), .val (.ref a2), .unset] [(.int cl2.slots.size.toInt32), (.int (3 : Int32))])) _
    rw [len_of S2 M2]
    refine XS.icmpNo X0.here hx rfl (hb hby d22_4) rfl (teq ((by decide : (3 : Int32) = (3 : Int32)) : (3 : Int32) = (3 : Int32))).2 ?_
    refine XS.iconst X0.here hx rfl (hb hby d22_7) ?_
    refine XS.istoreN X0.here hx rfl (hb hby d22_8) rfl (l' := #[.val (.ref a1), .val (.ref a2), .val (.int (0 : Int32))]) rfl ?_
    refine XS.iloadN X0.here hx rfl (hb hby d22_9) rfl ?_
    refine XS.aloadN X0.here hx rfl (hb hby d22_10) rfl rfl ?_
    refine X0.arraylength hx (by rw [e0]; exact Ar1.1) (State.isArrayOf_alike hZ.alike Ar1.2.1) (g := (mkF m 11 #[.val (.ref a1), .val (.ref a2), .val (.int (0 : Int32))] [(.ref a1), (.int (0 : Int32))])) rfl rfl (hb hby d22_11) _ ?_
    show Steps p.tables e below (s₁.setTop (mkF m 12 #[.val (.ref a1), .val (.ref a2), .val (.int (0 : Int32))] [(.int cl1.slots.size.toInt32), (.int (0 : Int32))])) _
    rw [len_of S1 M1]
    refine XS.icmpNo X0.here hx rfl (hb hby d22_12) rfl (tlt ((by decide : (0 : Int32) < (3 : Int32)) : (0 : Int32) < (3 : Int32))).2.1 ?_
    refine XS.aloadN X0.here hx rfl (hb hby d22_15) rfl rfl ?_
    refine XS.iloadN X0.here hx rfl (hb hby d22_16) rfl ?_
    refine X0.baloadBytes hx (j := (0 : Int32)) (v := (.int i3)) (by rw [e0]; exact Ar1.1) (State.isArrayOf_alike hZ.alike Ar1.2.1) Ar1.2.2 hin3 (Has.at Hs1 hin3 rfl) (g := (mkF m 17 #[.val (.ref a1), .val (.ref a2), .val (.int (0 : Int32))] [(.int (0 : Int32)), (.ref a1)])) rfl rfl (hb hby d22_17) _ ?_
    refine XS.aloadN X0.here hx rfl (hb hby d22_18) rfl rfl ?_
    refine XS.iloadN X0.here hx rfl (hb hby d22_19) rfl ?_
    refine X0.baloadBytes hx (j := (0 : Int32)) (v := (.int i3)) (by rw [e0]; exact Ar2.1) (State.isArrayOf_alike hZ.alike Ar2.2.1) Ar2.2.2 hin4 (Has.at Hs2 hin4 rfl) (g := (mkF m 20 #[.val (.ref a1), .val (.ref a2), .val (.int (0 : Int32))] [(.int (0 : Int32)), (.ref a2), (.int i3)])) rfl rfl (hb hby d22_20) _ ?_
    refine XS.icmpYes X0.here hx rfl (pc0 := 21) (pc' := 26) rfl (hb hby d22_21) rfl (teq (rfl : i3 = i3)).1 (by decide) (by decide) ?_
    refine XS.iinc X0.here hx rfl (hb hby d22_26) rfl (l' := #[.val (.ref a1), .val (.ref a2), .val (.int (1 : Int32))]) rfl ?_
    refine XS.goto X0.here hx rfl (pc0 := 29) (pc' := 9) rfl (hb hby d22_29) (by decide) (by decide) ?_
    refine XS.iloadN X0.here hx rfl (hb hby d22_9) rfl ?_
    show Steps p.tables e below (s₁.setTop (mkF m 10 #[.val (.ref a1), .val (.ref a2), .val (.int (1 : Int32))] [(.int (1 : Int32))])) _
    refine XS.aloadN X0.here hx rfl (hb hby d22_10) rfl rfl ?_
    refine X0.arraylength hx (by rw [e0]; exact Ar1.1) (State.isArrayOf_alike hZ.alike Ar1.2.1) (g := (mkF m 11 #[.val (.ref a1), .val (.ref a2), .val (.int (1 : Int32))] [(.ref a1), (.int (1 : Int32))])) rfl rfl (hb hby d22_11) _ ?_
    show Steps p.tables e below (s₁.setTop (mkF m 12 #[.val (.ref a1), .val (.ref a2), .val (.int (1 : Int32))] [(.int cl1.slots.size.toInt32), (.int (1 : Int32))])) _
    rw [len_of S1 M1]
    refine XS.icmpNo X0.here hx rfl (hb hby d22_12) rfl (tlt ((by decide : (1 : Int32) < (3 : Int32)) : (1 : Int32) < (3 : Int32))).2.1 ?_
    refine XS.aloadN X0.here hx rfl (hb hby d22_15) rfl rfl ?_
    refine XS.iloadN X0.here hx rfl (hb hby d22_16) rfl ?_
    refine X0.baloadBytes hx (j := (1 : Int32)) (v := (.int i4)) (by rw [e0]; exact Ar1.1) (State.isArrayOf_alike hZ.alike Ar1.2.1) Ar1.2.2 hin5 (Has.at Hs1 hin5 rfl) (g := (mkF m 17 #[.val (.ref a1), .val (.ref a2), .val (.int (1 : Int32))] [(.int (1 : Int32)), (.ref a1)])) rfl rfl (hb hby d22_17) _ ?_
    refine XS.aloadN X0.here hx rfl (hb hby d22_18) rfl rfl ?_
    refine XS.iloadN X0.here hx rfl (hb hby d22_19) rfl ?_
    refine X0.baloadBytes hx (j := (1 : Int32)) (v := (.int i4)) (by rw [e0]; exact Ar2.1) (State.isArrayOf_alike hZ.alike Ar2.2.1) Ar2.2.2 hin6 (Has.at Hs2 hin6 rfl) (g := (mkF m 20 #[.val (.ref a1), .val (.ref a2), .val (.int (1 : Int32))] [(.int (1 : Int32)), (.ref a2), (.int i4)])) rfl rfl (hb hby d22_20) _ ?_
    refine XS.icmpYes X0.here hx rfl (pc0 := 21) (pc' := 26) rfl (hb hby d22_21) rfl (teq (rfl : i4 = i4)).1 (by decide) (by decide) ?_
    refine XS.iinc X0.here hx rfl (hb hby d22_26) rfl (l' := #[.val (.ref a1), .val (.ref a2), .val (.int (2 : Int32))]) rfl ?_
    refine XS.goto X0.here hx rfl (pc0 := 29) (pc' := 9) rfl (hb hby d22_29) (by decide) (by decide) ?_
    refine XS.iloadN X0.here hx rfl (hb hby d22_9) rfl ?_
    show Steps p.tables e below (s₁.setTop (mkF m 10 #[.val (.ref a1), .val (.ref a2), .val (.int (2 : Int32))] [(.int (2 : Int32))])) _
    refine XS.aloadN X0.here hx rfl (hb hby d22_10) rfl rfl ?_
    refine X0.arraylength hx (by rw [e0]; exact Ar1.1) (State.isArrayOf_alike hZ.alike Ar1.2.1) (g := (mkF m 11 #[.val (.ref a1), .val (.ref a2), .val (.int (2 : Int32))] [(.ref a1), (.int (2 : Int32))])) rfl rfl (hb hby d22_11) _ ?_
    show Steps p.tables e below (s₁.setTop (mkF m 12 #[.val (.ref a1), .val (.ref a2), .val (.int (2 : Int32))] [(.int cl1.slots.size.toInt32), (.int (2 : Int32))])) _
    rw [len_of S1 M1]
    refine XS.icmpNo X0.here hx rfl (hb hby d22_12) rfl (tlt ((by decide : (2 : Int32) < (3 : Int32)) : (2 : Int32) < (3 : Int32))).2.1 ?_
    refine XS.aloadN X0.here hx rfl (hb hby d22_15) rfl rfl ?_
    refine XS.iloadN X0.here hx rfl (hb hby d22_16) rfl ?_
    refine X0.baloadBytes hx (j := (2 : Int32)) (v := (.int i5)) (by rw [e0]; exact Ar1.1) (State.isArrayOf_alike hZ.alike Ar1.2.1) Ar1.2.2 hin7 (Has.at Hs1 hin7 rfl) (g := (mkF m 17 #[.val (.ref a1), .val (.ref a2), .val (.int (2 : Int32))] [(.int (2 : Int32)), (.ref a1)])) rfl rfl (hb hby d22_17) _ ?_
    refine XS.aloadN X0.here hx rfl (hb hby d22_18) rfl rfl ?_
    refine XS.iloadN X0.here hx rfl (hb hby d22_19) rfl ?_
    refine X0.baloadBytes hx (j := (2 : Int32)) (v := (.int i5)) (by rw [e0]; exact Ar2.1) (State.isArrayOf_alike hZ.alike Ar2.2.1) Ar2.2.2 hin8 (Has.at Hs2 hin8 rfl) (g := (mkF m 20 #[.val (.ref a1), .val (.ref a2), .val (.int (2 : Int32))] [(.int (2 : Int32)), (.ref a2), (.int i5)])) rfl rfl (hb hby d22_20) _ ?_
    refine XS.icmpYes X0.here hx rfl (pc0 := 21) (pc' := 26) rfl (hb hby d22_21) rfl (teq (rfl : i5 = i5)).1 (by decide) (by decide) ?_
    refine XS.iinc X0.here hx rfl (hb hby d22_26) rfl (l' := #[.val (.ref a1), .val (.ref a2), .val (.int (3 : Int32))]) rfl ?_
    refine XS.goto X0.here hx rfl (pc0 := 29) (pc' := 9) rfl (hb hby d22_29) (by decide) (by decide) ?_
    refine XS.iloadN X0.here hx rfl (hb hby d22_9) rfl ?_
    show Steps p.tables e below (s₁.setTop (mkF m 10 #[.val (.ref a1), .val (.ref a2), .val (.int (3 : Int32))] [(.int (3 : Int32))])) _
    refine XS.aloadN X0.here hx rfl (hb hby d22_10) rfl rfl ?_
    refine X0.arraylength hx (by rw [e0]; exact Ar1.1) (State.isArrayOf_alike hZ.alike Ar1.2.1) (g := (mkF m 11 #[.val (.ref a1), .val (.ref a2), .val (.int (3 : Int32))] [(.ref a1), (.int (3 : Int32))])) rfl rfl (hb hby d22_11) _ ?_
    show Steps p.tables e below (s₁.setTop (mkF m 12 #[.val (.ref a1), .val (.ref a2), .val (.int (3 : Int32))] [(.int cl1.slots.size.toInt32), (.int (3 : Int32))])) _
    rw [len_of S1 M1]
    refine XS.icmpYes X0.here hx rfl (pc0 := 12) (pc' := 32) rfl (hb hby d22_12) rfl (flt ((by decide : ¬ ((3 : Int32) < (3 : Int32))) : ¬ ((3 : Int32) < (3 : Int32)))).2.1 (by decide) (by decide) ?_
    refine XS.iconst X0.here hx rfl (hb hby d22_32) ?_
    exact retN X0 hx (t := .boolean) hret (by simp) (hb hby d22_33) hr
-- java/lang/String.equals(Ljava/lang/Object;)Z
abbrev Rm46 : Room := { frames := 1, cells := 0, slots := 0, locals := 14 }
def Q46 (Z : State) (a1 : Addr) (a2 : Addr) (i3 : Int32) (a5 : Addr) (a6 : Addr) (i7 : Int32) (i8 : Int32) (i9 : Int32) (ck10 : ClassId) (ck11 : ClassId) (h0 : Heap) (n0 : Nat) (v : Option Value) (h : Heap) (L : List Loc) : Prop := v = some (.int (1 : Int32)) ∧ Fr n0 L ∧ h = h0
theorem ef46 (a1 : Addr) (a2 : Addr) (m : MethodId) : entryFrame m #[(.ref a1), (.ref a2)] 3 = mkF m 0 #[.val (.ref a1), .val (.ref a2), .unset] [] := by first | (simp [entryFrame, mkF, argsToLocals, Value.category]; done) | rfl
theorem rm46 (l : Launch) (Z : State) (a0 : Array Value) (hw : ∀ d ∈ tables_1, d.before a0 Z = true) (ws : List Jvm.Cond) (a1 : Addr) (a2 : Addr) (i3 : Int32) (a5 : Addr) (a6 : Addr) (i7 : Int32) (i8 : Int32) (i9 : Int32) (ck10 : ClassId) (ck11 : ClassId) (h0 : Heap) (n0 : Nat) (Z0 : n0 ≤ h0.size) (ne_a1_a2 : a1 ≠ a2) (E_a2 : Exa Z h0 a2 "java/lang/String") (S_COMPACT_STRINGS : Sta Z Z.heap "java/lang/String" "COMPACT_STRINGS" "Z" (.int i3)) (Od0 : Old Z n0 h0) (c4 : ¬ (i3 = (0 : Int32))) (F_coder_a1 : Fld Z h0 a1 "java/lang/String" "coder" "B" (.int (0 : Int32))) (F_coder_a2 : Fld Z h0 a2 "java/lang/String" "coder" "B" (.int (0 : Int32))) (F_value_a1 : Fld Z h0 a1 "java/lang/String" "value" "[B" (.ref a5)) (F_value_a2 : Fld Z h0 a2 "java/lang/String" "value" "[B" (.ref a6)) (V_a5 : Arv Z h0 a5 ck10 .byte (3 : Int32) [(.int i7), (.int i8), (.int i9)] (.int (0 : Int32))) (V_a6 : Arv Z h0 a6 ck11 .byte (3 : Int32) [(.int i7), (.int i8), (.int i9)] (.int (0 : Int32))) :
    OwnMet l Z y_18 jdk_42_method_66_code 3 (some .boolean) ws Rm46 #[(.ref a1), (.ref a2)] h0 (Q46 Z a1 a2 i3 a5 a6 i7 i8 i9 ck10 ck11 h0 n0) := by
  refine own_body (plainFor_of_name pn_2) (ef46 a1 a2) ?_
  intro p e s m below meth c s₁ hx hby hml hown hnm hret hZ X0 e0
  have N0 := Fr.nil n0
  obtain ⟨T1, X1, e1, st1⟩ := instY X0 hx hZ hown (w_104 hw) e0 (Ins.self E_a2) (g := (mkF m 8 #[.val (.ref a1), .val (.ref a2), .unset] [(.ref a2)])) rfl rfl (hb hby d20_8)
  obtain ⟨T2, X2, e2, st2⟩ := castY X1 hx hZ hown (w_104 hw) e1 (Ins.self E_a2) (g := (mkF m 15 #[.val (.ref a1), .val (.ref a2), .unset] [(.ref a2)])) rfl rfl (hb hby d20_15)
  obtain ⟨T3, X3, e3, st3⟩ := getS2 X2 hx hZ hown (host := "") (Or.inl (w_18 hw)) Via.refl e2 (S_COMPACT_STRINGS.ext Od0.2) (g := (mkF m 19 #[.val (.ref a1), .val (.ref a2), .val (.ref a2)] [])) rfl (hb hby d20_19)
  obtain ⟨T4, X4, e4, st4⟩ := getF X3 hx hZ hown (host := "") (Or.inl (w_30 hw)) Via.refl e3 F_coder_a1 (g := (mkF m 26 #[.val (.ref a1), .val (.ref a2), .val (.ref a2)] [(.ref a1)])) rfl rfl (hb hby d20_26)
  obtain ⟨T5, X5, e5, st5⟩ := getF X4 hx hZ hown (host := "") (Or.inl (w_30 hw)) Via.refl e4 F_coder_a2 (g := (mkF m 30 #[.val (.ref a1), .val (.ref a2), .val (.ref a2)] [(.ref a2), (.int (0 : Int32))])) rfl rfl (hb hby d20_30)
  obtain ⟨T6, X6, e6, st6⟩ := getF X5 hx hZ hown (host := "") (Or.inl (w_32 hw)) Via.refl e5 F_value_a1 (g := (mkF m 37 #[.val (.ref a1), .val (.ref a2), .val (.ref a2)] [(.ref a1)])) rfl rfl (hb hby d20_37)
  obtain ⟨T7, X7, e7, st7⟩ := getF X6 hx hZ hown (host := "") (Or.inl (w_32 hw)) Via.refl e6 F_value_a2 (g := (mkF m 41 #[.val (.ref a1), .val (.ref a2), .val (.ref a2)] [(.ref a2), (.ref a5)])) rfl rfl (hb hby d20_41)
  obtain ⟨_, T8, L8, X8, hQ8, st8⟩ := own_callS X7 hx hZ hown (y := y_19) (w_105 hw) (w_106 hw) (w_65 hw) (w_107 hw) (rm45 l Z a0 hw [] a5 a6 i7 i8 i9 ck10 ck11 h0 n0 Z0 V_a5 V_a6) e7 (Ls := #[.val (.ref a1), .val (.ref a2), .val (.ref a2)]) (by rw [hml]; rfl) (argsL := [(.ref a5), (.ref a6)]) (rest := []) (lenOf pd_17 rfl) (hb hby d20_44) (W := 0)
  obtain ⟨rfl, Nq8, e8⟩ := hQ8
  have N8 := Fr.app N0 Nq8
  refine ⟨T8, _, _, _, (some (.int (1 : Int32))), X8, nofun, by decide, by decide, ?_, fun fs hr => ?_⟩
  · show Q46 Z a1 a2 i3 a5 a6 i7 i8 i9 ck10 ck11 h0 n0 _ T8.heap _
    rw [e8]
    exact ⟨rfl, N8, rfl⟩
  · show Steps p.tables e below (s₁.setTop (mkF m 0 #[.val (.ref a1), .val (.ref a2), .unset] [])) _
    refine XS.aloadN X0.here hx rfl (hb hby d20_0) rfl rfl ?_
    refine XS.aloadN X0.here hx rfl (hb hby d20_1) rfl rfl ?_
    refine Jvm.RoadKit.acmp (g := (mkF m 2 #[.val (.ref a1), .val (.ref a2), .unset] [(.ref a2), (.ref a1)])) X0 hx rfl rfl rfl (pc0 := 2) (pc' := 7) (same := false) rfl (hb hby d20_2) rfl (decide_eq_false fun q => ne_a1_a2 (Value.ref.inj q)) (by decide) (by decide) ?_
    refine XS.aloadN X0.here hx rfl (hb hby d20_7) rfl rfl ?_
    refine st1 _ ?_
    refine XS.ifNo X1.here hx rfl (hb hby d20_11) rfl ((if0 _ _).trans (feq ((by decide : ¬ ((1 : Int32) = (0 : Int32))) : ¬ ((1 : Int32) = (0 : Int32)))).1) ?_
    refine XS.aloadN X1.here hx rfl (hb hby d20_14) rfl rfl ?_
    refine st2 _ ?_
    refine XS.astoreN X2.here hx rfl (hb hby d20_18) rfl rfl (l' := #[.val (.ref a1), .val (.ref a2), .val (.ref a2)]) rfl ?_
    refine st3 _ ?_
    refine XS.ifNo X3.here hx rfl (hb hby d20_22) rfl ((if0 _ _).trans (feq (c4 : ¬ (i3 = (0 : Int32)))).1) ?_
    refine XS.aloadN X3.here hx rfl (hb hby d20_25) rfl rfl ?_
    show Steps p.tables e below (T3.setTop (mkF m 26 #[.val (.ref a1), .val (.ref a2), .val (.ref a2)] [(.ref a1)])) _
    refine st4 _ ?_
    refine XS.aloadN X4.here hx rfl (hb hby d20_29) rfl rfl ?_
    refine st5 _ ?_
    refine XS.icmpNo X5.here hx rfl (hb hby d20_33) rfl (teq ((by decide : (0 : Int32) = (0 : Int32)) : (0 : Int32) = (0 : Int32))).2 ?_
    refine XS.aloadN X5.here hx rfl (hb hby d20_36) rfl rfl ?_
    refine st6 _ ?_
    refine XS.aloadN X6.here hx rfl (hb hby d20_40) rfl rfl ?_
    refine st7 _ ?_
    refine st8 _ ?_
    refine XS.ifNo X8.here hx rfl (hb hby d20_47) rfl ((if0 _ _).trans (feq ((by decide : ¬ ((1 : Int32) = (0 : Int32))) : ¬ ((1 : Int32) = (0 : Int32)))).1) ?_
    refine XS.iconst X8.here hx rfl (hb hby d20_50) ?_
    refine XS.goto X8.here hx rfl (pc0 := 51) (pc' := 55) rfl (hb hby d20_51) (by decide) (by decide) ?_
    show Steps p.tables e below (T8.setTop (mkF m 55 #[.val (.ref a1), .val (.ref a2), .val (.ref a2)] [(.int (1 : Int32))])) _
    exact retN X8 hx (t := .boolean) hret (by simp) (hb hby d20_55) hr
-- com/example/bare_queue/barequeue/QueueName.equals(Ljava/lang/Object;)Z
abbrev Rm47 : Room := { frames := 2, cells := 0, slots := 0, locals := 28 }
def Q47 (Z : State) (a1 : Addr) (a2 : Addr) (a3 : Addr) (a4 : Addr) (i5 : Int32) (a7 : Addr) (a8 : Addr) (i9 : Int32) (i10 : Int32) (i11 : Int32) (ck12 : ClassId) (ck13 : ClassId) (h0 : Heap) (n0 : Nat) (v : Option Value) (h : Heap) (L : List Loc) : Prop := v = some (.int (1 : Int32)) ∧ Fr n0 L ∧ h = h0
theorem ef47 (a1 : Addr) (a2 : Addr) (m : MethodId) : entryFrame m #[(.ref a1), (.ref a2)] 3 = mkF m 0 #[.val (.ref a1), .val (.ref a2), .unset] [] := by first | (simp [entryFrame, mkF, argsToLocals, Value.category]; done) | rfl
theorem rm47 (l : Launch) (Z : State) (a0 : Array Value) (hw : ∀ d ∈ tables_1, d.before a0 Z = true) (ws : List Jvm.Cond) (a1 : Addr) (a2 : Addr) (a3 : Addr) (a4 : Addr) (i5 : Int32) (a7 : Addr) (a8 : Addr) (i9 : Int32) (i10 : Int32) (i11 : Int32) (ck12 : ClassId) (ck13 : ClassId) (h0 : Heap) (n0 : Nat) (Z0 : n0 ≤ h0.size) (E_a2 : Exa Z h0 a2 "com/example/bare_queue/barequeue/QueueName") (F_value_a1 : Fld Z h0 a1 "com/example/bare_queue/barequeue/QueueName" "value" "Ljava/lang/String;" (.ref a3)) (F_value_a2 : Fld Z h0 a2 "com/example/bare_queue/barequeue/QueueName" "value" "Ljava/lang/String;" (.ref a4)) (E_a3 : Exa Z h0 a3 "java/lang/String") (ne_a3_a4 : a3 ≠ a4) (E_a4 : Exa Z h0 a4 "java/lang/String") (S_COMPACT_STRINGS : Sta Z Z.heap "java/lang/String" "COMPACT_STRINGS" "Z" (.int i5)) (Od0 : Old Z n0 h0) (c6 : ¬ (i5 = (0 : Int32))) (F_coder_a3 : Fld Z h0 a3 "java/lang/String" "coder" "B" (.int (0 : Int32))) (F_coder_a4 : Fld Z h0 a4 "java/lang/String" "coder" "B" (.int (0 : Int32))) (F_value_a3 : Fld Z h0 a3 "java/lang/String" "value" "[B" (.ref a7)) (F_value_a4 : Fld Z h0 a4 "java/lang/String" "value" "[B" (.ref a8)) (V_a7 : Arv Z h0 a7 ck12 .byte (3 : Int32) [(.int i9), (.int i10), (.int i11)] (.int (0 : Int32))) (V_a8 : Arv Z h0 a8 ck13 .byte (3 : Int32) [(.int i9), (.int i10), (.int i11)] (.int (0 : Int32))) :
    OwnMet l Z y_20 prog_12_method_5_code 3 (some .boolean) ws Rm47 #[(.ref a1), (.ref a2)] h0 (Q47 Z a1 a2 a3 a4 i5 a7 a8 i9 i10 i11 ck12 ck13 h0 n0) := by
  refine own_body (plainFor_of_name pn_5) (ef47 a1 a2) ?_
  intro p e s m below meth c s₁ hx hby hml hown hnm hret hZ X0 e0
  have N0 := Fr.nil n0
  obtain ⟨T1, X1, e1, st1⟩ := instY X0 hx hZ hown (w_78 hw) e0 (Ins.self E_a2) (g := (mkF m 1 #[.val (.ref a1), .val (.ref a2), .unset] [(.ref a2)])) rfl rfl (hb hby d21_1)
  obtain ⟨T2, X2, e2, st2⟩ := castY X1 hx hZ hown (w_78 hw) e1 (Ins.self E_a2) (g := (mkF m 8 #[.val (.ref a1), .val (.ref a2), .unset] [(.ref a2)])) rfl rfl (hb hby d21_8)
  obtain ⟨T3, X3, e3, st3⟩ := getF X2 hx hZ hown (host := "") (Or.inl (w_84 hw)) Via.refl e2 F_value_a1 (g := (mkF m 13 #[.val (.ref a1), .val (.ref a2), .val (.ref a2)] [(.ref a1)])) rfl rfl (hb hby d21_13)
  obtain ⟨T4, X4, e4, st4⟩ := getF X3 hx hZ hown (host := "") (Or.inl (w_84 hw)) Via.refl e3 F_value_a2 (g := (mkF m 17 #[.val (.ref a1), .val (.ref a2), .val (.ref a2)] [(.ref a2), (.ref a3)])) rfl rfl (hb hby d21_17)
  obtain ⟨_, T5, L5, X5, hQ5, st5⟩ := own_virtual X4 hx hZ hown (y := y_18) (z := y_18) E_a3 (w_103 hw) (w_92 hw) (notFace_of_selects (args := #[]) (mvT hZ (w_94 hw))) (w_94 hw) (w_93 hw) (w_7 hw) (w_95 hw) (rm46 l Z a0 hw [] a3 a4 i5 a7 a8 i9 i10 i11 ck12 ck13 h0 n0 Z0 ne_a3_a4 E_a4 S_COMPACT_STRINGS Od0 c6 F_coder_a3 F_coder_a4 F_value_a3 F_value_a4 V_a7 V_a8) e4 (Ls := #[.val (.ref a1), .val (.ref a2), .val (.ref a2)]) (by rw [hml]; rfl) (argsL := [(.ref a4)]) (rest := []) (lenOf pd_16 rfl) (hb hby d21_20) (W := 0)
  obtain ⟨rfl, Nq5, e5⟩ := hQ5
  have N5 := Fr.app N0 Nq5
  refine ⟨T5, _, _, _, (some (.int (1 : Int32))), X5, nofun, by decide, by decide, ?_, fun fs hr => ?_⟩
  · show Q47 Z a1 a2 a3 a4 i5 a7 a8 i9 i10 i11 ck12 ck13 h0 n0 _ T5.heap _
    rw [e5]
    exact ⟨rfl, N5, rfl⟩
  · show Steps p.tables e below (s₁.setTop (mkF m 0 #[.val (.ref a1), .val (.ref a2), .unset] [])) _
    refine XS.aloadN X0.here hx rfl (hb hby d21_0) rfl rfl ?_
    refine st1 _ ?_
    refine XS.ifNo X1.here hx rfl (hb hby d21_4) rfl ((if0 _ _).trans (feq ((by decide : ¬ ((1 : Int32) = (0 : Int32))) : ¬ ((1 : Int32) = (0 : Int32)))).1) ?_
    refine XS.aloadN X1.here hx rfl (hb hby d21_7) rfl rfl ?_
    refine st2 _ ?_
    refine XS.astoreN X2.here hx rfl (hb hby d21_11) rfl rfl (l' := #[.val (.ref a1), .val (.ref a2), .val (.ref a2)]) rfl ?_
    refine XS.aloadN X2.here hx rfl (hb hby d21_12) rfl rfl ?_
    refine st3 _ ?_
    refine XS.aloadN X3.here hx rfl (hb hby d21_16) rfl rfl ?_
    refine st4 _ ?_
    refine st5 _ ?_
    refine XS.ifNo X5.here hx rfl (hb hby d21_23) rfl ((if0 _ _).trans (feq ((by decide : ¬ ((1 : Int32) = (0 : Int32))) : ¬ ((1 : Int32) = (0 : Int32)))).1) ?_
    show Steps p.tables e below (T5.setTop (mkF m 26 #[.val (.ref a1), .val (.ref a2), .val (.ref a2)] [])) _
    refine XS.iconst X5.here hx rfl (hb hby d21_26) ?_
    refine XS.goto X5.here hx rfl (pc0 := 27) (pc' := 31) rfl (hb hby d21_27) (by decide) (by decide) ?_
    exact retN X5 hx (t := .boolean) hret (by simp) (hb hby d21_31) hr
theorem rm0_2 (l : Launch) (Z : State) (a0 : Array Value) (hw : ∀ d ∈ tables_1, d.before a0 Z = true) (ws : List Jvm.Cond) (p1 : Int32) (p2 : Int32) (p3 : Int32) (p4 : Int32) (sr1 : Value) (si2 : Int32) (h0 : Heap) (n0 : Nat) (Z0 : n0 ≤ h0.size) (Od0 : Old Z n0 h0) (R_sr1 : sr1.isRef = true) (nc3 : ¬ (si2 = (0 : Int32))) (S4_SIOOBE_FORMATTER : Sta Z Z.heap "jdk/internal/util/Preconditions" "SIOOBE_FORMATTER" "Ljava/util/function/BiFunction;" sr1) (S5_COMPACT_STRINGS : Sta Z Z.heap "java/lang/String" "COMPACT_STRINGS" "Z" (.int si2)) (hk : (p4 &&& (3 : Int32)) = (2 : Int32)) (hn0 : n0 = h0.size) (hcw : Jvm.Lit.compactW.before a0 Z = true) (hch_7 : Jvm.Lit.constHeld Z "com/example/bare_queue/barequeue/QueueNameOfPinLaw" 7) :
    OwnMet l Z x code maxLocals ret ws room_1 #[(.int p1), (.int p2), (.int p3), (.int p4)] h0 (Q0 n0) := by
  refine own_body (plainFor_of_name pn_0) (ef0 p1 p2 p3 p4) ?_
  intro p e s m below meth c s₁ hx hby hml hown hnm hret hZ X0 e0
  have N0 := Fr.nil n0
  obtain ⟨T1, h1, k1, X1, e1, E1, A1, B1, st1⟩ := newPE (aty := .char) X0 hx hZ (w_0 hw) e0 (g := (mkF m 30 #[.val (.int p1), .val (.int p2), .val (.int p3), .val (.int p4), .val (.int (2 : Int32)), .unset, .unset, .val (.int (3 : Int32)), .unset] [(.int (3 : Int32))])) rfl (hb hby at_30) rfl (by decide) (cap := 3) (by decide) (by decide) (by decide) (by decide) (ad := "[C") (by decide)
  obtain ⟨b1, g1⟩ : ∃ z, z = h0.size := ⟨_, rfl⟩
  rw [← g1] at A1 B1 st1
  have s0 := E1.1
  have Vn1 : Arv Z h1 b1 k1 .char (3 : Int32) [(.int (0 : Int32)), (.int (0 : Int32)), (.int (0 : Int32))] (.int (0 : Int32)) := (Arv.new A1 (by decide)).pad (pad_rep [] (.int (0 : Int32)) 3)
  have z1 := Nat.le_trans Z0 s0
  obtain ⟨_, T2, L2, X2, hQ2, st2⟩ := own_callS X1 hx hZ hown (y := y_0) (w_1 hw) (w_2 hw) (w_3 hw) (w_4 hw) (rm1 l Z a0 hw [] p1 h1 n0 z1) e1 (Ls := #[.val (.int p1), .val (.int p2), .val (.int p3), .val (.int p4), .val (.int (2 : Int32)), .unset, .unset, .val (.int (3 : Int32)), .val (.ref b1)]) (by rw [hml]; rfl) (argsL := [(.int p1)]) (rest := [(.int (0 : Int32)), (.ref b1)]) (lenOf pd_0 rfl) (hb hby at_38) (W := 2)
  obtain ⟨rfl, Nq2, e2⟩ := hQ2
  have N2 := Fr.app N0 Nq2
  obtain ⟨x3, ex3⟩ : ∃ z, z = (if (p1 &&& (63 : Int32)) < (26 : Int32) then (nar .char (((65 : Int32) + (p1 &&& (63 : Int32))).toUInt32.toUInt16.toUInt32.toInt32)) else (if (p1 &&& (63 : Int32)) < (52 : Int32) then (nar .char (((97 : Int32) + ((p1 &&& (63 : Int32)) - (26 : Int32))).toUInt32.toUInt16.toUInt32.toInt32)) else (if (p1 &&& (63 : Int32)) < (62 : Int32) then (nar .char (((48 : Int32) + ((p1 &&& (63 : Int32)) - (52 : Int32))).toUInt32.toUInt16.toUInt32.toInt32)) else (if (p1 &&& (63 : Int32)) = (62 : Int32) then (45 : Int32) else (95 : Int32))))) := ⟨_, rfl⟩
  obtain ⟨cl4, Ar4, q4, S4, M4, Hs4, G4⟩ := id Vn1
  have hin5 : ¬ ((0 : Int32) < 0 ∨ cl4.slots.size ≤ ((0 : Int32)).toNatClampNeg) := inb_of S4 ⟨(by decide : ¬ ((0 : Int32) < (0 : Int32))), (by decide : (0 : Int32) < (3 : Int32))⟩
  obtain ⟨T6, h6, X6, e6, W6, st6⟩ := stC X2 hx hZ e2 Ar4 (j := (0 : Int32)) hin5 (g := (mkF m 41 #[.val (.int p1), .val (.int p2), .val (.int p3), .val (.int p4), .val (.int (2 : Int32)), .unset, .unset, .val (.int (3 : Int32)), .val (.ref b1)] [(.int x3), (.int (0 : Int32)), (.ref b1)])) rfl rfl (hb hby at_41)
  have s1 := (Keep.of_wr W6).1
  have g_b1 : n0 ≤ b1 := Nat.le_trans Z0 (Nat.le_of_eq g1.symm)
  have N6 := Fr.snoc X6 N2 g_b1
  have Vs6 : Arv Z h6 b1 k1 .char (3 : Int32) [(.int (nar .char x3)), (.int (0 : Int32)), (.int (0 : Int32))] (.int (0 : Int32)) := Arv.set Ar4 q4 S4 M4 Hs4 G4 (fits_nar_char _) W6 0 rfl (Nat.le_of_ble_eq_true rfl)
  have z2 := Nat.le_trans Z0 (Nat.le_trans s0 s1)
  obtain ⟨_, T7, L7, X7, hQ7, st7⟩ := own_callS X6 hx hZ hown (y := y_0) (w_1 hw) (w_2 hw) (w_3 hw) (w_4 hw) (rm1 l Z a0 hw [] p2 h6 n0 z2) e6 (Ls := #[.val (.int p1), .val (.int p2), .val (.int p3), .val (.int p4), .val (.int (2 : Int32)), .unset, .unset, .val (.int (3 : Int32)), .val (.ref b1)]) (by rw [hml]; rfl) (argsL := [(.int p2)]) (rest := [(.int (1 : Int32)), (.ref b1)]) (lenOf pd_0 rfl) (hb hby at_52) (W := 2)
  obtain ⟨rfl, Nq7, e7⟩ := hQ7
  have N7 := Fr.app N6 Nq7
  obtain ⟨x8, ex8⟩ : ∃ z, z = (if (p2 &&& (63 : Int32)) < (26 : Int32) then (nar .char (((65 : Int32) + (p2 &&& (63 : Int32))).toUInt32.toUInt16.toUInt32.toInt32)) else (if (p2 &&& (63 : Int32)) < (52 : Int32) then (nar .char (((97 : Int32) + ((p2 &&& (63 : Int32)) - (26 : Int32))).toUInt32.toUInt16.toUInt32.toInt32)) else (if (p2 &&& (63 : Int32)) < (62 : Int32) then (nar .char (((48 : Int32) + ((p2 &&& (63 : Int32)) - (52 : Int32))).toUInt32.toUInt16.toUInt32.toInt32)) else (if (p2 &&& (63 : Int32)) = (62 : Int32) then (45 : Int32) else (95 : Int32))))) := ⟨_, rfl⟩
  obtain ⟨cl9, Ar9, q9, S9, M9, Hs9, G9⟩ := id Vs6
  have hin10 : ¬ ((1 : Int32) < 0 ∨ cl9.slots.size ≤ ((1 : Int32)).toNatClampNeg) := inb_of S9 ⟨(by decide : ¬ ((1 : Int32) < (0 : Int32))), (by decide : (1 : Int32) < (3 : Int32))⟩
  obtain ⟨T11, h11, X11, e11, W11, st11⟩ := stC X7 hx hZ e7 Ar9 (j := (1 : Int32)) hin10 (g := (mkF m 55 #[.val (.int p1), .val (.int p2), .val (.int p3), .val (.int p4), .val (.int (2 : Int32)), .unset, .unset, .val (.int (3 : Int32)), .val (.ref b1)] [(.int x8), (.int (1 : Int32)), (.ref b1)])) rfl rfl (hb hby at_55)
  have s2 := (Keep.of_wr W11).1
  have N11 := Fr.snoc X11 N7 g_b1
  have Vs11 : Arv Z h11 b1 k1 .char (3 : Int32) [(.int (nar .char x3)), (.int (nar .char x8)), (.int (0 : Int32))] (.int (0 : Int32)) := Arv.set Ar9 q9 S9 M9 Hs9 G9 (fits_nar_char _) W11 1 rfl (Nat.le_of_ble_eq_true rfl)
  have z3 := Nat.le_trans Z0 (Nat.le_trans (Nat.le_trans s0 s1) s2)
  obtain ⟨_, T12, L12, X12, hQ12, st12⟩ := own_callS X11 hx hZ hown (y := y_0) (w_1 hw) (w_2 hw) (w_3 hw) (w_4 hw) (rm1 l Z a0 hw [] p3 h11 n0 z3) e11 (Ls := #[.val (.int p1), .val (.int p2), .val (.int p3), .val (.int p4), .val (.int (2 : Int32)), .unset, .unset, .val (.int (3 : Int32)), .val (.ref b1)]) (by rw [hml]; rfl) (argsL := [(.int p3)]) (rest := [(.int (2 : Int32)), (.ref b1)]) (lenOf pd_0 rfl) (hb hby at_66) (W := 2)
  obtain ⟨rfl, Nq12, e12⟩ := hQ12
  have N12 := Fr.app N11 Nq12
  obtain ⟨x13, ex13⟩ : ∃ z, z = (if (p3 &&& (63 : Int32)) < (26 : Int32) then (nar .char (((65 : Int32) + (p3 &&& (63 : Int32))).toUInt32.toUInt16.toUInt32.toInt32)) else (if (p3 &&& (63 : Int32)) < (52 : Int32) then (nar .char (((97 : Int32) + ((p3 &&& (63 : Int32)) - (26 : Int32))).toUInt32.toUInt16.toUInt32.toInt32)) else (if (p3 &&& (63 : Int32)) < (62 : Int32) then (nar .char (((48 : Int32) + ((p3 &&& (63 : Int32)) - (52 : Int32))).toUInt32.toUInt16.toUInt32.toInt32)) else (if (p3 &&& (63 : Int32)) = (62 : Int32) then (45 : Int32) else (95 : Int32))))) := ⟨_, rfl⟩
  obtain ⟨cl14, Ar14, q14, S14, M14, Hs14, G14⟩ := id Vs11
  have hin15 : ¬ ((2 : Int32) < 0 ∨ cl14.slots.size ≤ ((2 : Int32)).toNatClampNeg) := inb_of S14 ⟨(by decide : ¬ ((2 : Int32) < (0 : Int32))), (by decide : (2 : Int32) < (3 : Int32))⟩
  obtain ⟨T16, h16, X16, e16, W16, st16⟩ := stC X12 hx hZ e12 Ar14 (j := (2 : Int32)) hin15 (g := (mkF m 69 #[.val (.int p1), .val (.int p2), .val (.int p3), .val (.int p4), .val (.int (2 : Int32)), .unset, .unset, .val (.int (3 : Int32)), .val (.ref b1)] [(.int x13), (.int (2 : Int32)), (.ref b1)])) rfl rfl (hb hby at_69)
  have s3 := (Keep.of_wr W16).1
  have N16 := Fr.snoc X16 N12 g_b1
  have Vs16 : Arv Z h16 b1 k1 .char (3 : Int32) [(.int (nar .char x3)), (.int (nar .char x8)), (.int (nar .char x13))] (.int (0 : Int32)) := Arv.set Ar14 q14 S14 M14 Hs14 G14 (fits_nar_char _) W16 2 rfl (Nat.le_of_ble_eq_true rfl)
  obtain ⟨T17, h17, X17, e17, E17, A17, D17, -, st17⟩ := newO X16 hx hZ hown (w_5 hw) (w_6 hw) (w_7 hw) e16 (g := (mkF m 70 #[.val (.int p1), .val (.int p2), .val (.int p3), .val (.int p4), .val (.int (2 : Int32)), .unset, .unset, .val (.int (3 : Int32)), .val (.ref b1)] [])) rfl (hb hby at_70) (by decide) (by decide)
  obtain ⟨b17, g17⟩ : ∃ z, z = h16.size := ⟨_, rfl⟩
  rw [← g17] at A17 D17 st17
  have s4 := E17.1
  have Fn17_coder : Fld Z h17 b17 "java/lang/String" "coder" "B" (.int (0 : Int32)) := D17 (Or.inr (w_31 hw)) (ty := .byte) (by decide)
  have Fn17_value : Fld Z h17 b17 "java/lang/String" "value" "[B" .null := D17 (Or.inr (w_33 hw)) (ty := (.array .byte)) (by decide)
  have Va18 := (Vs16.ext E17)
  have Od1 : Old Z n0 h1 := Od0.ext E1
  have Od2 : Old Z n0 h6 := Od1.wr W6 g_b1
  have Od3 : Old Z n0 h11 := Od2.wr W11 g_b1
  have Od4 : Old Z n0 h16 := Od3.wr W16 g_b1
  have Od5 : Old Z n0 h17 := Od4.ext E17
  have cd19 : ¬ ((255 : Int32) < (nar .char (if (p1 &&& (63 : Int32)) < (26 : Int32) then (nar .char (((65 : Int32) + (p1 &&& (63 : Int32))).toUInt32.toUInt16.toUInt32.toInt32)) else (if (p1 &&& (63 : Int32)) < (52 : Int32) then (nar .char (((97 : Int32) + ((p1 &&& (63 : Int32)) - (26 : Int32))).toUInt32.toUInt16.toUInt32.toInt32)) else (if (p1 &&& (63 : Int32)) < (62 : Int32) then (nar .char (((48 : Int32) + ((p1 &&& (63 : Int32)) - (52 : Int32))).toUInt32.toUInt16.toUInt32.toInt32)) else (if (p1 &&& (63 : Int32)) = (62 : Int32) then (45 : Int32) else (95 : Int32))))))) := (by have h : ∀ n : Fin 64, ¬ ((255 : Int32) < (nar .char (if (Int32.ofInt (n.val : Int)) < (26 : Int32) then (nar .char (((65 : Int32) + (Int32.ofInt (n.val : Int))).toUInt32.toUInt16.toUInt32.toInt32)) else (if (Int32.ofInt (n.val : Int)) < (52 : Int32) then (nar .char (((97 : Int32) + ((Int32.ofInt (n.val : Int)) - (26 : Int32))).toUInt32.toUInt16.toUInt32.toInt32)) else (if (Int32.ofInt (n.val : Int)) < (62 : Int32) then (nar .char (((48 : Int32) + ((Int32.ofInt (n.val : Int)) - (52 : Int32))).toUInt32.toUInt16.toUInt32.toInt32)) else (if (Int32.ofInt (n.val : Int)) = (62 : Int32) then (45 : Int32) else (95 : Int32))))))) := (by decide +kernel); obtain ⟨n, hn⟩ := own_fin64 p1; rw [hn]; exact h n)
  have cd20 : ¬ ((255 : Int32) < (nar .char (if (p2 &&& (63 : Int32)) < (26 : Int32) then (nar .char (((65 : Int32) + (p2 &&& (63 : Int32))).toUInt32.toUInt16.toUInt32.toInt32)) else (if (p2 &&& (63 : Int32)) < (52 : Int32) then (nar .char (((97 : Int32) + ((p2 &&& (63 : Int32)) - (26 : Int32))).toUInt32.toUInt16.toUInt32.toInt32)) else (if (p2 &&& (63 : Int32)) < (62 : Int32) then (nar .char (((48 : Int32) + ((p2 &&& (63 : Int32)) - (52 : Int32))).toUInt32.toUInt16.toUInt32.toInt32)) else (if (p2 &&& (63 : Int32)) = (62 : Int32) then (45 : Int32) else (95 : Int32))))))) := (by have h : ∀ n : Fin 64, ¬ ((255 : Int32) < (nar .char (if (Int32.ofInt (n.val : Int)) < (26 : Int32) then (nar .char (((65 : Int32) + (Int32.ofInt (n.val : Int))).toUInt32.toUInt16.toUInt32.toInt32)) else (if (Int32.ofInt (n.val : Int)) < (52 : Int32) then (nar .char (((97 : Int32) + ((Int32.ofInt (n.val : Int)) - (26 : Int32))).toUInt32.toUInt16.toUInt32.toInt32)) else (if (Int32.ofInt (n.val : Int)) < (62 : Int32) then (nar .char (((48 : Int32) + ((Int32.ofInt (n.val : Int)) - (52 : Int32))).toUInt32.toUInt16.toUInt32.toInt32)) else (if (Int32.ofInt (n.val : Int)) = (62 : Int32) then (45 : Int32) else (95 : Int32))))))) := (by decide +kernel); obtain ⟨n, hn⟩ := own_fin64 p2; rw [hn]; exact h n)
  have cd21 : ¬ ((255 : Int32) < (nar .char (if (p3 &&& (63 : Int32)) < (26 : Int32) then (nar .char (((65 : Int32) + (p3 &&& (63 : Int32))).toUInt32.toUInt16.toUInt32.toInt32)) else (if (p3 &&& (63 : Int32)) < (52 : Int32) then (nar .char (((97 : Int32) + ((p3 &&& (63 : Int32)) - (26 : Int32))).toUInt32.toUInt16.toUInt32.toInt32)) else (if (p3 &&& (63 : Int32)) < (62 : Int32) then (nar .char (((48 : Int32) + ((p3 &&& (63 : Int32)) - (52 : Int32))).toUInt32.toUInt16.toUInt32.toInt32)) else (if (p3 &&& (63 : Int32)) = (62 : Int32) then (45 : Int32) else (95 : Int32))))))) := (by have h : ∀ n : Fin 64, ¬ ((255 : Int32) < (nar .char (if (Int32.ofInt (n.val : Int)) < (26 : Int32) then (nar .char (((65 : Int32) + (Int32.ofInt (n.val : Int))).toUInt32.toUInt16.toUInt32.toInt32)) else (if (Int32.ofInt (n.val : Int)) < (52 : Int32) then (nar .char (((97 : Int32) + ((Int32.ofInt (n.val : Int)) - (26 : Int32))).toUInt32.toUInt16.toUInt32.toInt32)) else (if (Int32.ofInt (n.val : Int)) < (62 : Int32) then (nar .char (((48 : Int32) + ((Int32.ofInt (n.val : Int)) - (52 : Int32))).toUInt32.toUInt16.toUInt32.toInt32)) else (if (Int32.ofInt (n.val : Int)) = (62 : Int32) then (45 : Int32) else (95 : Int32))))))) := (by decide +kernel); obtain ⟨n, hn⟩ := own_fin64 p3; rw [hn]; exact h n)
  have z4 := Nat.le_trans Z0 (Nat.le_trans (Nat.le_trans (Nat.le_trans s0 s1) s2) s3)
  have g_b17 : n0 ≤ b17 := Nat.le_trans z4 (Nat.le_of_eq g17.symm)
  have z5 := Nat.le_trans Z0 (Nat.le_trans (Nat.le_trans (Nat.le_trans (Nat.le_trans s0 s1) s2) s3) s4)
  obtain ⟨_, T22, L22, X22, hQ22, st22⟩ := own_special X17 hx hZ hown (y := y_5) (a := b17) (w_8 hw) (w_9 hw) (w_7 hw) (w_10 hw) (rm41 l Z a0 hw [] b17 b1 (nar .char x3) (nar .char x8) (nar .char x13) k1 si2 h17 n0 z5 Va18 S5_COMPACT_STRINGS Od5 nc3 (by rw [ex3]; exact cd19) (by rw [ex8]; exact cd20) (by rw [ex13]; exact cd21) Fn17_coder A17 g_b17 Fn17_value) e17 (Ls := #[.val (.int p1), .val (.int p2), .val (.int p3), .val (.int p4), .val (.int (2 : Int32)), .unset, .unset, .val (.int (3 : Int32)), .val (.ref b1)]) (by rw [hml]; rfl) (argsL := [(.ref b1)]) (rest := [(.ref b17)]) (lenOf pd_5 rfl) (hb hby at_76) (W := 1)
  obtain ⟨b22_b2_b3_b1, k22_k2_k3_k1, rfl, Nq22, K22, o22_0, o22_1, o22_2, o22_3, o22_4, o22_5⟩ := hQ22
  have N22 := Fr.app N16 Nq22
  have s5 := K22.1
  obtain ⟨T23, h23, X23, e23, E23, A23, D23, -, st23⟩ := newO X22 hx hZ hown (w_5 hw) (w_6 hw) (w_7 hw) rfl (g := (mkF m 81 #[.val (.int p1), .val (.int p2), .val (.int p3), .val (.int p4), .val (.int (2 : Int32)), .val (.ref b17), .unset, .val (.int (3 : Int32)), .val (.ref b1)] [])) rfl (hb hby at_81) (by decide) (by decide)
  obtain ⟨b23, g23⟩ : ∃ z, z = T22.heap.size := ⟨_, rfl⟩
  rw [← g23] at A23 D23 st23
  have s6 := E23.1
  have Fn23_coder : Fld Z h23 b23 "java/lang/String" "coder" "B" (.int (0 : Int32)) := D23 (Or.inr (w_31 hw)) (ty := .byte) (by decide)
  have Fn23_value : Fld Z h23 b23 "java/lang/String" "value" "[B" .null := D23 (Or.inr (w_33 hw)) (ty := (.array .byte)) (by decide)
  have ne_b1_b17 := Nat.ne_of_lt (Nat.lt_of_lt_of_le Vs16.lt (Nat.le_of_eq g17.symm))
  have Va24 := ((Va18.keep K22 (ninS ne_b1_b17 nin0)).ext E23)
  have Od6 : Old Z n0 T22.heap := Od5.keep K22 (allS g_b17 all0)
  have Od7 : Old Z n0 h23 := Od6.ext E23
  have z6 := Nat.le_trans Z0 (Nat.le_trans (Nat.le_trans (Nat.le_trans (Nat.le_trans (Nat.le_trans s0 s1) s2) s3) s4) s5)
  have g_b23 : n0 ≤ b23 := Nat.le_trans z6 (Nat.le_of_eq g23.symm)
  have z7 := Nat.le_trans Z0 (Nat.le_trans (Nat.le_trans (Nat.le_trans (Nat.le_trans (Nat.le_trans (Nat.le_trans s0 s1) s2) s3) s4) s5) s6)
  obtain ⟨_, T25, L25, X25, hQ25, st25⟩ := own_special X23 hx hZ hown (y := y_5) (a := b23) (w_8 hw) (w_9 hw) (w_7 hw) (w_10 hw) (rm41 l Z a0 hw [] b23 b1 (nar .char x3) (nar .char x8) (nar .char x13) k1 si2 h23 n0 z7 Va24 S5_COMPACT_STRINGS Od7 nc3 (by rw [ex3]; exact cd19) (by rw [ex8]; exact cd20) (by rw [ex13]; exact cd21) Fn23_coder A23 g_b23 Fn23_value) e23 (Ls := #[.val (.int p1), .val (.int p2), .val (.int p3), .val (.int p4), .val (.int (2 : Int32)), .val (.ref b17), .unset, .val (.int (3 : Int32)), .val (.ref b1)]) (by rw [hml]; rfl) (argsL := [(.ref b1)]) (rest := [(.ref b23)]) (lenOf pd_5 rfl) (hb hby at_87) (W := 1)
  obtain ⟨b25_b2_b3_b1, k25_k2_k3_k1, rfl, Nq25, K25, o25_0, o25_1, o25_2, o25_3, o25_4, o25_5⟩ := hQ25
  have N25 := Fr.app N22 Nq25
  have s7 := K25.1
  have Ex26 := ((o22_0.ext E23).keep K25)
  have ne_b17_b23 := Nat.ne_of_lt (Nat.lt_of_lt_of_le o22_2.lt (Nat.le_of_eq g23.symm))
  have Fl27 := ((o22_2.ext E23).keep K25 (ninS ne_b17_b23 nin0))
  have ne_b22_b2_b3_b1_b23 := Nat.ne_of_lt (Nat.lt_of_lt_of_le o22_5.lt (Nat.le_of_eq g23.symm))
  have Va28 := ((o22_5.ext E23).keep K25 (ninS ne_b22_b2_b3_b1_b23 nin0))
  have Od8 : Old Z n0 T25.heap := Od7.keep K25 (allS g_b23 all0)
  have Fl29 := ((o22_1.ext E23).keep K25 (ninS ne_b17_b23 nin0))
  have cd30 : ¬ ((122 : Int32) < (nar .char (nar .char (((nar .byte ((nar .char (if (p1 &&& (63 : Int32)) < (26 : Int32) then (nar .char (((65 : Int32) + (p1 &&& (63 : Int32))).toUInt32.toUInt16.toUInt32.toInt32)) else (if (p1 &&& (63 : Int32)) < (52 : Int32) then (nar .char (((97 : Int32) + ((p1 &&& (63 : Int32)) - (26 : Int32))).toUInt32.toUInt16.toUInt32.toInt32)) else (if (p1 &&& (63 : Int32)) < (62 : Int32) then (nar .char (((48 : Int32) + ((p1 &&& (63 : Int32)) - (52 : Int32))).toUInt32.toUInt16.toUInt32.toInt32)) else (if (p1 &&& (63 : Int32)) = (62 : Int32) then (45 : Int32) else (95 : Int32)))))).toInt8.toInt32)) &&& (255 : Int32)).toUInt32.toUInt16.toUInt32.toInt32)))) := (by have h : ∀ n : Fin 64, ¬ ((122 : Int32) < (nar .char (nar .char (((nar .byte ((nar .char (if (Int32.ofInt (n.val : Int)) < (26 : Int32) then (nar .char (((65 : Int32) + (Int32.ofInt (n.val : Int))).toUInt32.toUInt16.toUInt32.toInt32)) else (if (Int32.ofInt (n.val : Int)) < (52 : Int32) then (nar .char (((97 : Int32) + ((Int32.ofInt (n.val : Int)) - (26 : Int32))).toUInt32.toUInt16.toUInt32.toInt32)) else (if (Int32.ofInt (n.val : Int)) < (62 : Int32) then (nar .char (((48 : Int32) + ((Int32.ofInt (n.val : Int)) - (52 : Int32))).toUInt32.toUInt16.toUInt32.toInt32)) else (if (Int32.ofInt (n.val : Int)) = (62 : Int32) then (45 : Int32) else (95 : Int32)))))).toInt8.toInt32)) &&& (255 : Int32)).toUInt32.toUInt16.toUInt32.toInt32)))) := (by decide +kernel); obtain ⟨n, hn⟩ := own_fin64 p1; rw [hn]; exact h n)
  have cd31 : ¬ ((if (nar .char (nar .char (((nar .byte ((nar .char (if (p1 &&& (63 : Int32)) < (26 : Int32) then (nar .char (((65 : Int32) + (p1 &&& (63 : Int32))).toUInt32.toUInt16.toUInt32.toInt32)) else (if (p1 &&& (63 : Int32)) < (52 : Int32) then (nar .char (((97 : Int32) + ((p1 &&& (63 : Int32)) - (26 : Int32))).toUInt32.toUInt16.toUInt32.toInt32)) else (if (p1 &&& (63 : Int32)) < (62 : Int32) then (nar .char (((48 : Int32) + ((p1 &&& (63 : Int32)) - (52 : Int32))).toUInt32.toUInt16.toUInt32.toInt32)) else (if (p1 &&& (63 : Int32)) = (62 : Int32) then (45 : Int32) else (95 : Int32)))))).toInt8.toInt32)) &&& (255 : Int32)).toUInt32.toUInt16.toUInt32.toInt32))) < (65 : Int32) then (if (nar .char (nar .char (((nar .byte ((nar .char (if (p1 &&& (63 : Int32)) < (26 : Int32) then (nar .char (((65 : Int32) + (p1 &&& (63 : Int32))).toUInt32.toUInt16.toUInt32.toInt32)) else (if (p1 &&& (63 : Int32)) < (52 : Int32) then (nar .char (((97 : Int32) + ((p1 &&& (63 : Int32)) - (26 : Int32))).toUInt32.toUInt16.toUInt32.toInt32)) else (if (p1 &&& (63 : Int32)) < (62 : Int32) then (nar .char (((48 : Int32) + ((p1 &&& (63 : Int32)) - (52 : Int32))).toUInt32.toUInt16.toUInt32.toInt32)) else (if (p1 &&& (63 : Int32)) = (62 : Int32) then (45 : Int32) else (95 : Int32)))))).toInt8.toInt32)) &&& (255 : Int32)).toUInt32.toUInt16.toUInt32.toInt32))) < (48 : Int32) then (if (nar .char (nar .char (((nar .byte ((nar .char (if (p1 &&& (63 : Int32)) < (26 : Int32) then (nar .char (((65 : Int32) + (p1 &&& (63 : Int32))).toUInt32.toUInt16.toUInt32.toInt32)) else (if (p1 &&& (63 : Int32)) < (52 : Int32) then (nar .char (((97 : Int32) + ((p1 &&& (63 : Int32)) - (26 : Int32))).toUInt32.toUInt16.toUInt32.toInt32)) else (if (p1 &&& (63 : Int32)) < (62 : Int32) then (nar .char (((48 : Int32) + ((p1 &&& (63 : Int32)) - (52 : Int32))).toUInt32.toUInt16.toUInt32.toInt32)) else (if (p1 &&& (63 : Int32)) = (62 : Int32) then (45 : Int32) else (95 : Int32)))))).toInt8.toInt32)) &&& (255 : Int32)).toUInt32.toUInt16.toUInt32.toInt32))) = (45 : Int32) then (1 : Int32) else (0 : Int32)) else (if (57 : Int32) < (nar .char (nar .char (((nar .byte ((nar .char (if (p1 &&& (63 : Int32)) < (26 : Int32) then (nar .char (((65 : Int32) + (p1 &&& (63 : Int32))).toUInt32.toUInt16.toUInt32.toInt32)) else (if (p1 &&& (63 : Int32)) < (52 : Int32) then (nar .char (((97 : Int32) + ((p1 &&& (63 : Int32)) - (26 : Int32))).toUInt32.toUInt16.toUInt32.toInt32)) else (if (p1 &&& (63 : Int32)) < (62 : Int32) then (nar .char (((48 : Int32) + ((p1 &&& (63 : Int32)) - (52 : Int32))).toUInt32.toUInt16.toUInt32.toInt32)) else (if (p1 &&& (63 : Int32)) = (62 : Int32) then (45 : Int32) else (95 : Int32)))))).toInt8.toInt32)) &&& (255 : Int32)).toUInt32.toUInt16.toUInt32.toInt32))) then (0 : Int32) else (1 : Int32))) else (if (90 : Int32) < (nar .char (nar .char (((nar .byte ((nar .char (if (p1 &&& (63 : Int32)) < (26 : Int32) then (nar .char (((65 : Int32) + (p1 &&& (63 : Int32))).toUInt32.toUInt16.toUInt32.toInt32)) else (if (p1 &&& (63 : Int32)) < (52 : Int32) then (nar .char (((97 : Int32) + ((p1 &&& (63 : Int32)) - (26 : Int32))).toUInt32.toUInt16.toUInt32.toInt32)) else (if (p1 &&& (63 : Int32)) < (62 : Int32) then (nar .char (((48 : Int32) + ((p1 &&& (63 : Int32)) - (52 : Int32))).toUInt32.toUInt16.toUInt32.toInt32)) else (if (p1 &&& (63 : Int32)) = (62 : Int32) then (45 : Int32) else (95 : Int32)))))).toInt8.toInt32)) &&& (255 : Int32)).toUInt32.toUInt16.toUInt32.toInt32))) then (if (nar .char (nar .char (((nar .byte ((nar .char (if (p1 &&& (63 : Int32)) < (26 : Int32) then (nar .char (((65 : Int32) + (p1 &&& (63 : Int32))).toUInt32.toUInt16.toUInt32.toInt32)) else (if (p1 &&& (63 : Int32)) < (52 : Int32) then (nar .char (((97 : Int32) + ((p1 &&& (63 : Int32)) - (26 : Int32))).toUInt32.toUInt16.toUInt32.toInt32)) else (if (p1 &&& (63 : Int32)) < (62 : Int32) then (nar .char (((48 : Int32) + ((p1 &&& (63 : Int32)) - (52 : Int32))).toUInt32.toUInt16.toUInt32.toInt32)) else (if (p1 &&& (63 : Int32)) = (62 : Int32) then (45 : Int32) else (95 : Int32)))))).toInt8.toInt32)) &&& (255 : Int32)).toUInt32.toUInt16.toUInt32.toInt32))) < (97 : Int32) then (if (nar .char (nar .char (((nar .byte ((nar .char (if (p1 &&& (63 : Int32)) < (26 : Int32) then (nar .char (((65 : Int32) + (p1 &&& (63 : Int32))).toUInt32.toUInt16.toUInt32.toInt32)) else (if (p1 &&& (63 : Int32)) < (52 : Int32) then (nar .char (((97 : Int32) + ((p1 &&& (63 : Int32)) - (26 : Int32))).toUInt32.toUInt16.toUInt32.toInt32)) else (if (p1 &&& (63 : Int32)) < (62 : Int32) then (nar .char (((48 : Int32) + ((p1 &&& (63 : Int32)) - (52 : Int32))).toUInt32.toUInt16.toUInt32.toInt32)) else (if (p1 &&& (63 : Int32)) = (62 : Int32) then (45 : Int32) else (95 : Int32)))))).toInt8.toInt32)) &&& (255 : Int32)).toUInt32.toUInt16.toUInt32.toInt32))) = (95 : Int32) then (1 : Int32) else (0 : Int32)) else (1 : Int32)) else (1 : Int32))) = (0 : Int32)) := (by have h : ∀ n : Fin 64, ¬ ((if (nar .char (nar .char (((nar .byte ((nar .char (if (Int32.ofInt (n.val : Int)) < (26 : Int32) then (nar .char (((65 : Int32) + (Int32.ofInt (n.val : Int))).toUInt32.toUInt16.toUInt32.toInt32)) else (if (Int32.ofInt (n.val : Int)) < (52 : Int32) then (nar .char (((97 : Int32) + ((Int32.ofInt (n.val : Int)) - (26 : Int32))).toUInt32.toUInt16.toUInt32.toInt32)) else (if (Int32.ofInt (n.val : Int)) < (62 : Int32) then (nar .char (((48 : Int32) + ((Int32.ofInt (n.val : Int)) - (52 : Int32))).toUInt32.toUInt16.toUInt32.toInt32)) else (if (Int32.ofInt (n.val : Int)) = (62 : Int32) then (45 : Int32) else (95 : Int32)))))).toInt8.toInt32)) &&& (255 : Int32)).toUInt32.toUInt16.toUInt32.toInt32))) < (65 : Int32) then (if (nar .char (nar .char (((nar .byte ((nar .char (if (Int32.ofInt (n.val : Int)) < (26 : Int32) then (nar .char (((65 : Int32) + (Int32.ofInt (n.val : Int))).toUInt32.toUInt16.toUInt32.toInt32)) else (if (Int32.ofInt (n.val : Int)) < (52 : Int32) then (nar .char (((97 : Int32) + ((Int32.ofInt (n.val : Int)) - (26 : Int32))).toUInt32.toUInt16.toUInt32.toInt32)) else (if (Int32.ofInt (n.val : Int)) < (62 : Int32) then (nar .char (((48 : Int32) + ((Int32.ofInt (n.val : Int)) - (52 : Int32))).toUInt32.toUInt16.toUInt32.toInt32)) else (if (Int32.ofInt (n.val : Int)) = (62 : Int32) then (45 : Int32) else (95 : Int32)))))).toInt8.toInt32)) &&& (255 : Int32)).toUInt32.toUInt16.toUInt32.toInt32))) < (48 : Int32) then (if (nar .char (nar .char (((nar .byte ((nar .char (if (Int32.ofInt (n.val : Int)) < (26 : Int32) then (nar .char (((65 : Int32) + (Int32.ofInt (n.val : Int))).toUInt32.toUInt16.toUInt32.toInt32)) else (if (Int32.ofInt (n.val : Int)) < (52 : Int32) then (nar .char (((97 : Int32) + ((Int32.ofInt (n.val : Int)) - (26 : Int32))).toUInt32.toUInt16.toUInt32.toInt32)) else (if (Int32.ofInt (n.val : Int)) < (62 : Int32) then (nar .char (((48 : Int32) + ((Int32.ofInt (n.val : Int)) - (52 : Int32))).toUInt32.toUInt16.toUInt32.toInt32)) else (if (Int32.ofInt (n.val : Int)) = (62 : Int32) then (45 : Int32) else (95 : Int32)))))).toInt8.toInt32)) &&& (255 : Int32)).toUInt32.toUInt16.toUInt32.toInt32))) = (45 : Int32) then (1 : Int32) else (0 : Int32)) else (if (57 : Int32) < (nar .char (nar .char (((nar .byte ((nar .char (if (Int32.ofInt (n.val : Int)) < (26 : Int32) then (nar .char (((65 : Int32) + (Int32.ofInt (n.val : Int))).toUInt32.toUInt16.toUInt32.toInt32)) else (if (Int32.ofInt (n.val : Int)) < (52 : Int32) then (nar .char (((97 : Int32) + ((Int32.ofInt (n.val : Int)) - (26 : Int32))).toUInt32.toUInt16.toUInt32.toInt32)) else (if (Int32.ofInt (n.val : Int)) < (62 : Int32) then (nar .char (((48 : Int32) + ((Int32.ofInt (n.val : Int)) - (52 : Int32))).toUInt32.toUInt16.toUInt32.toInt32)) else (if (Int32.ofInt (n.val : Int)) = (62 : Int32) then (45 : Int32) else (95 : Int32)))))).toInt8.toInt32)) &&& (255 : Int32)).toUInt32.toUInt16.toUInt32.toInt32))) then (0 : Int32) else (1 : Int32))) else (if (90 : Int32) < (nar .char (nar .char (((nar .byte ((nar .char (if (Int32.ofInt (n.val : Int)) < (26 : Int32) then (nar .char (((65 : Int32) + (Int32.ofInt (n.val : Int))).toUInt32.toUInt16.toUInt32.toInt32)) else (if (Int32.ofInt (n.val : Int)) < (52 : Int32) then (nar .char (((97 : Int32) + ((Int32.ofInt (n.val : Int)) - (26 : Int32))).toUInt32.toUInt16.toUInt32.toInt32)) else (if (Int32.ofInt (n.val : Int)) < (62 : Int32) then (nar .char (((48 : Int32) + ((Int32.ofInt (n.val : Int)) - (52 : Int32))).toUInt32.toUInt16.toUInt32.toInt32)) else (if (Int32.ofInt (n.val : Int)) = (62 : Int32) then (45 : Int32) else (95 : Int32)))))).toInt8.toInt32)) &&& (255 : Int32)).toUInt32.toUInt16.toUInt32.toInt32))) then (if (nar .char (nar .char (((nar .byte ((nar .char (if (Int32.ofInt (n.val : Int)) < (26 : Int32) then (nar .char (((65 : Int32) + (Int32.ofInt (n.val : Int))).toUInt32.toUInt16.toUInt32.toInt32)) else (if (Int32.ofInt (n.val : Int)) < (52 : Int32) then (nar .char (((97 : Int32) + ((Int32.ofInt (n.val : Int)) - (26 : Int32))).toUInt32.toUInt16.toUInt32.toInt32)) else (if (Int32.ofInt (n.val : Int)) < (62 : Int32) then (nar .char (((48 : Int32) + ((Int32.ofInt (n.val : Int)) - (52 : Int32))).toUInt32.toUInt16.toUInt32.toInt32)) else (if (Int32.ofInt (n.val : Int)) = (62 : Int32) then (45 : Int32) else (95 : Int32)))))).toInt8.toInt32)) &&& (255 : Int32)).toUInt32.toUInt16.toUInt32.toInt32))) < (97 : Int32) then (if (nar .char (nar .char (((nar .byte ((nar .char (if (Int32.ofInt (n.val : Int)) < (26 : Int32) then (nar .char (((65 : Int32) + (Int32.ofInt (n.val : Int))).toUInt32.toUInt16.toUInt32.toInt32)) else (if (Int32.ofInt (n.val : Int)) < (52 : Int32) then (nar .char (((97 : Int32) + ((Int32.ofInt (n.val : Int)) - (26 : Int32))).toUInt32.toUInt16.toUInt32.toInt32)) else (if (Int32.ofInt (n.val : Int)) < (62 : Int32) then (nar .char (((48 : Int32) + ((Int32.ofInt (n.val : Int)) - (52 : Int32))).toUInt32.toUInt16.toUInt32.toInt32)) else (if (Int32.ofInt (n.val : Int)) = (62 : Int32) then (45 : Int32) else (95 : Int32)))))).toInt8.toInt32)) &&& (255 : Int32)).toUInt32.toUInt16.toUInt32.toInt32))) = (95 : Int32) then (1 : Int32) else (0 : Int32)) else (1 : Int32)) else (1 : Int32))) = (0 : Int32)) := (by decide +kernel); obtain ⟨n, hn⟩ := own_fin64 p1; rw [hn]; exact h n)
  have cd32 : ¬ ((122 : Int32) < (nar .char (nar .char (((nar .byte ((nar .char (if (p2 &&& (63 : Int32)) < (26 : Int32) then (nar .char (((65 : Int32) + (p2 &&& (63 : Int32))).toUInt32.toUInt16.toUInt32.toInt32)) else (if (p2 &&& (63 : Int32)) < (52 : Int32) then (nar .char (((97 : Int32) + ((p2 &&& (63 : Int32)) - (26 : Int32))).toUInt32.toUInt16.toUInt32.toInt32)) else (if (p2 &&& (63 : Int32)) < (62 : Int32) then (nar .char (((48 : Int32) + ((p2 &&& (63 : Int32)) - (52 : Int32))).toUInt32.toUInt16.toUInt32.toInt32)) else (if (p2 &&& (63 : Int32)) = (62 : Int32) then (45 : Int32) else (95 : Int32)))))).toInt8.toInt32)) &&& (255 : Int32)).toUInt32.toUInt16.toUInt32.toInt32)))) := (by have h : ∀ n : Fin 64, ¬ ((122 : Int32) < (nar .char (nar .char (((nar .byte ((nar .char (if (Int32.ofInt (n.val : Int)) < (26 : Int32) then (nar .char (((65 : Int32) + (Int32.ofInt (n.val : Int))).toUInt32.toUInt16.toUInt32.toInt32)) else (if (Int32.ofInt (n.val : Int)) < (52 : Int32) then (nar .char (((97 : Int32) + ((Int32.ofInt (n.val : Int)) - (26 : Int32))).toUInt32.toUInt16.toUInt32.toInt32)) else (if (Int32.ofInt (n.val : Int)) < (62 : Int32) then (nar .char (((48 : Int32) + ((Int32.ofInt (n.val : Int)) - (52 : Int32))).toUInt32.toUInt16.toUInt32.toInt32)) else (if (Int32.ofInt (n.val : Int)) = (62 : Int32) then (45 : Int32) else (95 : Int32)))))).toInt8.toInt32)) &&& (255 : Int32)).toUInt32.toUInt16.toUInt32.toInt32)))) := (by decide +kernel); obtain ⟨n, hn⟩ := own_fin64 p2; rw [hn]; exact h n)
  have cd33 : ¬ ((if (nar .char (nar .char (((nar .byte ((nar .char (if (p2 &&& (63 : Int32)) < (26 : Int32) then (nar .char (((65 : Int32) + (p2 &&& (63 : Int32))).toUInt32.toUInt16.toUInt32.toInt32)) else (if (p2 &&& (63 : Int32)) < (52 : Int32) then (nar .char (((97 : Int32) + ((p2 &&& (63 : Int32)) - (26 : Int32))).toUInt32.toUInt16.toUInt32.toInt32)) else (if (p2 &&& (63 : Int32)) < (62 : Int32) then (nar .char (((48 : Int32) + ((p2 &&& (63 : Int32)) - (52 : Int32))).toUInt32.toUInt16.toUInt32.toInt32)) else (if (p2 &&& (63 : Int32)) = (62 : Int32) then (45 : Int32) else (95 : Int32)))))).toInt8.toInt32)) &&& (255 : Int32)).toUInt32.toUInt16.toUInt32.toInt32))) < (65 : Int32) then (if (nar .char (nar .char (((nar .byte ((nar .char (if (p2 &&& (63 : Int32)) < (26 : Int32) then (nar .char (((65 : Int32) + (p2 &&& (63 : Int32))).toUInt32.toUInt16.toUInt32.toInt32)) else (if (p2 &&& (63 : Int32)) < (52 : Int32) then (nar .char (((97 : Int32) + ((p2 &&& (63 : Int32)) - (26 : Int32))).toUInt32.toUInt16.toUInt32.toInt32)) else (if (p2 &&& (63 : Int32)) < (62 : Int32) then (nar .char (((48 : Int32) + ((p2 &&& (63 : Int32)) - (52 : Int32))).toUInt32.toUInt16.toUInt32.toInt32)) else (if (p2 &&& (63 : Int32)) = (62 : Int32) then (45 : Int32) else (95 : Int32)))))).toInt8.toInt32)) &&& (255 : Int32)).toUInt32.toUInt16.toUInt32.toInt32))) < (48 : Int32) then (if (nar .char (nar .char (((nar .byte ((nar .char (if (p2 &&& (63 : Int32)) < (26 : Int32) then (nar .char (((65 : Int32) + (p2 &&& (63 : Int32))).toUInt32.toUInt16.toUInt32.toInt32)) else (if (p2 &&& (63 : Int32)) < (52 : Int32) then (nar .char (((97 : Int32) + ((p2 &&& (63 : Int32)) - (26 : Int32))).toUInt32.toUInt16.toUInt32.toInt32)) else (if (p2 &&& (63 : Int32)) < (62 : Int32) then (nar .char (((48 : Int32) + ((p2 &&& (63 : Int32)) - (52 : Int32))).toUInt32.toUInt16.toUInt32.toInt32)) else (if (p2 &&& (63 : Int32)) = (62 : Int32) then (45 : Int32) else (95 : Int32)))))).toInt8.toInt32)) &&& (255 : Int32)).toUInt32.toUInt16.toUInt32.toInt32))) = (45 : Int32) then (1 : Int32) else (0 : Int32)) else (if (57 : Int32) < (nar .char (nar .char (((nar .byte ((nar .char (if (p2 &&& (63 : Int32)) < (26 : Int32) then (nar .char (((65 : Int32) + (p2 &&& (63 : Int32))).toUInt32.toUInt16.toUInt32.toInt32)) else (if (p2 &&& (63 : Int32)) < (52 : Int32) then (nar .char (((97 : Int32) + ((p2 &&& (63 : Int32)) - (26 : Int32))).toUInt32.toUInt16.toUInt32.toInt32)) else (if (p2 &&& (63 : Int32)) < (62 : Int32) then (nar .char (((48 : Int32) + ((p2 &&& (63 : Int32)) - (52 : Int32))).toUInt32.toUInt16.toUInt32.toInt32)) else (if (p2 &&& (63 : Int32)) = (62 : Int32) then (45 : Int32) else (95 : Int32)))))).toInt8.toInt32)) &&& (255 : Int32)).toUInt32.toUInt16.toUInt32.toInt32))) then (0 : Int32) else (1 : Int32))) else (if (90 : Int32) < (nar .char (nar .char (((nar .byte ((nar .char (if (p2 &&& (63 : Int32)) < (26 : Int32) then (nar .char (((65 : Int32) + (p2 &&& (63 : Int32))).toUInt32.toUInt16.toUInt32.toInt32)) else (if (p2 &&& (63 : Int32)) < (52 : Int32) then (nar .char (((97 : Int32) + ((p2 &&& (63 : Int32)) - (26 : Int32))).toUInt32.toUInt16.toUInt32.toInt32)) else (if (p2 &&& (63 : Int32)) < (62 : Int32) then (nar .char (((48 : Int32) + ((p2 &&& (63 : Int32)) - (52 : Int32))).toUInt32.toUInt16.toUInt32.toInt32)) else (if (p2 &&& (63 : Int32)) = (62 : Int32) then (45 : Int32) else (95 : Int32)))))).toInt8.toInt32)) &&& (255 : Int32)).toUInt32.toUInt16.toUInt32.toInt32))) then (if (nar .char (nar .char (((nar .byte ((nar .char (if (p2 &&& (63 : Int32)) < (26 : Int32) then (nar .char (((65 : Int32) + (p2 &&& (63 : Int32))).toUInt32.toUInt16.toUInt32.toInt32)) else (if (p2 &&& (63 : Int32)) < (52 : Int32) then (nar .char (((97 : Int32) + ((p2 &&& (63 : Int32)) - (26 : Int32))).toUInt32.toUInt16.toUInt32.toInt32)) else (if (p2 &&& (63 : Int32)) < (62 : Int32) then (nar .char (((48 : Int32) + ((p2 &&& (63 : Int32)) - (52 : Int32))).toUInt32.toUInt16.toUInt32.toInt32)) else (if (p2 &&& (63 : Int32)) = (62 : Int32) then (45 : Int32) else (95 : Int32)))))).toInt8.toInt32)) &&& (255 : Int32)).toUInt32.toUInt16.toUInt32.toInt32))) < (97 : Int32) then (if (nar .char (nar .char (((nar .byte ((nar .char (if (p2 &&& (63 : Int32)) < (26 : Int32) then (nar .char (((65 : Int32) + (p2 &&& (63 : Int32))).toUInt32.toUInt16.toUInt32.toInt32)) else (if (p2 &&& (63 : Int32)) < (52 : Int32) then (nar .char (((97 : Int32) + ((p2 &&& (63 : Int32)) - (26 : Int32))).toUInt32.toUInt16.toUInt32.toInt32)) else (if (p2 &&& (63 : Int32)) < (62 : Int32) then (nar .char (((48 : Int32) + ((p2 &&& (63 : Int32)) - (52 : Int32))).toUInt32.toUInt16.toUInt32.toInt32)) else (if (p2 &&& (63 : Int32)) = (62 : Int32) then (45 : Int32) else (95 : Int32)))))).toInt8.toInt32)) &&& (255 : Int32)).toUInt32.toUInt16.toUInt32.toInt32))) = (95 : Int32) then (1 : Int32) else (0 : Int32)) else (1 : Int32)) else (1 : Int32))) = (0 : Int32)) := (by have h : ∀ n : Fin 64, ¬ ((if (nar .char (nar .char (((nar .byte ((nar .char (if (Int32.ofInt (n.val : Int)) < (26 : Int32) then (nar .char (((65 : Int32) + (Int32.ofInt (n.val : Int))).toUInt32.toUInt16.toUInt32.toInt32)) else (if (Int32.ofInt (n.val : Int)) < (52 : Int32) then (nar .char (((97 : Int32) + ((Int32.ofInt (n.val : Int)) - (26 : Int32))).toUInt32.toUInt16.toUInt32.toInt32)) else (if (Int32.ofInt (n.val : Int)) < (62 : Int32) then (nar .char (((48 : Int32) + ((Int32.ofInt (n.val : Int)) - (52 : Int32))).toUInt32.toUInt16.toUInt32.toInt32)) else (if (Int32.ofInt (n.val : Int)) = (62 : Int32) then (45 : Int32) else (95 : Int32)))))).toInt8.toInt32)) &&& (255 : Int32)).toUInt32.toUInt16.toUInt32.toInt32))) < (65 : Int32) then (if (nar .char (nar .char (((nar .byte ((nar .char (if (Int32.ofInt (n.val : Int)) < (26 : Int32) then (nar .char (((65 : Int32) + (Int32.ofInt (n.val : Int))).toUInt32.toUInt16.toUInt32.toInt32)) else (if (Int32.ofInt (n.val : Int)) < (52 : Int32) then (nar .char (((97 : Int32) + ((Int32.ofInt (n.val : Int)) - (26 : Int32))).toUInt32.toUInt16.toUInt32.toInt32)) else (if (Int32.ofInt (n.val : Int)) < (62 : Int32) then (nar .char (((48 : Int32) + ((Int32.ofInt (n.val : Int)) - (52 : Int32))).toUInt32.toUInt16.toUInt32.toInt32)) else (if (Int32.ofInt (n.val : Int)) = (62 : Int32) then (45 : Int32) else (95 : Int32)))))).toInt8.toInt32)) &&& (255 : Int32)).toUInt32.toUInt16.toUInt32.toInt32))) < (48 : Int32) then (if (nar .char (nar .char (((nar .byte ((nar .char (if (Int32.ofInt (n.val : Int)) < (26 : Int32) then (nar .char (((65 : Int32) + (Int32.ofInt (n.val : Int))).toUInt32.toUInt16.toUInt32.toInt32)) else (if (Int32.ofInt (n.val : Int)) < (52 : Int32) then (nar .char (((97 : Int32) + ((Int32.ofInt (n.val : Int)) - (26 : Int32))).toUInt32.toUInt16.toUInt32.toInt32)) else (if (Int32.ofInt (n.val : Int)) < (62 : Int32) then (nar .char (((48 : Int32) + ((Int32.ofInt (n.val : Int)) - (52 : Int32))).toUInt32.toUInt16.toUInt32.toInt32)) else (if (Int32.ofInt (n.val : Int)) = (62 : Int32) then (45 : Int32) else (95 : Int32)))))).toInt8.toInt32)) &&& (255 : Int32)).toUInt32.toUInt16.toUInt32.toInt32))) = (45 : Int32) then (1 : Int32) else (0 : Int32)) else (if (57 : Int32) < (nar .char (nar .char (((nar .byte ((nar .char (if (Int32.ofInt (n.val : Int)) < (26 : Int32) then (nar .char (((65 : Int32) + (Int32.ofInt (n.val : Int))).toUInt32.toUInt16.toUInt32.toInt32)) else (if (Int32.ofInt (n.val : Int)) < (52 : Int32) then (nar .char (((97 : Int32) + ((Int32.ofInt (n.val : Int)) - (26 : Int32))).toUInt32.toUInt16.toUInt32.toInt32)) else (if (Int32.ofInt (n.val : Int)) < (62 : Int32) then (nar .char (((48 : Int32) + ((Int32.ofInt (n.val : Int)) - (52 : Int32))).toUInt32.toUInt16.toUInt32.toInt32)) else (if (Int32.ofInt (n.val : Int)) = (62 : Int32) then (45 : Int32) else (95 : Int32)))))).toInt8.toInt32)) &&& (255 : Int32)).toUInt32.toUInt16.toUInt32.toInt32))) then (0 : Int32) else (1 : Int32))) else (if (90 : Int32) < (nar .char (nar .char (((nar .byte ((nar .char (if (Int32.ofInt (n.val : Int)) < (26 : Int32) then (nar .char (((65 : Int32) + (Int32.ofInt (n.val : Int))).toUInt32.toUInt16.toUInt32.toInt32)) else (if (Int32.ofInt (n.val : Int)) < (52 : Int32) then (nar .char (((97 : Int32) + ((Int32.ofInt (n.val : Int)) - (26 : Int32))).toUInt32.toUInt16.toUInt32.toInt32)) else (if (Int32.ofInt (n.val : Int)) < (62 : Int32) then (nar .char (((48 : Int32) + ((Int32.ofInt (n.val : Int)) - (52 : Int32))).toUInt32.toUInt16.toUInt32.toInt32)) else (if (Int32.ofInt (n.val : Int)) = (62 : Int32) then (45 : Int32) else (95 : Int32)))))).toInt8.toInt32)) &&& (255 : Int32)).toUInt32.toUInt16.toUInt32.toInt32))) then (if (nar .char (nar .char (((nar .byte ((nar .char (if (Int32.ofInt (n.val : Int)) < (26 : Int32) then (nar .char (((65 : Int32) + (Int32.ofInt (n.val : Int))).toUInt32.toUInt16.toUInt32.toInt32)) else (if (Int32.ofInt (n.val : Int)) < (52 : Int32) then (nar .char (((97 : Int32) + ((Int32.ofInt (n.val : Int)) - (26 : Int32))).toUInt32.toUInt16.toUInt32.toInt32)) else (if (Int32.ofInt (n.val : Int)) < (62 : Int32) then (nar .char (((48 : Int32) + ((Int32.ofInt (n.val : Int)) - (52 : Int32))).toUInt32.toUInt16.toUInt32.toInt32)) else (if (Int32.ofInt (n.val : Int)) = (62 : Int32) then (45 : Int32) else (95 : Int32)))))).toInt8.toInt32)) &&& (255 : Int32)).toUInt32.toUInt16.toUInt32.toInt32))) < (97 : Int32) then (if (nar .char (nar .char (((nar .byte ((nar .char (if (Int32.ofInt (n.val : Int)) < (26 : Int32) then (nar .char (((65 : Int32) + (Int32.ofInt (n.val : Int))).toUInt32.toUInt16.toUInt32.toInt32)) else (if (Int32.ofInt (n.val : Int)) < (52 : Int32) then (nar .char (((97 : Int32) + ((Int32.ofInt (n.val : Int)) - (26 : Int32))).toUInt32.toUInt16.toUInt32.toInt32)) else (if (Int32.ofInt (n.val : Int)) < (62 : Int32) then (nar .char (((48 : Int32) + ((Int32.ofInt (n.val : Int)) - (52 : Int32))).toUInt32.toUInt16.toUInt32.toInt32)) else (if (Int32.ofInt (n.val : Int)) = (62 : Int32) then (45 : Int32) else (95 : Int32)))))).toInt8.toInt32)) &&& (255 : Int32)).toUInt32.toUInt16.toUInt32.toInt32))) = (95 : Int32) then (1 : Int32) else (0 : Int32)) else (1 : Int32)) else (1 : Int32))) = (0 : Int32)) := (by decide +kernel); obtain ⟨n, hn⟩ := own_fin64 p2; rw [hn]; exact h n)
  have cd34 : ¬ ((122 : Int32) < (nar .char (nar .char (((nar .byte ((nar .char (if (p3 &&& (63 : Int32)) < (26 : Int32) then (nar .char (((65 : Int32) + (p3 &&& (63 : Int32))).toUInt32.toUInt16.toUInt32.toInt32)) else (if (p3 &&& (63 : Int32)) < (52 : Int32) then (nar .char (((97 : Int32) + ((p3 &&& (63 : Int32)) - (26 : Int32))).toUInt32.toUInt16.toUInt32.toInt32)) else (if (p3 &&& (63 : Int32)) < (62 : Int32) then (nar .char (((48 : Int32) + ((p3 &&& (63 : Int32)) - (52 : Int32))).toUInt32.toUInt16.toUInt32.toInt32)) else (if (p3 &&& (63 : Int32)) = (62 : Int32) then (45 : Int32) else (95 : Int32)))))).toInt8.toInt32)) &&& (255 : Int32)).toUInt32.toUInt16.toUInt32.toInt32)))) := (by have h : ∀ n : Fin 64, ¬ ((122 : Int32) < (nar .char (nar .char (((nar .byte ((nar .char (if (Int32.ofInt (n.val : Int)) < (26 : Int32) then (nar .char (((65 : Int32) + (Int32.ofInt (n.val : Int))).toUInt32.toUInt16.toUInt32.toInt32)) else (if (Int32.ofInt (n.val : Int)) < (52 : Int32) then (nar .char (((97 : Int32) + ((Int32.ofInt (n.val : Int)) - (26 : Int32))).toUInt32.toUInt16.toUInt32.toInt32)) else (if (Int32.ofInt (n.val : Int)) < (62 : Int32) then (nar .char (((48 : Int32) + ((Int32.ofInt (n.val : Int)) - (52 : Int32))).toUInt32.toUInt16.toUInt32.toInt32)) else (if (Int32.ofInt (n.val : Int)) = (62 : Int32) then (45 : Int32) else (95 : Int32)))))).toInt8.toInt32)) &&& (255 : Int32)).toUInt32.toUInt16.toUInt32.toInt32)))) := (by decide +kernel); obtain ⟨n, hn⟩ := own_fin64 p3; rw [hn]; exact h n)
  have cd35 : ¬ ((if (nar .char (nar .char (((nar .byte ((nar .char (if (p3 &&& (63 : Int32)) < (26 : Int32) then (nar .char (((65 : Int32) + (p3 &&& (63 : Int32))).toUInt32.toUInt16.toUInt32.toInt32)) else (if (p3 &&& (63 : Int32)) < (52 : Int32) then (nar .char (((97 : Int32) + ((p3 &&& (63 : Int32)) - (26 : Int32))).toUInt32.toUInt16.toUInt32.toInt32)) else (if (p3 &&& (63 : Int32)) < (62 : Int32) then (nar .char (((48 : Int32) + ((p3 &&& (63 : Int32)) - (52 : Int32))).toUInt32.toUInt16.toUInt32.toInt32)) else (if (p3 &&& (63 : Int32)) = (62 : Int32) then (45 : Int32) else (95 : Int32)))))).toInt8.toInt32)) &&& (255 : Int32)).toUInt32.toUInt16.toUInt32.toInt32))) < (65 : Int32) then (if (nar .char (nar .char (((nar .byte ((nar .char (if (p3 &&& (63 : Int32)) < (26 : Int32) then (nar .char (((65 : Int32) + (p3 &&& (63 : Int32))).toUInt32.toUInt16.toUInt32.toInt32)) else (if (p3 &&& (63 : Int32)) < (52 : Int32) then (nar .char (((97 : Int32) + ((p3 &&& (63 : Int32)) - (26 : Int32))).toUInt32.toUInt16.toUInt32.toInt32)) else (if (p3 &&& (63 : Int32)) < (62 : Int32) then (nar .char (((48 : Int32) + ((p3 &&& (63 : Int32)) - (52 : Int32))).toUInt32.toUInt16.toUInt32.toInt32)) else (if (p3 &&& (63 : Int32)) = (62 : Int32) then (45 : Int32) else (95 : Int32)))))).toInt8.toInt32)) &&& (255 : Int32)).toUInt32.toUInt16.toUInt32.toInt32))) < (48 : Int32) then (if (nar .char (nar .char (((nar .byte ((nar .char (if (p3 &&& (63 : Int32)) < (26 : Int32) then (nar .char (((65 : Int32) + (p3 &&& (63 : Int32))).toUInt32.toUInt16.toUInt32.toInt32)) else (if (p3 &&& (63 : Int32)) < (52 : Int32) then (nar .char (((97 : Int32) + ((p3 &&& (63 : Int32)) - (26 : Int32))).toUInt32.toUInt16.toUInt32.toInt32)) else (if (p3 &&& (63 : Int32)) < (62 : Int32) then (nar .char (((48 : Int32) + ((p3 &&& (63 : Int32)) - (52 : Int32))).toUInt32.toUInt16.toUInt32.toInt32)) else (if (p3 &&& (63 : Int32)) = (62 : Int32) then (45 : Int32) else (95 : Int32)))))).toInt8.toInt32)) &&& (255 : Int32)).toUInt32.toUInt16.toUInt32.toInt32))) = (45 : Int32) then (1 : Int32) else (0 : Int32)) else (if (57 : Int32) < (nar .char (nar .char (((nar .byte ((nar .char (if (p3 &&& (63 : Int32)) < (26 : Int32) then (nar .char (((65 : Int32) + (p3 &&& (63 : Int32))).toUInt32.toUInt16.toUInt32.toInt32)) else (if (p3 &&& (63 : Int32)) < (52 : Int32) then (nar .char (((97 : Int32) + ((p3 &&& (63 : Int32)) - (26 : Int32))).toUInt32.toUInt16.toUInt32.toInt32)) else (if (p3 &&& (63 : Int32)) < (62 : Int32) then (nar .char (((48 : Int32) + ((p3 &&& (63 : Int32)) - (52 : Int32))).toUInt32.toUInt16.toUInt32.toInt32)) else (if (p3 &&& (63 : Int32)) = (62 : Int32) then (45 : Int32) else (95 : Int32)))))).toInt8.toInt32)) &&& (255 : Int32)).toUInt32.toUInt16.toUInt32.toInt32))) then (0 : Int32) else (1 : Int32))) else (if (90 : Int32) < (nar .char (nar .char (((nar .byte ((nar .char (if (p3 &&& (63 : Int32)) < (26 : Int32) then (nar .char (((65 : Int32) + (p3 &&& (63 : Int32))).toUInt32.toUInt16.toUInt32.toInt32)) else (if (p3 &&& (63 : Int32)) < (52 : Int32) then (nar .char (((97 : Int32) + ((p3 &&& (63 : Int32)) - (26 : Int32))).toUInt32.toUInt16.toUInt32.toInt32)) else (if (p3 &&& (63 : Int32)) < (62 : Int32) then (nar .char (((48 : Int32) + ((p3 &&& (63 : Int32)) - (52 : Int32))).toUInt32.toUInt16.toUInt32.toInt32)) else (if (p3 &&& (63 : Int32)) = (62 : Int32) then (45 : Int32) else (95 : Int32)))))).toInt8.toInt32)) &&& (255 : Int32)).toUInt32.toUInt16.toUInt32.toInt32))) then (if (nar .char (nar .char (((nar .byte ((nar .char (if (p3 &&& (63 : Int32)) < (26 : Int32) then (nar .char (((65 : Int32) + (p3 &&& (63 : Int32))).toUInt32.toUInt16.toUInt32.toInt32)) else (if (p3 &&& (63 : Int32)) < (52 : Int32) then (nar .char (((97 : Int32) + ((p3 &&& (63 : Int32)) - (26 : Int32))).toUInt32.toUInt16.toUInt32.toInt32)) else (if (p3 &&& (63 : Int32)) < (62 : Int32) then (nar .char (((48 : Int32) + ((p3 &&& (63 : Int32)) - (52 : Int32))).toUInt32.toUInt16.toUInt32.toInt32)) else (if (p3 &&& (63 : Int32)) = (62 : Int32) then (45 : Int32) else (95 : Int32)))))).toInt8.toInt32)) &&& (255 : Int32)).toUInt32.toUInt16.toUInt32.toInt32))) < (97 : Int32) then (if (nar .char (nar .char (((nar .byte ((nar .char (if (p3 &&& (63 : Int32)) < (26 : Int32) then (nar .char (((65 : Int32) + (p3 &&& (63 : Int32))).toUInt32.toUInt16.toUInt32.toInt32)) else (if (p3 &&& (63 : Int32)) < (52 : Int32) then (nar .char (((97 : Int32) + ((p3 &&& (63 : Int32)) - (26 : Int32))).toUInt32.toUInt16.toUInt32.toInt32)) else (if (p3 &&& (63 : Int32)) < (62 : Int32) then (nar .char (((48 : Int32) + ((p3 &&& (63 : Int32)) - (52 : Int32))).toUInt32.toUInt16.toUInt32.toInt32)) else (if (p3 &&& (63 : Int32)) = (62 : Int32) then (45 : Int32) else (95 : Int32)))))).toInt8.toInt32)) &&& (255 : Int32)).toUInt32.toUInt16.toUInt32.toInt32))) = (95 : Int32) then (1 : Int32) else (0 : Int32)) else (1 : Int32)) else (1 : Int32))) = (0 : Int32)) := (by have h : ∀ n : Fin 64, ¬ ((if (nar .char (nar .char (((nar .byte ((nar .char (if (Int32.ofInt (n.val : Int)) < (26 : Int32) then (nar .char (((65 : Int32) + (Int32.ofInt (n.val : Int))).toUInt32.toUInt16.toUInt32.toInt32)) else (if (Int32.ofInt (n.val : Int)) < (52 : Int32) then (nar .char (((97 : Int32) + ((Int32.ofInt (n.val : Int)) - (26 : Int32))).toUInt32.toUInt16.toUInt32.toInt32)) else (if (Int32.ofInt (n.val : Int)) < (62 : Int32) then (nar .char (((48 : Int32) + ((Int32.ofInt (n.val : Int)) - (52 : Int32))).toUInt32.toUInt16.toUInt32.toInt32)) else (if (Int32.ofInt (n.val : Int)) = (62 : Int32) then (45 : Int32) else (95 : Int32)))))).toInt8.toInt32)) &&& (255 : Int32)).toUInt32.toUInt16.toUInt32.toInt32))) < (65 : Int32) then (if (nar .char (nar .char (((nar .byte ((nar .char (if (Int32.ofInt (n.val : Int)) < (26 : Int32) then (nar .char (((65 : Int32) + (Int32.ofInt (n.val : Int))).toUInt32.toUInt16.toUInt32.toInt32)) else (if (Int32.ofInt (n.val : Int)) < (52 : Int32) then (nar .char (((97 : Int32) + ((Int32.ofInt (n.val : Int)) - (26 : Int32))).toUInt32.toUInt16.toUInt32.toInt32)) else (if (Int32.ofInt (n.val : Int)) < (62 : Int32) then (nar .char (((48 : Int32) + ((Int32.ofInt (n.val : Int)) - (52 : Int32))).toUInt32.toUInt16.toUInt32.toInt32)) else (if (Int32.ofInt (n.val : Int)) = (62 : Int32) then (45 : Int32) else (95 : Int32)))))).toInt8.toInt32)) &&& (255 : Int32)).toUInt32.toUInt16.toUInt32.toInt32))) < (48 : Int32) then (if (nar .char (nar .char (((nar .byte ((nar .char (if (Int32.ofInt (n.val : Int)) < (26 : Int32) then (nar .char (((65 : Int32) + (Int32.ofInt (n.val : Int))).toUInt32.toUInt16.toUInt32.toInt32)) else (if (Int32.ofInt (n.val : Int)) < (52 : Int32) then (nar .char (((97 : Int32) + ((Int32.ofInt (n.val : Int)) - (26 : Int32))).toUInt32.toUInt16.toUInt32.toInt32)) else (if (Int32.ofInt (n.val : Int)) < (62 : Int32) then (nar .char (((48 : Int32) + ((Int32.ofInt (n.val : Int)) - (52 : Int32))).toUInt32.toUInt16.toUInt32.toInt32)) else (if (Int32.ofInt (n.val : Int)) = (62 : Int32) then (45 : Int32) else (95 : Int32)))))).toInt8.toInt32)) &&& (255 : Int32)).toUInt32.toUInt16.toUInt32.toInt32))) = (45 : Int32) then (1 : Int32) else (0 : Int32)) else (if (57 : Int32) < (nar .char (nar .char (((nar .byte ((nar .char (if (Int32.ofInt (n.val : Int)) < (26 : Int32) then (nar .char (((65 : Int32) + (Int32.ofInt (n.val : Int))).toUInt32.toUInt16.toUInt32.toInt32)) else (if (Int32.ofInt (n.val : Int)) < (52 : Int32) then (nar .char (((97 : Int32) + ((Int32.ofInt (n.val : Int)) - (26 : Int32))).toUInt32.toUInt16.toUInt32.toInt32)) else (if (Int32.ofInt (n.val : Int)) < (62 : Int32) then (nar .char (((48 : Int32) + ((Int32.ofInt (n.val : Int)) - (52 : Int32))).toUInt32.toUInt16.toUInt32.toInt32)) else (if (Int32.ofInt (n.val : Int)) = (62 : Int32) then (45 : Int32) else (95 : Int32)))))).toInt8.toInt32)) &&& (255 : Int32)).toUInt32.toUInt16.toUInt32.toInt32))) then (0 : Int32) else (1 : Int32))) else (if (90 : Int32) < (nar .char (nar .char (((nar .byte ((nar .char (if (Int32.ofInt (n.val : Int)) < (26 : Int32) then (nar .char (((65 : Int32) + (Int32.ofInt (n.val : Int))).toUInt32.toUInt16.toUInt32.toInt32)) else (if (Int32.ofInt (n.val : Int)) < (52 : Int32) then (nar .char (((97 : Int32) + ((Int32.ofInt (n.val : Int)) - (26 : Int32))).toUInt32.toUInt16.toUInt32.toInt32)) else (if (Int32.ofInt (n.val : Int)) < (62 : Int32) then (nar .char (((48 : Int32) + ((Int32.ofInt (n.val : Int)) - (52 : Int32))).toUInt32.toUInt16.toUInt32.toInt32)) else (if (Int32.ofInt (n.val : Int)) = (62 : Int32) then (45 : Int32) else (95 : Int32)))))).toInt8.toInt32)) &&& (255 : Int32)).toUInt32.toUInt16.toUInt32.toInt32))) then (if (nar .char (nar .char (((nar .byte ((nar .char (if (Int32.ofInt (n.val : Int)) < (26 : Int32) then (nar .char (((65 : Int32) + (Int32.ofInt (n.val : Int))).toUInt32.toUInt16.toUInt32.toInt32)) else (if (Int32.ofInt (n.val : Int)) < (52 : Int32) then (nar .char (((97 : Int32) + ((Int32.ofInt (n.val : Int)) - (26 : Int32))).toUInt32.toUInt16.toUInt32.toInt32)) else (if (Int32.ofInt (n.val : Int)) < (62 : Int32) then (nar .char (((48 : Int32) + ((Int32.ofInt (n.val : Int)) - (52 : Int32))).toUInt32.toUInt16.toUInt32.toInt32)) else (if (Int32.ofInt (n.val : Int)) = (62 : Int32) then (45 : Int32) else (95 : Int32)))))).toInt8.toInt32)) &&& (255 : Int32)).toUInt32.toUInt16.toUInt32.toInt32))) < (97 : Int32) then (if (nar .char (nar .char (((nar .byte ((nar .char (if (Int32.ofInt (n.val : Int)) < (26 : Int32) then (nar .char (((65 : Int32) + (Int32.ofInt (n.val : Int))).toUInt32.toUInt16.toUInt32.toInt32)) else (if (Int32.ofInt (n.val : Int)) < (52 : Int32) then (nar .char (((97 : Int32) + ((Int32.ofInt (n.val : Int)) - (26 : Int32))).toUInt32.toUInt16.toUInt32.toInt32)) else (if (Int32.ofInt (n.val : Int)) < (62 : Int32) then (nar .char (((48 : Int32) + ((Int32.ofInt (n.val : Int)) - (52 : Int32))).toUInt32.toUInt16.toUInt32.toInt32)) else (if (Int32.ofInt (n.val : Int)) = (62 : Int32) then (45 : Int32) else (95 : Int32)))))).toInt8.toInt32)) &&& (255 : Int32)).toUInt32.toUInt16.toUInt32.toInt32))) = (95 : Int32) then (1 : Int32) else (0 : Int32)) else (1 : Int32)) else (1 : Int32))) = (0 : Int32)) := (by decide +kernel); obtain ⟨n, hn⟩ := own_fin64 p3; rw [hn]; exact h n)
  have z8 := Nat.le_trans Z0 (Nat.le_trans (Nat.le_trans (Nat.le_trans (Nat.le_trans (Nat.le_trans (Nat.le_trans (Nat.le_trans s0 s1) s2) s3) s4) s5) s6) s7)
  obtain ⟨_, T36, L36, X36, hQ36, st36⟩ := own_callS X25 hx hZ hown (y := y_16) (w_34 hw) (w_35 hw) (w_36 hw) (w_37 hw) (rm44 l Z a0 hw [] b17 b22_b2_b3_b1 (nar .byte ((nar .char x3).toInt8.toInt32)) (nar .byte ((nar .char x8).toInt8.toInt32)) (nar .byte ((nar .char x13).toInt8.toInt32)) k22_k2_k3_k1 si2 sr1 T25.heap n0 z8 Ex26 Fl27 Va28 S5_COMPACT_STRINGS Od8 nc3 Fl29 R_sr1 S4_SIOOBE_FORMATTER (by rw [ex3]; exact cd30) (by rw [ex3]; exact cd31) (by rw [ex8]; exact cd32) (by rw [ex8]; exact cd33) (by rw [ex13]; exact cd34) (by rw [ex13]; exact cd35)) rfl (Ls := #[.val (.int p1), .val (.int p2), .val (.int p3), .val (.int p4), .val (.int (2 : Int32)), .val (.ref b17), .val (.ref b23), .val (.int (3 : Int32)), .val (.ref b1)]) (by rw [hml]; rfl) (argsL := [(.ref b17)]) (rest := []) (lenOf pd_14 rfl) (hb hby at_94) (W := 0)
  obtain ⟨b36_b7, rfl, Nq36, K36, o36_0, o36_1, o36_2⟩ := hQ36
  have N36 := Fr.app N25 Nq36
  have s8 := K36.1
  have Ex37 := (o25_0.keep K36)
  have Fl38 := (o25_2.keep K36 nin0)
  have Va39 := (o25_5.keep K36 nin0)
  have Od9 : Old Z n0 T36.heap := Od8.keep K36 all0
  have Fl40 := (o25_1.keep K36 nin0)
  have z9 := Nat.le_trans Z0 (Nat.le_trans (Nat.le_trans (Nat.le_trans (Nat.le_trans (Nat.le_trans (Nat.le_trans (Nat.le_trans (Nat.le_trans s0 s1) s2) s3) s4) s5) s6) s7) s8)
  obtain ⟨_, T41, L41, X41, hQ41, st41⟩ := own_callS X36 hx hZ hown (y := y_16) (w_34 hw) (w_35 hw) (w_36 hw) (w_37 hw) (rm44 l Z a0 hw [] b23 b25_b2_b3_b1 (nar .byte ((nar .char x3).toInt8.toInt32)) (nar .byte ((nar .char x8).toInt8.toInt32)) (nar .byte ((nar .char x13).toInt8.toInt32)) k25_k2_k3_k1 si2 sr1 T36.heap n0 z9 Ex37 Fl38 Va39 S5_COMPACT_STRINGS Od9 nc3 Fl40 R_sr1 S4_SIOOBE_FORMATTER (by rw [ex3]; exact cd30) (by rw [ex3]; exact cd31) (by rw [ex8]; exact cd32) (by rw [ex8]; exact cd33) (by rw [ex13]; exact cd34) (by rw [ex13]; exact cd35)) rfl (Ls := #[.val (.int p1), .val (.int p2), .val (.int p3), .val (.int p4), .val (.int (2 : Int32)), .val (.ref b17), .val (.ref b23), .val (.ref b36_b7), .val (.ref b1)]) (by rw [hml]; rfl) (argsL := [(.ref b23)]) (rest := []) (lenOf pd_14 rfl) (hb hby at_101) (W := 0)
  obtain ⟨b41_b7, rfl, Nq41, K41, o41_0, o41_1, o41_2⟩ := hQ41
  have N41 := Fr.app N36 Nq41
  have s9 := K41.1
  have Ex42 := (o36_1.keep K41)
  have Fl43 := (o36_2.keep K41 nin0)
  have z10 := Nat.le_trans Z0 (Nat.le_trans (Nat.le_trans (Nat.le_trans (Nat.le_trans (Nat.le_trans (Nat.le_trans (Nat.le_trans (Nat.le_trans (Nat.le_trans s0 s1) s2) s3) s4) s5) s6) s7) s8) s9)
  obtain ⟨_, T44, L44, X44, hQ44, st44⟩ := own_virtual X41 hx hZ hown (y := y_17) (z := y_17) Ex42 (w_86 hw) (w_87 hw) (notFace_of_selects (args := #[]) (mvT hZ (w_89 hw))) (w_89 hw) (w_88 hw) (w_36 hw) (w_90 hw) (rm21 l Z a0 hw [] b36_b7 b17 T41.heap n0 z10 Fl43) rfl (Ls := #[.val (.int p1), .val (.int p2), .val (.int p3), .val (.int p4), .val (.int (2 : Int32)), .val (.ref b17), .val (.ref b23), .val (.ref b36_b7), .val (.ref b41_b7)]) (by rw [hml]; rfl) (argsL := []) (rest := []) (lenOf pd_15 rfl) (hb hby at_113) (W := 0)
  obtain ⟨rfl, Nq44, e44⟩ := hQ44
  have N44 := Fr.app N41 Nq44
  have Ex45 := ((Ex26.keep K36).keep K41)
  obtain ⟨_, T46, L46, X46, hQ46, st46⟩ := own_virtual X44 hx hZ hown (y := y_18) (z := y_18) Ex45 (w_91 hw) (w_92 hw) (notFace_of_selects (args := #[]) (mvT hZ (w_94 hw))) (w_94 hw) (w_93 hw) (w_7 hw) (w_95 hw) (rm22 l Z a0 hw [] b17 T41.heap n0 z10) e44 (Ls := #[.val (.int p1), .val (.int p2), .val (.int p3), .val (.int p4), .val (.int (2 : Int32)), .val (.ref b17), .val (.ref b23), .val (.ref b36_b7), .val (.ref b41_b7)]) (by rw [hml]; rfl) (argsL := [(.ref b17)]) (rest := []) (lenOf pd_16 rfl) (hb hby at_118) (W := 0)
  obtain ⟨rfl, Nq46, e46⟩ := hQ46
  have N46 := Fr.app N44 Nq46
  obtain ⟨_, T47, L47, X47, hQ47, st47⟩ := own_virtual X46 hx hZ hown (y := y_17) (z := y_17) Ex42 (w_86 hw) (w_87 hw) (notFace_of_selects (args := #[]) (mvT hZ (w_89 hw))) (w_89 hw) (w_88 hw) (w_36 hw) (w_90 hw) (rm21 l Z a0 hw [] b36_b7 b17 T41.heap n0 z10 Fl43) e46 (Ls := #[.val (.int p1), .val (.int p2), .val (.int p3), .val (.int p4), .val (.int (2 : Int32)), .val (.ref b17), .val (.ref b23), .val (.ref b36_b7), .val (.ref b41_b7)]) (by rw [hml]; rfl) (argsL := []) (rest := []) (lenOf pd_15 rfl) (hb hby at_126) (W := 0)
  obtain ⟨rfl, Nq47, e47⟩ := hQ47
  have N47 := Fr.app N46 Nq47
  have Fl48 := ((Fl27.keep K36 nin0).keep K41 nin0)
  have Va49 := ((Va28.keep K36 nin0).keep K41 nin0)
  have Od10 : Old Z n0 T41.heap := Od9.keep K41 all0
  have Fl50 := ((Fl29.keep K36 nin0).keep K41 nin0)
  obtain ⟨_, T51, L51, X51, hQ51, st51⟩ := own_virtual X47 hx hZ hown (y := y_8) (z := y_8) Ex45 (w_96 hw) (w_44 hw) (notFace_of_selects (args := #[]) (mvT hZ (w_46 hw))) (w_46 hw) (w_45 hw) (w_7 hw) (w_47 hw) (rm43 l Z a0 hw [] b17 b22_b2_b3_b1 (nar .byte ((nar .char x3).toInt8.toInt32)) (nar .byte ((nar .char x8).toInt8.toInt32)) (nar .byte ((nar .char x13).toInt8.toInt32)) k22_k2_k3_k1 si2 T41.heap n0 z10 Fl48 Va49 Ex45 S5_COMPACT_STRINGS Od10 nc3 Fl50) e47 (Ls := #[.val (.int p1), .val (.int p2), .val (.int p3), .val (.int p4), .val (.int (2 : Int32)), .val (.ref b17), .val (.ref b23), .val (.ref b36_b7), .val (.ref b41_b7)]) (by rw [hml]; rfl) (argsL := []) (rest := []) (lenOf pd_8 rfl) (hb hby at_129) (W := 0)
  obtain ⟨rfl, Nq51, e51⟩ := hQ51
  have N51 := Fr.app N47 Nq51
  obtain ⟨_, T52, L52, X52, hQ52, st52⟩ := own_virtual X51 hx hZ hown (y := y_8) (z := y_8) Ex45 (w_96 hw) (w_44 hw) (notFace_of_selects (args := #[]) (mvT hZ (w_46 hw))) (w_46 hw) (w_45 hw) (w_7 hw) (w_47 hw) (rm43 l Z a0 hw [] b17 b22_b2_b3_b1 (nar .byte ((nar .char x3).toInt8.toInt32)) (nar .byte ((nar .char x8).toInt8.toInt32)) (nar .byte ((nar .char x13).toInt8.toInt32)) k22_k2_k3_k1 si2 T41.heap n0 z10 Fl48 Va49 Ex45 S5_COMPACT_STRINGS Od10 nc3 Fl50) e51 (Ls := #[.val (.int p1), .val (.int p2), .val (.int p3), .val (.int p4), .val (.int (2 : Int32)), .val (.ref b17), .val (.ref b23), .val (.ref b36_b7), .val (.ref b41_b7)]) (by rw [hml]; rfl) (argsL := []) (rest := [(.int (3 : Int32))]) (lenOf pd_8 rfl) (hb hby at_134) (W := 1)
  obtain ⟨rfl, Nq52, e52⟩ := hQ52
  have N52 := Fr.app N51 Nq52
  have Ex53 := (Ex37.keep K41)
  have Fl54 := (Fl40.keep K41 nin0)
  have Fl55 := (Fl38.keep K41 nin0)
  have Va56 := (Va39.keep K41 nin0)
  obtain ⟨_, T57, L57, X57, hQ57, st57⟩ := own_virtual X52 hx hZ hown (y := y_20) (z := y_20) Ex42 (w_97 hw) (w_98 hw) (notFace_of_selects (args := #[]) (mvT hZ (w_100 hw))) (w_100 hw) (w_99 hw) (w_36 hw) (w_101 hw) (rm47 l Z a0 hw [] b36_b7 b41_b7 b17 b23 si2 b22_b2_b3_b1 b25_b2_b3_b1 (nar .byte ((nar .char x3).toInt8.toInt32)) (nar .byte ((nar .char x8).toInt8.toInt32)) (nar .byte ((nar .char x13).toInt8.toInt32)) k22_k2_k3_k1 k25_k2_k3_k1 T41.heap n0 z10 o41_1 Fl43 o41_2 Ex45 ne_b17_b23 Ex53 S5_COMPACT_STRINGS Od10 nc3 Fl50 Fl54 Fl48 Fl55 Va49 Va56) e52 (Ls := #[.val (.int p1), .val (.int p2), .val (.int p3), .val (.int p4), .val (.int (2 : Int32)), .val (.ref b17), .val (.ref b23), .val (.ref b36_b7), .val (.ref b41_b7)]) (by rw [hml]; rfl) (argsL := [(.ref b41_b7)]) (rest := []) (lenOf pd_16 rfl) (hb hby at_144) (W := 0)
  obtain ⟨rfl, Nq57, e57⟩ := hQ57
  have N57 := Fr.app N52 Nq57
  refine ⟨T57, _, _, _, (some (.int (1 : Int32))), X57, nofun, by decide, by decide, ?_, fun fs hr => ?_⟩
  · show Q0 n0 _ T57.heap _
    rw [e57]
    subst ex13
    subst ex8
    subst ex3
    exact ⟨rfl, N57⟩
  · show Steps p.tables e below (s₁.setTop (mkF m 0 #[.val (.int p1), .val (.int p2), .val (.int p3), .val (.int p4), .unset, .unset, .unset, .unset, .unset] [])) _
    refine XS.iloadN X0.here hx rfl (hb hby at_0) rfl ?_
    refine XS.iconst X0.here hx rfl (hb hby at_1) ?_
    refine XS.iand X0.here hx rfl (hb hby at_2) rfl ?_
    show Steps p.tables e below (s₁.setTop (mkF m 3 #[.val (.int p1), .val (.int p2), .val (.int p3), .val (.int p4), .unset, .unset, .unset, .unset, .unset] [(.int (p4 &&& (3 : Int32)))])) _
    rw [hk]
    refine XS.istore X0.here hx rfl (hb hby at_3) rfl (l' := #[.val (.int p1), .val (.int p2), .val (.int p3), .val (.int p4), .val (.int (2 : Int32)), .unset, .unset, .unset, .unset]) rfl ?_
    refine XS.iload X0.here hx rfl (hb hby at_5) rfl ?_
    refine XS.iconst X0.here hx rfl (hb hby at_7) ?_
    refine XS.icmpYes X0.here hx rfl (pc0 := 8) (pc' := 22) rfl (hb hby at_8) rfl (feq ((by decide : ¬ ((2 : Int32) = (3 : Int32))) : ¬ ((2 : Int32) = (3 : Int32)))).2 (by decide) (by decide) ?_
    refine XS.iload X0.here hx rfl (hb hby at_22) rfl ?_
    refine XS.iconst X0.here hx rfl (hb hby at_24) ?_
    refine XS.iadd X0.here hx rfl (hb hby at_25) rfl ?_
    refine XS.istore X0.here hx rfl (hb hby at_26) rfl (l' := #[.val (.int p1), .val (.int p2), .val (.int p3), .val (.int p4), .val (.int (2 : Int32)), .unset, .unset, .val (.int (3 : Int32)), .unset]) rfl ?_
    refine XS.iload X0.here hx rfl (hb hby at_28) rfl ?_
    refine st1 _ ?_
    refine XS.astore X1.here hx rfl (hb hby at_32) rfl rfl (l' := #[.val (.int p1), .val (.int p2), .val (.int p3), .val (.int p4), .val (.int (2 : Int32)), .unset, .unset, .val (.int (3 : Int32)), .val (.ref b1)]) rfl ?_
    show Steps p.tables e below (T1.setTop (mkF m 34 #[.val (.int p1), .val (.int p2), .val (.int p3), .val (.int p4), .val (.int (2 : Int32)), .unset, .unset, .val (.int (3 : Int32)), .val (.ref b1)] [])) _
    refine XS.aload X1.here hx rfl (hb hby at_34) rfl rfl ?_
    refine XS.iconst X1.here hx rfl (hb hby at_36) ?_
    refine XS.iloadN X1.here hx rfl (hb hby at_37) rfl ?_
    refine st2 _ ?_
    show Steps p.tables e below (T2.setTop (mkF m 41 #[.val (.int p1), .val (.int p2), .val (.int p3), .val (.int p4), .val (.int (2 : Int32)), .unset, .unset, .val (.int (3 : Int32)), .val (.ref b1)] [(.int (if (p1 &&& (63 : Int32)) < (26 : Int32) then (nar .char (((65 : Int32) + (p1 &&& (63 : Int32))).toUInt32.toUInt16.toUInt32.toInt32)) else (if (p1 &&& (63 : Int32)) < (52 : Int32) then (nar .char (((97 : Int32) + ((p1 &&& (63 : Int32)) - (26 : Int32))).toUInt32.toUInt16.toUInt32.toInt32)) else (if (p1 &&& (63 : Int32)) < (62 : Int32) then (nar .char (((48 : Int32) + ((p1 &&& (63 : Int32)) - (52 : Int32))).toUInt32.toUInt16.toUInt32.toInt32)) else (if (p1 &&& (63 : Int32)) = (62 : Int32) then (45 : Int32) else (95 : Int32)))))), (.int (0 : Int32)), (.ref b1)])) _
    rw [← ex3]
    refine st6 _ ?_
    refine XS.iload X6.here hx rfl (hb hby at_42) rfl ?_
    refine XS.iconst X6.here hx rfl (hb hby at_44) ?_
    refine XS.icmpNo X6.here hx rfl (hb hby at_45) rfl (tlt ((by decide : (1 : Int32) < (3 : Int32)) : (1 : Int32) < (3 : Int32))).2.2.2 ?_
    refine XS.aload X6.here hx rfl (hb hby at_48) rfl rfl ?_
    refine XS.iconst X6.here hx rfl (hb hby at_50) ?_
    refine XS.iloadN X6.here hx rfl (hb hby at_51) rfl ?_
    refine st7 _ ?_
    show Steps p.tables e below (T7.setTop (mkF m 55 #[.val (.int p1), .val (.int p2), .val (.int p3), .val (.int p4), .val (.int (2 : Int32)), .unset, .unset, .val (.int (3 : Int32)), .val (.ref b1)] [(.int (if (p2 &&& (63 : Int32)) < (26 : Int32) then (nar .char (((65 : Int32) + (p2 &&& (63 : Int32))).toUInt32.toUInt16.toUInt32.toInt32)) else (if (p2 &&& (63 : Int32)) < (52 : Int32) then (nar .char (((97 : Int32) + ((p2 &&& (63 : Int32)) - (26 : Int32))).toUInt32.toUInt16.toUInt32.toInt32)) else (if (p2 &&& (63 : Int32)) < (62 : Int32) then (nar .char (((48 : Int32) + ((p2 &&& (63 : Int32)) - (52 : Int32))).toUInt32.toUInt16.toUInt32.toInt32)) else (if (p2 &&& (63 : Int32)) = (62 : Int32) then (45 : Int32) else (95 : Int32)))))), (.int (1 : Int32)), (.ref b1)])) _
    rw [← ex8]
    refine st11 _ ?_
    refine XS.iload X11.here hx rfl (hb hby at_56) rfl ?_
    refine XS.iconst X11.here hx rfl (hb hby at_58) ?_
    refine XS.icmpNo X11.here hx rfl (hb hby at_59) rfl (tlt ((by decide : (2 : Int32) < (3 : Int32)) : (2 : Int32) < (3 : Int32))).2.2.2 ?_
    refine XS.aload X11.here hx rfl (hb hby at_62) rfl rfl ?_
    refine XS.iconst X11.here hx rfl (hb hby at_64) ?_
    refine XS.iloadN X11.here hx rfl (hb hby at_65) rfl ?_
    refine st12 _ ?_
    show Steps p.tables e below (T12.setTop (mkF m 69 #[.val (.int p1), .val (.int p2), .val (.int p3), .val (.int p4), .val (.int (2 : Int32)), .unset, .unset, .val (.int (3 : Int32)), .val (.ref b1)] [(.int (if (p3 &&& (63 : Int32)) < (26 : Int32) then (nar .char (((65 : Int32) + (p3 &&& (63 : Int32))).toUInt32.toUInt16.toUInt32.toInt32)) else (if (p3 &&& (63 : Int32)) < (52 : Int32) then (nar .char (((97 : Int32) + ((p3 &&& (63 : Int32)) - (26 : Int32))).toUInt32.toUInt16.toUInt32.toInt32)) else (if (p3 &&& (63 : Int32)) < (62 : Int32) then (nar .char (((48 : Int32) + ((p3 &&& (63 : Int32)) - (52 : Int32))).toUInt32.toUInt16.toUInt32.toInt32)) else (if (p3 &&& (63 : Int32)) = (62 : Int32) then (45 : Int32) else (95 : Int32)))))), (.int (2 : Int32)), (.ref b1)])) _
    rw [← ex13]
    refine st16 _ ?_
    refine st17 _ ?_
    refine XS.dup X17.here hx rfl (hb hby at_73) rfl rfl ?_
    refine XS.aload X17.here hx rfl (hb hby at_74) rfl rfl ?_
    refine st22 _ ?_
    refine XS.astore X22.here hx rfl (hb hby at_79) rfl rfl (l' := #[.val (.int p1), .val (.int p2), .val (.int p3), .val (.int p4), .val (.int (2 : Int32)), .val (.ref b17), .unset, .val (.int (3 : Int32)), .val (.ref b1)]) rfl ?_
    refine st23 _ ?_
    refine XS.dup X23.here hx rfl (hb hby at_84) rfl rfl ?_
    refine XS.aload X23.here hx rfl (hb hby at_85) rfl rfl ?_
    refine st25 _ ?_
    refine XS.astore X25.here hx rfl (hb hby at_90) rfl rfl (l' := #[.val (.int p1), .val (.int p2), .val (.int p3), .val (.int p4), .val (.int (2 : Int32)), .val (.ref b17), .val (.ref b23), .val (.int (3 : Int32)), .val (.ref b1)]) rfl ?_
    show Steps p.tables e below (T25.setTop (mkF m 92 #[.val (.int p1), .val (.int p2), .val (.int p3), .val (.int p4), .val (.int (2 : Int32)), .val (.ref b17), .val (.ref b23), .val (.int (3 : Int32)), .val (.ref b1)] [])) _
    refine XS.aload X25.here hx rfl (hb hby at_92) rfl rfl ?_
    refine st36 _ ?_
    refine XS.astore X36.here hx rfl (hb hby at_97) rfl rfl (l' := #[.val (.int p1), .val (.int p2), .val (.int p3), .val (.int p4), .val (.int (2 : Int32)), .val (.ref b17), .val (.ref b23), .val (.ref b36_b7), .val (.ref b1)]) rfl ?_
    refine XS.aload X36.here hx rfl (hb hby at_99) rfl rfl ?_
    refine st41 _ ?_
    refine XS.astore X41.here hx rfl (hb hby at_104) rfl rfl (l' := #[.val (.int p1), .val (.int p2), .val (.int p3), .val (.int p4), .val (.int (2 : Int32)), .val (.ref b17), .val (.ref b23), .val (.ref b36_b7), .val (.ref b41_b7)]) rfl ?_
    refine XS.aload X41.here hx rfl (hb hby at_106) rfl rfl ?_
    refine XS.ifnullNo X41.here hx rfl (hb hby at_108) rfl ?_
    refine XS.aload X41.here hx rfl (hb hby at_111) rfl rfl ?_
    refine st44 _ ?_
    refine XS.aload X44.here hx rfl (hb hby at_116) rfl rfl ?_
    refine st46 _ ?_
    show Steps p.tables e below (T46.setTop (mkF m 121 #[.val (.int p1), .val (.int p2), .val (.int p3), .val (.int p4), .val (.int (2 : Int32)), .val (.ref b17), .val (.ref b23), .val (.ref b36_b7), .val (.ref b41_b7)] [(.int (1 : Int32))])) _
    refine XS.ifNo X46.here hx rfl (hb hby at_121) rfl ((if0 _ _).trans (feq ((by decide : ¬ ((1 : Int32) = (0 : Int32))) : ¬ ((1 : Int32) = (0 : Int32)))).1) ?_
    refine XS.aload X46.here hx rfl (hb hby at_124) rfl rfl ?_
    refine st47 _ ?_
    refine st51 _ ?_
    refine XS.aload X51.here hx rfl (hb hby at_132) rfl rfl ?_
    refine st52 _ ?_
    refine XS.icmpNo X52.here hx rfl (hb hby at_137) rfl (teq ((by decide : (3 : Int32) = (3 : Int32)) : (3 : Int32) = (3 : Int32))).2 ?_
    refine XS.aload X52.here hx rfl (hb hby at_140) rfl rfl ?_
    refine XS.aload X52.here hx rfl (hb hby at_142) rfl rfl ?_
    refine st57 _ ?_
    refine XS.ifNo X57.here hx rfl (hb hby at_147) rfl ((if0 _ _).trans (feq ((by decide : ¬ ((1 : Int32) = (0 : Int32))) : ¬ ((1 : Int32) = (0 : Int32)))).1) ?_
    refine XS.iconst X57.here hx rfl (hb hby at_150) ?_
    show Steps p.tables e below (T57.setTop (mkF m 151 #[.val (.int p1), .val (.int p2), .val (.int p3), .val (.int p4), .val (.int (2 : Int32)), .val (.ref b17), .val (.ref b23), .val (.ref b36_b7), .val (.ref b41_b7)] [(.int (1 : Int32))])) _
    refine XS.goto X57.here hx rfl (pc0 := 151) (pc' := 155) rfl (hb hby at_151) (by decide) (by decide) ?_
    exact retN X57 hx (t := .boolean) hret (by simp) (hb hby at_155) hr
theorem w_108 {a0 : Array Value} {Z : State} (hw : ∀ d ∈ tables_1, d.before a0 Z = true) : Jvm.Cond.before (Jvm.Cond.stringLink "com/example/bare_queue/barequeue/QueueNameOfPinLaw" (7 : Nat) "ABCDEFGHIJKLMNOPQRSTUVWXYZabcdefghijklmnopqrstuvwxyz0123456789-_0123456789abcdef") a0 Z = true := hw _ (List.mem_of_getElem? (i := 108) rfl)
-- java/lang/String.isEmpty()Z
abbrev Rm48 : Room := { frames := 0, cells := 0, slots := 0, locals := 0 }
def Q48 (Z : State) (a1 : Addr) (a2 : Addr) (u3 : List Value) (ck4 : ClassId) (h0 : Heap) (n0 : Nat) (v : Option Value) (h : Heap) (L : List Loc) : Prop := v = some (.int (0 : Int32)) ∧ Fr n0 L ∧ h = h0
theorem ef48 (a1 : Addr) (m : MethodId) : entryFrame m #[(.ref a1)] 1 = mkF m 0 #[.val (.ref a1)] [] := by first | (simp [entryFrame, mkF, argsToLocals, Value.category]; done) | rfl
theorem rm48 (l : Launch) (Z : State) (a0 : Array Value) (hw : ∀ d ∈ tables_1, d.before a0 Z = true) (ws : List Jvm.Cond) (a1 : Addr) (a2 : Addr) (u3 : List Value) (ck4 : ClassId) (h0 : Heap) (n0 : Nat) (Z0 : n0 ≤ h0.size) (F_value_a1 : Fld Z h0 a1 "java/lang/String" "value" "[B" (.ref a2)) (V_a2 : Arv Z h0 a2 ck4 .byte (80 : Int32) u3 (.int (0 : Int32))) :
    OwnMet l Z y_6 jdk_42_method_55_code 1 (some .boolean) ws Rm48 #[(.ref a1)] h0 (Q48 Z a1 a2 u3 ck4 h0 n0) := by
  refine own_body (plainFor_of_name pn_2) (ef48 a1) ?_
  intro p e s m below meth c s₁ hx hby hml hown hnm hret hZ X0 e0
  have N0 := Fr.nil n0
  obtain ⟨T1, X1, e1, st1⟩ := getF X0 hx hZ hown (host := "") (Or.inl (w_32 hw)) Via.refl e0 F_value_a1 (g := (mkF m 1 #[.val (.ref a1)] [(.ref a1)])) rfl rfl (hb hby d9_1)
  obtain ⟨cl2, Ar2, q2, S2, M2, Hs2, G2⟩ := id V_a2
  refine ⟨T1, _, _, _, (some (.int (0 : Int32))), X1, nofun, by decide, by decide, ?_, fun fs hr => ?_⟩
  · show Q48 Z a1 a2 u3 ck4 h0 n0 _ T1.heap _
    rw [e1]
    exact ⟨rfl, N0, rfl⟩
  · show Steps p.tables e below (s₁.setTop (mkF m 0 #[.val (.ref a1)] [])) _
    refine XS.aloadN X0.here hx rfl (hb hby d9_0) rfl rfl ?_
    refine st1 _ ?_
    refine X1.arraylength hx (by rw [e1]; exact Ar2.1) (State.isArrayOf_alike hZ.alike Ar2.2.1) (g := (mkF m 4 #[.val (.ref a1)] [(.ref a2)])) rfl rfl (hb hby d9_4) _ ?_
    show Steps p.tables e below (T1.setTop (mkF m 5 #[.val (.ref a1)] [(.int cl2.slots.size.toInt32)])) _
    rw [len_of S2 M2]
    refine XS.ifYes X1.here hx rfl (pc0 := 5) (pc' := 12) rfl (hb hby d9_5) rfl ((if0 _ _).trans (feq ((by decide : ¬ ((80 : Int32) = (0 : Int32))) : ¬ ((80 : Int32) = (0 : Int32)))).2) (by decide) (by decide) ?_
    refine XS.iconst X1.here hx rfl (hb hby d9_12) ?_
    exact retN X1 hx (t := .boolean) hret (by simp) (hb hby d9_13) hr
-- com/example/bare_queue/barequeue/QueueName.isAllowed(C)Z
abbrev Rm49 : Room := { frames := 0, cells := 0, slots := 0, locals := 0 }
def Q49 (Z : State) (i1 : Int32) (h0 : Heap) (n0 : Nat) (v : Option Value) (h : Heap) (L : List Loc) : Prop := v = some (.int (1 : Int32)) ∧ Fr n0 L ∧ h = h0
theorem ef49 (i1 : Int32) (m : MethodId) : entryFrame m #[(.int i1)] 1 = mkF m 0 #[.val (.int i1)] [] := by first | (simp [entryFrame, mkF, argsToLocals, Value.category]; done) | rfl
theorem rm49 (l : Launch) (Z : State) (a0 : Array Value) (hw : ∀ d ∈ tables_1, d.before a0 Z = true) (ws : List Jvm.Cond) (i1 : Int32) (h0 : Heap) (n0 : Nat) (Z0 : n0 ≤ h0.size) (c2 : ¬ (i1 < (65 : Int32))) (c3 : ¬ ((90 : Int32) < i1)) :
    OwnMet l Z y_14 prog_12_method_3_code 1 (some .boolean) ws Rm49 #[(.int i1)] h0 (Q49 Z i1 h0 n0) := by
  refine own_body (plainFor_of_name pn_5) (ef49 i1) ?_
  intro p e s m below meth c s₁ hx hby hml hown hnm hret hZ X0 e0
  have N0 := Fr.nil n0
  refine ⟨s₁, _, _, _, (some (.int (1 : Int32))), X0, nofun, by decide, by decide, ?_, fun fs hr => ?_⟩
  · show Q49 Z i1 h0 n0 _ s₁.heap _
    rw [e0]
    exact ⟨rfl, N0, rfl⟩
  · show Steps p.tables e below (s₁.setTop (mkF m 0 #[.val (.int i1)] [])) _
    refine XS.iloadN X0.here hx rfl (hb hby d17_0) rfl ?_
    refine XS.bipush X0.here hx rfl (hb hby d17_1) ?_
    refine XS.icmpNo X0.here hx rfl (hb hby d17_3) rfl (flt (c2 : ¬ (i1 < (65 : Int32)))).1 ?_
    refine XS.iloadN X0.here hx rfl (hb hby d17_6) rfl ?_
    refine XS.bipush X0.here hx rfl (hb hby d17_7) ?_
    refine XS.icmpYes X0.here hx rfl (pc0 := 9) (pc' := 48) rfl (hb hby d17_9) rfl (flt (c3 : ¬ ((90 : Int32) < i1))).2.2.2 (by decide) (by decide) ?_
    refine XS.iconst X0.here hx rfl (hb hby d17_48) ?_
    refine XS.goto X0.here hx rfl (pc0 := 49) (pc' := 53) rfl (hb hby d17_49) (by decide) (by decide) ?_
    exact retN X0 hx (t := .boolean) hret (by simp) (hb hby d17_53) hr
-- a turn of com/example/bare_queue/barequeue/QueueName.of(Ljava/lang/String;)Lcom/example/bare_queue/barequeue/QueueName;
theorem tn50 (l : Launch) (Z : State) (a0 : Array Value) (hw : ∀ d ∈ tables_1, d.before a0 Z = true) (a1 : Addr) (i2 : Int32) (a3 : Addr) (u4 : List Value) (ck5 : ClassId) (i6 : Int32) (i7 : Int32) (r10 : Value) (i13 : Int32) (h0 : Heap) (n0 : Nat) (Z0 : n0 ≤ h0.size) (E_a1 : Exa Z h0 a1 "java/lang/String") (F_value_a1 : Fld Z h0 a1 "java/lang/String" "value" "[B" (.ref a3)) (V_a3 : Arv Z h0 a3 ck5 .byte i6 u4 (.int (0 : Int32))) (S_COMPACT_STRINGS : Sta Z Z.heap "java/lang/String" "COMPACT_STRINGS" "Z" (.int i7)) (Od0 : Old Z n0 h0) (c8 : ¬ (i7 = (0 : Int32))) (F_coder_a1 : Fld Z h0 a1 "java/lang/String" "coder" "B" (.int (0 : Int32))) (c9 : i2 < (i6 >>> ((0 : Int32) &&& 31))) (R_r10 : r10.isRef = true) (S_SIOOBE_FORMATTER : Sta Z Z.heap "jdk/internal/util/Preconditions" "SIOOBE_FORMATTER" "Ljava/util/function/BiFunction;" r10) (c11 : ¬ (i2 < (0 : Int32))) (c12 : i2 < i6) (rd14 : u4.getD (i2).toNatClampNeg (.int (0 : Int32)) = (.int i13)) (c15 : ¬ ((nar .char (nar .char ((i13 &&& (255 : Int32)).toUInt32.toUInt16.toUInt32.toInt32))) < (65 : Int32))) (c16 : ¬ ((90 : Int32) < (nar .char (nar .char ((i13 &&& (255 : Int32)).toUInt32.toUInt16.toUInt32.toInt32))))) {p : Program} {e : Env} {s : State} {m : MethodId} {args : Array Value} {below : List Frame} {meth : Method} {c : Code} {s₁ : State} {L0 : List Loc} {ce sl : Nat} (hx : p.tables.exec = Jvm.exec) (hby : c.code = prog_12_method_2_code) (hml : c.maxLocals = 3) (hown : s.vm.findClass "com/example/bare_queue/barequeue/QueueName" = some m.cls) (hZ : Z.Warmed39 s.vm) (X0 : Stand p l e RmT8 s m args below meth c s₁ L0 ce sl) (e0 : s₁.heap = h0) (N0 : Fr n0 L0) (hce : ce ≤ RmT8.cells) (hsl : sl ≤ RmT8.slots) :
    ∃ (T : State) (L : List Loc), Stand p l e RmT8 s m args below meth c T L ce sl ∧ T.heap = h0 ∧ Fr n0 L ∧ ∀ target, Steps p.tables e below (T.setTop (mkF m 23 #[.val (.ref a1), .val (.int (i2 + (1 : Int32))), .unset] [])) target → Steps p.tables e below (s₁.setTop (mkF m 23 #[.val (.ref a1), .val (.int i2), .unset] [])) target := by
  obtain ⟨_, T1, L1, X1, hQ1, st1⟩ := own_virtual X0 hx hZ hown (y := y_8) (z := y_8) E_a1 (w_43 hw) (w_44 hw) (notFace_of_selects (args := #[]) (mvT hZ (w_46 hw))) (w_46 hw) (w_45 hw) (w_7 hw) (w_47 hw) (rm9 l Z a0 hw [] a1 a3 u4 ck5 i6 i7 h0 n0 Z0 F_value_a1 V_a3 E_a1 S_COMPACT_STRINGS Od0 c8 F_coder_a1) e0 (Ls := #[.val (.ref a1), .val (.int i2), .unset]) (by rw [hml]; rfl) (argsL := []) (rest := [(.int i2)]) (lenOf pd_8 rfl) (hb hby d8_25) (W := 1) (hc := hce) (hs := hsl)
  obtain ⟨rfl, Nq1, e1⟩ := hQ1
  have N1 := Fr.app N0 Nq1
  obtain ⟨_, T2, L2, X2, hQ2, st2⟩ := own_virtual X1 hx hZ hown (y := y_13) (z := y_13) E_a1 (w_53 hw) (w_54 hw) (notFace_of_selects (args := #[]) (mvT hZ (w_56 hw))) (w_56 hw) (w_55 hw) (w_7 hw) (w_57 hw) (rm14 l Z a0 hw [] a1 i2 i7 a3 u4 ck5 i6 r10 i13 h0 n0 Z0 E_a1 S_COMPACT_STRINGS Od0 c8 F_coder_a1 F_value_a1 V_a3 R_r10 S_SIOOBE_FORMATTER c11 c12 rd14) e1 (Ls := #[.val (.ref a1), .val (.int i2), .unset]) (by rw [hml]; rfl) (argsL := [(.int i2)]) (rest := []) (lenOf pd_0 rfl) (hb hby d8_33) (W := 0) (hc := hce) (hs := hsl)
  obtain ⟨rfl, Nq2, e2⟩ := hQ2
  have N2 := Fr.app N1 Nq2
  obtain ⟨_, T3, L3, X3, hQ3, st3⟩ := own_callS X2 hx hZ hown (y := y_14) (w_75 hw) (w_76 hw) (w_36 hw) (w_77 hw) (rm49 l Z a0 hw [] (nar .char (nar .char ((i13 &&& (255 : Int32)).toUInt32.toUInt16.toUInt32.toInt32))) h0 n0 Z0 c15 c16) e2 (Ls := #[.val (.ref a1), .val (.int i2), .unset]) (by rw [hml]; rfl) (argsL := [(.int (nar .char (nar .char ((i13 &&& (255 : Int32)).toUInt32.toUInt16.toUInt32.toInt32))))]) (rest := []) (lenOf pd_12 rfl) (hb hby d8_36) (W := 0) (hc := hce) (hs := hsl)
  obtain ⟨rfl, Nq3, e3⟩ := hQ3
  have N3 := Fr.app N2 Nq3
  refine ⟨T3, _, X3, e3, N3, fun target hr => ?_⟩
  show Steps p.tables e below (s₁.setTop (mkF m 23 #[.val (.ref a1), .val (.int i2), .unset] [])) _
  refine XS.iloadN X0.here hx rfl (hb hby d8_23) rfl ?_
  refine XS.aloadN X0.here hx rfl (hb hby d8_24) rfl rfl ?_
  refine st1 _ ?_
  refine XS.icmpNo X1.here hx rfl (hb hby d8_28) rfl (tlt (c9 : i2 < (i6 >>> ((0 : Int32) &&& 31)))).2.1 ?_
  refine XS.aloadN X1.here hx rfl (hb hby d8_31) rfl rfl ?_
  refine XS.iloadN X1.here hx rfl (hb hby d8_32) rfl ?_
  refine st2 _ ?_
  refine st3 _ ?_
  refine XS.ifYes X3.here hx rfl (pc0 := 39) (pc' := 86) rfl (hb hby d8_39) rfl ((if0 _ _).trans (feq ((by decide : ¬ ((1 : Int32) = (0 : Int32))) : ¬ ((1 : Int32) = (0 : Int32)))).2) (by decide) (by decide) ?_
  refine XS.iinc X3.here hx rfl (hb hby d8_86) rfl (l' := #[.val (.ref a1), .val (.int (i2 + (1 : Int32))), .unset]) rfl ?_
  refine XS.goto X3.here hx rfl (pc0 := 89) (pc' := 23) rfl (hb hby d8_89) (by decide) (by decide) ?_
  exact hr
-- com/example/bare_queue/barequeue/QueueName.isAllowed(C)Z
abbrev Rm51 : Room := { frames := 0, cells := 0, slots := 0, locals := 0 }
def Q51 (Z : State) (i1 : Int32) (h0 : Heap) (n0 : Nat) (v : Option Value) (h : Heap) (L : List Loc) : Prop := v = some (.int (1 : Int32)) ∧ Fr n0 L ∧ h = h0
theorem ef51 (i1 : Int32) (m : MethodId) : entryFrame m #[(.int i1)] 1 = mkF m 0 #[.val (.int i1)] [] := by first | (simp [entryFrame, mkF, argsToLocals, Value.category]; done) | rfl
theorem rm51 (l : Launch) (Z : State) (a0 : Array Value) (hw : ∀ d ∈ tables_1, d.before a0 Z = true) (ws : List Jvm.Cond) (i1 : Int32) (h0 : Heap) (n0 : Nat) (Z0 : n0 ≤ h0.size) (c2 : ¬ (i1 < (65 : Int32))) (c3 : (90 : Int32) < i1) (c4 : ¬ (i1 < (97 : Int32))) (c5 : ¬ ((122 : Int32) < i1)) :
    OwnMet l Z y_14 prog_12_method_3_code 1 (some .boolean) ws Rm51 #[(.int i1)] h0 (Q51 Z i1 h0 n0) := by
  refine own_body (plainFor_of_name pn_5) (ef51 i1) ?_
  intro p e s m below meth c s₁ hx hby hml hown hnm hret hZ X0 e0
  have N0 := Fr.nil n0
  refine ⟨s₁, _, _, _, (some (.int (1 : Int32))), X0, nofun, by decide, by decide, ?_, fun fs hr => ?_⟩
  · show Q51 Z i1 h0 n0 _ s₁.heap _
    rw [e0]
    exact ⟨rfl, N0, rfl⟩
  · show Steps p.tables e below (s₁.setTop (mkF m 0 #[.val (.int i1)] [])) _
    refine XS.iloadN X0.here hx rfl (hb hby d17_0) rfl ?_
    refine XS.bipush X0.here hx rfl (hb hby d17_1) ?_
    refine XS.icmpNo X0.here hx rfl (hb hby d17_3) rfl (flt (c2 : ¬ (i1 < (65 : Int32)))).1 ?_
    refine XS.iloadN X0.here hx rfl (hb hby d17_6) rfl ?_
    refine XS.bipush X0.here hx rfl (hb hby d17_7) ?_
    refine XS.icmpNo X0.here hx rfl (hb hby d17_9) rfl (tlt (c3 : (90 : Int32) < i1)).2.2.2 ?_
    refine XS.iloadN X0.here hx rfl (hb hby d17_12) rfl ?_
    refine XS.bipush X0.here hx rfl (hb hby d17_13) ?_
    refine XS.icmpNo X0.here hx rfl (hb hby d17_15) rfl (flt (c4 : ¬ (i1 < (97 : Int32)))).1 ?_
    refine XS.iloadN X0.here hx rfl (hb hby d17_18) rfl ?_
    refine XS.bipush X0.here hx rfl (hb hby d17_19) ?_
    refine XS.icmpYes X0.here hx rfl (pc0 := 21) (pc' := 48) rfl (hb hby d17_21) rfl (flt (c5 : ¬ ((122 : Int32) < i1))).2.2.2 (by decide) (by decide) ?_
    show Steps p.tables e below (s₁.setTop (mkF m 48 #[.val (.int i1)] [])) _
    refine XS.iconst X0.here hx rfl (hb hby d17_48) ?_
    refine XS.goto X0.here hx rfl (pc0 := 49) (pc' := 53) rfl (hb hby d17_49) (by decide) (by decide) ?_
    exact retN X0 hx (t := .boolean) hret (by simp) (hb hby d17_53) hr
-- a turn of com/example/bare_queue/barequeue/QueueName.of(Ljava/lang/String;)Lcom/example/bare_queue/barequeue/QueueName;
theorem tn52 (l : Launch) (Z : State) (a0 : Array Value) (hw : ∀ d ∈ tables_1, d.before a0 Z = true) (a1 : Addr) (i2 : Int32) (a3 : Addr) (u4 : List Value) (ck5 : ClassId) (i6 : Int32) (i7 : Int32) (r10 : Value) (i13 : Int32) (h0 : Heap) (n0 : Nat) (Z0 : n0 ≤ h0.size) (E_a1 : Exa Z h0 a1 "java/lang/String") (F_value_a1 : Fld Z h0 a1 "java/lang/String" "value" "[B" (.ref a3)) (V_a3 : Arv Z h0 a3 ck5 .byte i6 u4 (.int (0 : Int32))) (S_COMPACT_STRINGS : Sta Z Z.heap "java/lang/String" "COMPACT_STRINGS" "Z" (.int i7)) (Od0 : Old Z n0 h0) (c8 : ¬ (i7 = (0 : Int32))) (F_coder_a1 : Fld Z h0 a1 "java/lang/String" "coder" "B" (.int (0 : Int32))) (c9 : i2 < (i6 >>> ((0 : Int32) &&& 31))) (R_r10 : r10.isRef = true) (S_SIOOBE_FORMATTER : Sta Z Z.heap "jdk/internal/util/Preconditions" "SIOOBE_FORMATTER" "Ljava/util/function/BiFunction;" r10) (c11 : ¬ (i2 < (0 : Int32))) (c12 : i2 < i6) (rd14 : u4.getD (i2).toNatClampNeg (.int (0 : Int32)) = (.int i13)) (c15 : ¬ ((nar .char (nar .char ((i13 &&& (255 : Int32)).toUInt32.toUInt16.toUInt32.toInt32))) < (65 : Int32))) (c16 : (90 : Int32) < (nar .char (nar .char ((i13 &&& (255 : Int32)).toUInt32.toUInt16.toUInt32.toInt32)))) (c17 : ¬ ((nar .char (nar .char ((i13 &&& (255 : Int32)).toUInt32.toUInt16.toUInt32.toInt32))) < (97 : Int32))) (c18 : ¬ ((122 : Int32) < (nar .char (nar .char ((i13 &&& (255 : Int32)).toUInt32.toUInt16.toUInt32.toInt32))))) {p : Program} {e : Env} {s : State} {m : MethodId} {args : Array Value} {below : List Frame} {meth : Method} {c : Code} {s₁ : State} {L0 : List Loc} {ce sl : Nat} (hx : p.tables.exec = Jvm.exec) (hby : c.code = prog_12_method_2_code) (hml : c.maxLocals = 3) (hown : s.vm.findClass "com/example/bare_queue/barequeue/QueueName" = some m.cls) (hZ : Z.Warmed39 s.vm) (X0 : Stand p l e RmT8 s m args below meth c s₁ L0 ce sl) (e0 : s₁.heap = h0) (N0 : Fr n0 L0) (hce : ce ≤ RmT8.cells) (hsl : sl ≤ RmT8.slots) :
    ∃ (T : State) (L : List Loc), Stand p l e RmT8 s m args below meth c T L ce sl ∧ T.heap = h0 ∧ Fr n0 L ∧ ∀ target, Steps p.tables e below (T.setTop (mkF m 23 #[.val (.ref a1), .val (.int (i2 + (1 : Int32))), .unset] [])) target → Steps p.tables e below (s₁.setTop (mkF m 23 #[.val (.ref a1), .val (.int i2), .unset] [])) target := by
  obtain ⟨_, T1, L1, X1, hQ1, st1⟩ := own_virtual X0 hx hZ hown (y := y_8) (z := y_8) E_a1 (w_43 hw) (w_44 hw) (notFace_of_selects (args := #[]) (mvT hZ (w_46 hw))) (w_46 hw) (w_45 hw) (w_7 hw) (w_47 hw) (rm9 l Z a0 hw [] a1 a3 u4 ck5 i6 i7 h0 n0 Z0 F_value_a1 V_a3 E_a1 S_COMPACT_STRINGS Od0 c8 F_coder_a1) e0 (Ls := #[.val (.ref a1), .val (.int i2), .unset]) (by rw [hml]; rfl) (argsL := []) (rest := [(.int i2)]) (lenOf pd_8 rfl) (hb hby d8_25) (W := 1) (hc := hce) (hs := hsl)
  obtain ⟨rfl, Nq1, e1⟩ := hQ1
  have N1 := Fr.app N0 Nq1
  obtain ⟨_, T2, L2, X2, hQ2, st2⟩ := own_virtual X1 hx hZ hown (y := y_13) (z := y_13) E_a1 (w_53 hw) (w_54 hw) (notFace_of_selects (args := #[]) (mvT hZ (w_56 hw))) (w_56 hw) (w_55 hw) (w_7 hw) (w_57 hw) (rm14 l Z a0 hw [] a1 i2 i7 a3 u4 ck5 i6 r10 i13 h0 n0 Z0 E_a1 S_COMPACT_STRINGS Od0 c8 F_coder_a1 F_value_a1 V_a3 R_r10 S_SIOOBE_FORMATTER c11 c12 rd14) e1 (Ls := #[.val (.ref a1), .val (.int i2), .unset]) (by rw [hml]; rfl) (argsL := [(.int i2)]) (rest := []) (lenOf pd_0 rfl) (hb hby d8_33) (W := 0) (hc := hce) (hs := hsl)
  obtain ⟨rfl, Nq2, e2⟩ := hQ2
  have N2 := Fr.app N1 Nq2
  obtain ⟨_, T3, L3, X3, hQ3, st3⟩ := own_callS X2 hx hZ hown (y := y_14) (w_75 hw) (w_76 hw) (w_36 hw) (w_77 hw) (rm51 l Z a0 hw [] (nar .char (nar .char ((i13 &&& (255 : Int32)).toUInt32.toUInt16.toUInt32.toInt32))) h0 n0 Z0 c15 c16 c17 c18) e2 (Ls := #[.val (.ref a1), .val (.int i2), .unset]) (by rw [hml]; rfl) (argsL := [(.int (nar .char (nar .char ((i13 &&& (255 : Int32)).toUInt32.toUInt16.toUInt32.toInt32))))]) (rest := []) (lenOf pd_12 rfl) (hb hby d8_36) (W := 0) (hc := hce) (hs := hsl)
  obtain ⟨rfl, Nq3, e3⟩ := hQ3
  have N3 := Fr.app N2 Nq3
  refine ⟨T3, _, X3, e3, N3, fun target hr => ?_⟩
  show Steps p.tables e below (s₁.setTop (mkF m 23 #[.val (.ref a1), .val (.int i2), .unset] [])) _
  refine XS.iloadN X0.here hx rfl (hb hby d8_23) rfl ?_
  refine XS.aloadN X0.here hx rfl (hb hby d8_24) rfl rfl ?_
  refine st1 _ ?_
  refine XS.icmpNo X1.here hx rfl (hb hby d8_28) rfl (tlt (c9 : i2 < (i6 >>> ((0 : Int32) &&& 31)))).2.1 ?_
  refine XS.aloadN X1.here hx rfl (hb hby d8_31) rfl rfl ?_
  refine XS.iloadN X1.here hx rfl (hb hby d8_32) rfl ?_
  refine st2 _ ?_
  refine st3 _ ?_
  refine XS.ifYes X3.here hx rfl (pc0 := 39) (pc' := 86) rfl (hb hby d8_39) rfl ((if0 _ _).trans (feq ((by decide : ¬ ((1 : Int32) = (0 : Int32))) : ¬ ((1 : Int32) = (0 : Int32)))).2) (by decide) (by decide) ?_
  refine XS.iinc X3.here hx rfl (hb hby d8_86) rfl (l' := #[.val (.ref a1), .val (.int (i2 + (1 : Int32))), .unset]) rfl ?_
  refine XS.goto X3.here hx rfl (pc0 := 89) (pc' := 23) rfl (hb hby d8_89) (by decide) (by decide) ?_
  exact hr
-- com/example/bare_queue/barequeue/QueueName.isAllowed(C)Z
abbrev Rm53 : Room := { frames := 0, cells := 0, slots := 0, locals := 0 }
def Q53 (Z : State) (i1 : Int32) (h0 : Heap) (n0 : Nat) (v : Option Value) (h : Heap) (L : List Loc) : Prop := v = some (.int (1 : Int32)) ∧ Fr n0 L ∧ h = h0
theorem ef53 (i1 : Int32) (m : MethodId) : entryFrame m #[(.int i1)] 1 = mkF m 0 #[.val (.int i1)] [] := by first | (simp [entryFrame, mkF, argsToLocals, Value.category]; done) | rfl
theorem rm53 (l : Launch) (Z : State) (a0 : Array Value) (hw : ∀ d ∈ tables_1, d.before a0 Z = true) (ws : List Jvm.Cond) (i1 : Int32) (h0 : Heap) (n0 : Nat) (Z0 : n0 ≤ h0.size) (c2 : i1 < (65 : Int32)) (c3 : ¬ (i1 < (48 : Int32))) (c4 : ¬ ((57 : Int32) < i1)) :
    OwnMet l Z y_14 prog_12_method_3_code 1 (some .boolean) ws Rm53 #[(.int i1)] h0 (Q53 Z i1 h0 n0) := by
  refine own_body (plainFor_of_name pn_5) (ef53 i1) ?_
  intro p e s m below meth c s₁ hx hby hml hown hnm hret hZ X0 e0
  have N0 := Fr.nil n0
  have cd1 : i1 < (97 : Int32) := (by rw [Int32.lt_iff_toInt_lt]; have := And.intro (trivial) (own_ub c2 65 (by decide)); have := rng32 i1; have : ((97 : Int32)).toInt = 97 := (by decide); omega)
  refine ⟨s₁, _, _, _, (some (.int (1 : Int32))), X0, nofun, by decide, by decide, ?_, fun fs hr => ?_⟩
  · show Q53 Z i1 h0 n0 _ s₁.heap _
    rw [e0]
    exact ⟨rfl, N0, rfl⟩
  · show Steps p.tables e below (s₁.setTop (mkF m 0 #[.val (.int i1)] [])) _
    refine XS.iloadN X0.here hx rfl (hb hby d17_0) rfl ?_
    refine XS.bipush X0.here hx rfl (hb hby d17_1) ?_
    refine XS.icmpYes X0.here hx rfl (pc0 := 3) (pc' := 12) rfl (hb hby d17_3) rfl (tlt (c2 : i1 < (65 : Int32))).1 (by decide) (by decide) ?_
    refine XS.iloadN X0.here hx rfl (hb hby d17_12) rfl ?_
    refine XS.bipush X0.here hx rfl (hb hby d17_13) ?_
    refine XS.icmpYes X0.here hx rfl (pc0 := 15) (pc' := 24) rfl (hb hby d17_15) rfl (tlt (cd1 : i1 < (97 : Int32))).1 (by decide) (by decide) ?_
    refine XS.iloadN X0.here hx rfl (hb hby d17_24) rfl ?_
    refine XS.bipush X0.here hx rfl (hb hby d17_25) ?_
    refine XS.icmpNo X0.here hx rfl (hb hby d17_27) rfl (flt (c3 : ¬ (i1 < (48 : Int32)))).1 ?_
    refine XS.iloadN X0.here hx rfl (hb hby d17_30) rfl ?_
    refine XS.bipush X0.here hx rfl (hb hby d17_31) ?_
    refine XS.icmpYes X0.here hx rfl (pc0 := 33) (pc' := 48) rfl (hb hby d17_33) rfl (flt (c4 : ¬ ((57 : Int32) < i1))).2.2.2 (by decide) (by decide) ?_
    show Steps p.tables e below (s₁.setTop (mkF m 48 #[.val (.int i1)] [])) _
    refine XS.iconst X0.here hx rfl (hb hby d17_48) ?_
    refine XS.goto X0.here hx rfl (pc0 := 49) (pc' := 53) rfl (hb hby d17_49) (by decide) (by decide) ?_
    exact retN X0 hx (t := .boolean) hret (by simp) (hb hby d17_53) hr
-- a turn of com/example/bare_queue/barequeue/QueueName.of(Ljava/lang/String;)Lcom/example/bare_queue/barequeue/QueueName;
theorem tn54 (l : Launch) (Z : State) (a0 : Array Value) (hw : ∀ d ∈ tables_1, d.before a0 Z = true) (a1 : Addr) (i2 : Int32) (a3 : Addr) (u4 : List Value) (ck5 : ClassId) (i6 : Int32) (i7 : Int32) (r10 : Value) (i13 : Int32) (h0 : Heap) (n0 : Nat) (Z0 : n0 ≤ h0.size) (E_a1 : Exa Z h0 a1 "java/lang/String") (F_value_a1 : Fld Z h0 a1 "java/lang/String" "value" "[B" (.ref a3)) (V_a3 : Arv Z h0 a3 ck5 .byte i6 u4 (.int (0 : Int32))) (S_COMPACT_STRINGS : Sta Z Z.heap "java/lang/String" "COMPACT_STRINGS" "Z" (.int i7)) (Od0 : Old Z n0 h0) (c8 : ¬ (i7 = (0 : Int32))) (F_coder_a1 : Fld Z h0 a1 "java/lang/String" "coder" "B" (.int (0 : Int32))) (c9 : i2 < (i6 >>> ((0 : Int32) &&& 31))) (R_r10 : r10.isRef = true) (S_SIOOBE_FORMATTER : Sta Z Z.heap "jdk/internal/util/Preconditions" "SIOOBE_FORMATTER" "Ljava/util/function/BiFunction;" r10) (c11 : ¬ (i2 < (0 : Int32))) (c12 : i2 < i6) (rd14 : u4.getD (i2).toNatClampNeg (.int (0 : Int32)) = (.int i13)) (c15 : (nar .char (nar .char ((i13 &&& (255 : Int32)).toUInt32.toUInt16.toUInt32.toInt32))) < (65 : Int32)) (c16 : ¬ ((nar .char (nar .char ((i13 &&& (255 : Int32)).toUInt32.toUInt16.toUInt32.toInt32))) < (48 : Int32))) (c17 : ¬ ((57 : Int32) < (nar .char (nar .char ((i13 &&& (255 : Int32)).toUInt32.toUInt16.toUInt32.toInt32))))) {p : Program} {e : Env} {s : State} {m : MethodId} {args : Array Value} {below : List Frame} {meth : Method} {c : Code} {s₁ : State} {L0 : List Loc} {ce sl : Nat} (hx : p.tables.exec = Jvm.exec) (hby : c.code = prog_12_method_2_code) (hml : c.maxLocals = 3) (hown : s.vm.findClass "com/example/bare_queue/barequeue/QueueName" = some m.cls) (hZ : Z.Warmed39 s.vm) (X0 : Stand p l e RmT8 s m args below meth c s₁ L0 ce sl) (e0 : s₁.heap = h0) (N0 : Fr n0 L0) (hce : ce ≤ RmT8.cells) (hsl : sl ≤ RmT8.slots) :
    ∃ (T : State) (L : List Loc), Stand p l e RmT8 s m args below meth c T L ce sl ∧ T.heap = h0 ∧ Fr n0 L ∧ ∀ target, Steps p.tables e below (T.setTop (mkF m 23 #[.val (.ref a1), .val (.int (i2 + (1 : Int32))), .unset] [])) target → Steps p.tables e below (s₁.setTop (mkF m 23 #[.val (.ref a1), .val (.int i2), .unset] [])) target := by
  obtain ⟨_, T1, L1, X1, hQ1, st1⟩ := own_virtual X0 hx hZ hown (y := y_8) (z := y_8) E_a1 (w_43 hw) (w_44 hw) (notFace_of_selects (args := #[]) (mvT hZ (w_46 hw))) (w_46 hw) (w_45 hw) (w_7 hw) (w_47 hw) (rm9 l Z a0 hw [] a1 a3 u4 ck5 i6 i7 h0 n0 Z0 F_value_a1 V_a3 E_a1 S_COMPACT_STRINGS Od0 c8 F_coder_a1) e0 (Ls := #[.val (.ref a1), .val (.int i2), .unset]) (by rw [hml]; rfl) (argsL := []) (rest := [(.int i2)]) (lenOf pd_8 rfl) (hb hby d8_25) (W := 1) (hc := hce) (hs := hsl)
  obtain ⟨rfl, Nq1, e1⟩ := hQ1
  have N1 := Fr.app N0 Nq1
  obtain ⟨_, T2, L2, X2, hQ2, st2⟩ := own_virtual X1 hx hZ hown (y := y_13) (z := y_13) E_a1 (w_53 hw) (w_54 hw) (notFace_of_selects (args := #[]) (mvT hZ (w_56 hw))) (w_56 hw) (w_55 hw) (w_7 hw) (w_57 hw) (rm14 l Z a0 hw [] a1 i2 i7 a3 u4 ck5 i6 r10 i13 h0 n0 Z0 E_a1 S_COMPACT_STRINGS Od0 c8 F_coder_a1 F_value_a1 V_a3 R_r10 S_SIOOBE_FORMATTER c11 c12 rd14) e1 (Ls := #[.val (.ref a1), .val (.int i2), .unset]) (by rw [hml]; rfl) (argsL := [(.int i2)]) (rest := []) (lenOf pd_0 rfl) (hb hby d8_33) (W := 0) (hc := hce) (hs := hsl)
  obtain ⟨rfl, Nq2, e2⟩ := hQ2
  have N2 := Fr.app N1 Nq2
  obtain ⟨_, T3, L3, X3, hQ3, st3⟩ := own_callS X2 hx hZ hown (y := y_14) (w_75 hw) (w_76 hw) (w_36 hw) (w_77 hw) (rm53 l Z a0 hw [] (nar .char (nar .char ((i13 &&& (255 : Int32)).toUInt32.toUInt16.toUInt32.toInt32))) h0 n0 Z0 c15 c16 c17) e2 (Ls := #[.val (.ref a1), .val (.int i2), .unset]) (by rw [hml]; rfl) (argsL := [(.int (nar .char (nar .char ((i13 &&& (255 : Int32)).toUInt32.toUInt16.toUInt32.toInt32))))]) (rest := []) (lenOf pd_12 rfl) (hb hby d8_36) (W := 0) (hc := hce) (hs := hsl)
  obtain ⟨rfl, Nq3, e3⟩ := hQ3
  have N3 := Fr.app N2 Nq3
  refine ⟨T3, _, X3, e3, N3, fun target hr => ?_⟩
  show Steps p.tables e below (s₁.setTop (mkF m 23 #[.val (.ref a1), .val (.int i2), .unset] [])) _
  refine XS.iloadN X0.here hx rfl (hb hby d8_23) rfl ?_
  refine XS.aloadN X0.here hx rfl (hb hby d8_24) rfl rfl ?_
  refine st1 _ ?_
  refine XS.icmpNo X1.here hx rfl (hb hby d8_28) rfl (tlt (c9 : i2 < (i6 >>> ((0 : Int32) &&& 31)))).2.1 ?_
  refine XS.aloadN X1.here hx rfl (hb hby d8_31) rfl rfl ?_
  refine XS.iloadN X1.here hx rfl (hb hby d8_32) rfl ?_
  refine st2 _ ?_
  refine st3 _ ?_
  refine XS.ifYes X3.here hx rfl (pc0 := 39) (pc' := 86) rfl (hb hby d8_39) rfl ((if0 _ _).trans (feq ((by decide : ¬ ((1 : Int32) = (0 : Int32))) : ¬ ((1 : Int32) = (0 : Int32)))).2) (by decide) (by decide) ?_
  refine XS.iinc X3.here hx rfl (hb hby d8_86) rfl (l' := #[.val (.ref a1), .val (.int (i2 + (1 : Int32))), .unset]) rfl ?_
  refine XS.goto X3.here hx rfl (pc0 := 89) (pc' := 23) rfl (hb hby d8_89) (by decide) (by decide) ?_
  exact hr
-- com/example/bare_queue/barequeue/QueueName.isAllowed(C)Z
abbrev Rm55 : Room := { frames := 0, cells := 0, slots := 0, locals := 0 }
def Q55 (Z : State) (i1 : Int32) (h0 : Heap) (n0 : Nat) (v : Option Value) (h : Heap) (L : List Loc) : Prop := v = some (.int (1 : Int32)) ∧ Fr n0 L ∧ h = h0
theorem ef55 (i1 : Int32) (m : MethodId) : entryFrame m #[(.int i1)] 1 = mkF m 0 #[.val (.int i1)] [] := by first | (simp [entryFrame, mkF, argsToLocals, Value.category]; done) | rfl
theorem rm55 (l : Launch) (Z : State) (a0 : Array Value) (hw : ∀ d ∈ tables_1, d.before a0 Z = true) (ws : List Jvm.Cond) (i1 : Int32) (h0 : Heap) (n0 : Nat) (Z0 : n0 ≤ h0.size) (c2 : i1 < (65 : Int32)) (c3 : i1 < (48 : Int32)) (c4 : i1 = (45 : Int32)) :
    OwnMet l Z y_14 prog_12_method_3_code 1 (some .boolean) ws Rm55 #[(.int i1)] h0 (Q55 Z i1 h0 n0) := by
  refine own_body (plainFor_of_name pn_5) (ef55 i1) ?_
  intro p e s m below meth c s₁ hx hby hml hown hnm hret hZ X0 e0
  have N0 := Fr.nil n0
  have cd1 : i1 < (97 : Int32) := (by rw [Int32.lt_iff_toInt_lt]; have := And.intro (trivial) (own_ub c2 65 (by decide)); have := rng32 i1; have : ((97 : Int32)).toInt = 97 := (by decide); omega)
  refine ⟨s₁, _, _, _, (some (.int (1 : Int32))), X0, nofun, by decide, by decide, ?_, fun fs hr => ?_⟩
  · show Q55 Z i1 h0 n0 _ s₁.heap _
    rw [e0]
    exact ⟨rfl, N0, rfl⟩
  · show Steps p.tables e below (s₁.setTop (mkF m 0 #[.val (.int i1)] [])) _
    refine XS.iloadN X0.here hx rfl (hb hby d17_0) rfl ?_
    refine XS.bipush X0.here hx rfl (hb hby d17_1) ?_
    refine XS.icmpYes X0.here hx rfl (pc0 := 3) (pc' := 12) rfl (hb hby d17_3) rfl (tlt (c2 : i1 < (65 : Int32))).1 (by decide) (by decide) ?_
    refine XS.iloadN X0.here hx rfl (hb hby d17_12) rfl ?_
    refine XS.bipush X0.here hx rfl (hb hby d17_13) ?_
    refine XS.icmpYes X0.here hx rfl (pc0 := 15) (pc' := 24) rfl (hb hby d17_15) rfl (tlt (cd1 : i1 < (97 : Int32))).1 (by decide) (by decide) ?_
    refine XS.iloadN X0.here hx rfl (hb hby d17_24) rfl ?_
    refine XS.bipush X0.here hx rfl (hb hby d17_25) ?_
    refine XS.icmpYes X0.here hx rfl (pc0 := 27) (pc' := 36) rfl (hb hby d17_27) rfl (tlt (c3 : i1 < (48 : Int32))).1 (by decide) (by decide) ?_
    refine XS.iloadN X0.here hx rfl (hb hby d17_36) rfl ?_
    refine XS.bipush X0.here hx rfl (hb hby d17_37) ?_
    refine XS.icmpYes X0.here hx rfl (pc0 := 39) (pc' := 48) rfl (hb hby d17_39) rfl (teq (c4 : i1 = (45 : Int32))).1 (by decide) (by decide) ?_
    show Steps p.tables e below (s₁.setTop (mkF m 48 #[.val (.int i1)] [])) _
    refine XS.iconst X0.here hx rfl (hb hby d17_48) ?_
    refine XS.goto X0.here hx rfl (pc0 := 49) (pc' := 53) rfl (hb hby d17_49) (by decide) (by decide) ?_
    exact retN X0 hx (t := .boolean) hret (by simp) (hb hby d17_53) hr
-- a turn of com/example/bare_queue/barequeue/QueueName.of(Ljava/lang/String;)Lcom/example/bare_queue/barequeue/QueueName;
theorem tn56 (l : Launch) (Z : State) (a0 : Array Value) (hw : ∀ d ∈ tables_1, d.before a0 Z = true) (a1 : Addr) (i2 : Int32) (a3 : Addr) (u4 : List Value) (ck5 : ClassId) (i6 : Int32) (i7 : Int32) (r10 : Value) (i13 : Int32) (h0 : Heap) (n0 : Nat) (Z0 : n0 ≤ h0.size) (E_a1 : Exa Z h0 a1 "java/lang/String") (F_value_a1 : Fld Z h0 a1 "java/lang/String" "value" "[B" (.ref a3)) (V_a3 : Arv Z h0 a3 ck5 .byte i6 u4 (.int (0 : Int32))) (S_COMPACT_STRINGS : Sta Z Z.heap "java/lang/String" "COMPACT_STRINGS" "Z" (.int i7)) (Od0 : Old Z n0 h0) (c8 : ¬ (i7 = (0 : Int32))) (F_coder_a1 : Fld Z h0 a1 "java/lang/String" "coder" "B" (.int (0 : Int32))) (c9 : i2 < (i6 >>> ((0 : Int32) &&& 31))) (R_r10 : r10.isRef = true) (S_SIOOBE_FORMATTER : Sta Z Z.heap "jdk/internal/util/Preconditions" "SIOOBE_FORMATTER" "Ljava/util/function/BiFunction;" r10) (c11 : ¬ (i2 < (0 : Int32))) (c12 : i2 < i6) (rd14 : u4.getD (i2).toNatClampNeg (.int (0 : Int32)) = (.int i13)) (c15 : (nar .char (nar .char ((i13 &&& (255 : Int32)).toUInt32.toUInt16.toUInt32.toInt32))) < (65 : Int32)) (c16 : (nar .char (nar .char ((i13 &&& (255 : Int32)).toUInt32.toUInt16.toUInt32.toInt32))) < (48 : Int32)) (c17 : (nar .char (nar .char ((i13 &&& (255 : Int32)).toUInt32.toUInt16.toUInt32.toInt32))) = (45 : Int32)) {p : Program} {e : Env} {s : State} {m : MethodId} {args : Array Value} {below : List Frame} {meth : Method} {c : Code} {s₁ : State} {L0 : List Loc} {ce sl : Nat} (hx : p.tables.exec = Jvm.exec) (hby : c.code = prog_12_method_2_code) (hml : c.maxLocals = 3) (hown : s.vm.findClass "com/example/bare_queue/barequeue/QueueName" = some m.cls) (hZ : Z.Warmed39 s.vm) (X0 : Stand p l e RmT8 s m args below meth c s₁ L0 ce sl) (e0 : s₁.heap = h0) (N0 : Fr n0 L0) (hce : ce ≤ RmT8.cells) (hsl : sl ≤ RmT8.slots) :
    ∃ (T : State) (L : List Loc), Stand p l e RmT8 s m args below meth c T L ce sl ∧ T.heap = h0 ∧ Fr n0 L ∧ ∀ target, Steps p.tables e below (T.setTop (mkF m 23 #[.val (.ref a1), .val (.int (i2 + (1 : Int32))), .unset] [])) target → Steps p.tables e below (s₁.setTop (mkF m 23 #[.val (.ref a1), .val (.int i2), .unset] [])) target := by
  obtain ⟨_, T1, L1, X1, hQ1, st1⟩ := own_virtual X0 hx hZ hown (y := y_8) (z := y_8) E_a1 (w_43 hw) (w_44 hw) (notFace_of_selects (args := #[]) (mvT hZ (w_46 hw))) (w_46 hw) (w_45 hw) (w_7 hw) (w_47 hw) (rm9 l Z a0 hw [] a1 a3 u4 ck5 i6 i7 h0 n0 Z0 F_value_a1 V_a3 E_a1 S_COMPACT_STRINGS Od0 c8 F_coder_a1) e0 (Ls := #[.val (.ref a1), .val (.int i2), .unset]) (by rw [hml]; rfl) (argsL := []) (rest := [(.int i2)]) (lenOf pd_8 rfl) (hb hby d8_25) (W := 1) (hc := hce) (hs := hsl)
  obtain ⟨rfl, Nq1, e1⟩ := hQ1
  have N1 := Fr.app N0 Nq1
  obtain ⟨_, T2, L2, X2, hQ2, st2⟩ := own_virtual X1 hx hZ hown (y := y_13) (z := y_13) E_a1 (w_53 hw) (w_54 hw) (notFace_of_selects (args := #[]) (mvT hZ (w_56 hw))) (w_56 hw) (w_55 hw) (w_7 hw) (w_57 hw) (rm14 l Z a0 hw [] a1 i2 i7 a3 u4 ck5 i6 r10 i13 h0 n0 Z0 E_a1 S_COMPACT_STRINGS Od0 c8 F_coder_a1 F_value_a1 V_a3 R_r10 S_SIOOBE_FORMATTER c11 c12 rd14) e1 (Ls := #[.val (.ref a1), .val (.int i2), .unset]) (by rw [hml]; rfl) (argsL := [(.int i2)]) (rest := []) (lenOf pd_0 rfl) (hb hby d8_33) (W := 0) (hc := hce) (hs := hsl)
  obtain ⟨rfl, Nq2, e2⟩ := hQ2
  have N2 := Fr.app N1 Nq2
  obtain ⟨_, T3, L3, X3, hQ3, st3⟩ := own_callS X2 hx hZ hown (y := y_14) (w_75 hw) (w_76 hw) (w_36 hw) (w_77 hw) (rm55 l Z a0 hw [] (nar .char (nar .char ((i13 &&& (255 : Int32)).toUInt32.toUInt16.toUInt32.toInt32))) h0 n0 Z0 c15 c16 c17) e2 (Ls := #[.val (.ref a1), .val (.int i2), .unset]) (by rw [hml]; rfl) (argsL := [(.int (nar .char (nar .char ((i13 &&& (255 : Int32)).toUInt32.toUInt16.toUInt32.toInt32))))]) (rest := []) (lenOf pd_12 rfl) (hb hby d8_36) (W := 0) (hc := hce) (hs := hsl)
  obtain ⟨rfl, Nq3, e3⟩ := hQ3
  have N3 := Fr.app N2 Nq3
  refine ⟨T3, _, X3, e3, N3, fun target hr => ?_⟩
  show Steps p.tables e below (s₁.setTop (mkF m 23 #[.val (.ref a1), .val (.int i2), .unset] [])) _
  refine XS.iloadN X0.here hx rfl (hb hby d8_23) rfl ?_
  refine XS.aloadN X0.here hx rfl (hb hby d8_24) rfl rfl ?_
  refine st1 _ ?_
  refine XS.icmpNo X1.here hx rfl (hb hby d8_28) rfl (tlt (c9 : i2 < (i6 >>> ((0 : Int32) &&& 31)))).2.1 ?_
  refine XS.aloadN X1.here hx rfl (hb hby d8_31) rfl rfl ?_
  refine XS.iloadN X1.here hx rfl (hb hby d8_32) rfl ?_
  refine st2 _ ?_
  refine st3 _ ?_
  refine XS.ifYes X3.here hx rfl (pc0 := 39) (pc' := 86) rfl (hb hby d8_39) rfl ((if0 _ _).trans (feq ((by decide : ¬ ((1 : Int32) = (0 : Int32))) : ¬ ((1 : Int32) = (0 : Int32)))).2) (by decide) (by decide) ?_
  refine XS.iinc X3.here hx rfl (hb hby d8_86) rfl (l' := #[.val (.ref a1), .val (.int (i2 + (1 : Int32))), .unset]) rfl ?_
  refine XS.goto X3.here hx rfl (pc0 := 89) (pc' := 23) rfl (hb hby d8_89) (by decide) (by decide) ?_
  exact hr
-- com/example/bare_queue/barequeue/QueueName.isAllowed(C)Z
abbrev Rm57 : Room := { frames := 0, cells := 0, slots := 0, locals := 0 }
def Q57 (Z : State) (i1 : Int32) (h0 : Heap) (n0 : Nat) (v : Option Value) (h : Heap) (L : List Loc) : Prop := v = some (.int (1 : Int32)) ∧ Fr n0 L ∧ h = h0
theorem ef57 (i1 : Int32) (m : MethodId) : entryFrame m #[(.int i1)] 1 = mkF m 0 #[.val (.int i1)] [] := by first | (simp [entryFrame, mkF, argsToLocals, Value.category]; done) | rfl
theorem rm57 (l : Launch) (Z : State) (a0 : Array Value) (hw : ∀ d ∈ tables_1, d.before a0 Z = true) (ws : List Jvm.Cond) (i1 : Int32) (h0 : Heap) (n0 : Nat) (Z0 : n0 ≤ h0.size) (c2 : ¬ (i1 < (65 : Int32))) (c3 : (90 : Int32) < i1) (c4 : i1 < (97 : Int32)) (c5 : i1 = (95 : Int32)) :
    OwnMet l Z y_14 prog_12_method_3_code 1 (some .boolean) ws Rm57 #[(.int i1)] h0 (Q57 Z i1 h0 n0) := by
  refine own_body (plainFor_of_name pn_5) (ef57 i1) ?_
  intro p e s m below meth c s₁ hx hby hml hown hnm hret hZ X0 e0
  have N0 := Fr.nil n0
  have cd1 : ¬ (i1 < (48 : Int32)) := (by rw [Int32.lt_iff_toInt_lt]; have := And.intro (own_lb c3 90 (by decide)) (own_ub c4 97 (by decide)); have := rng32 i1; have : ((48 : Int32)).toInt = 48 := (by decide); omega)
  have cd2 : (57 : Int32) < i1 := (by rw [Int32.lt_iff_toInt_lt]; have : ((57 : Int32)).toInt = 57 := (by decide); have := And.intro (own_lb c3 90 (by decide)) (own_ub c4 97 (by decide)); have := rng32 i1; omega)
  have cd3 : ¬ (i1 = (45 : Int32)) := (by intro q; have q' := congrArg Int32.toInt q; have := And.intro (own_lb c3 90 (by decide)) (own_ub c4 97 (by decide)); have := rng32 i1; have : ((45 : Int32)).toInt = 45 := (by decide); omega)
  refine ⟨s₁, _, _, _, (some (.int (1 : Int32))), X0, nofun, by decide, by decide, ?_, fun fs hr => ?_⟩
  · show Q57 Z i1 h0 n0 _ s₁.heap _
    rw [e0]
    exact ⟨rfl, N0, rfl⟩
  · show Steps p.tables e below (s₁.setTop (mkF m 0 #[.val (.int i1)] [])) _
    refine XS.iloadN X0.here hx rfl (hb hby d17_0) rfl ?_
    refine XS.bipush X0.here hx rfl (hb hby d17_1) ?_
    refine XS.icmpNo X0.here hx rfl (hb hby d17_3) rfl (flt (c2 : ¬ (i1 < (65 : Int32)))).1 ?_
    refine XS.iloadN X0.here hx rfl (hb hby d17_6) rfl ?_
    refine XS.bipush X0.here hx rfl (hb hby d17_7) ?_
    refine XS.icmpNo X0.here hx rfl (hb hby d17_9) rfl (tlt (c3 : (90 : Int32) < i1)).2.2.2 ?_
    refine XS.iloadN X0.here hx rfl (hb hby d17_12) rfl ?_
    refine XS.bipush X0.here hx rfl (hb hby d17_13) ?_
    refine XS.icmpYes X0.here hx rfl (pc0 := 15) (pc' := 24) rfl (hb hby d17_15) rfl (tlt (c4 : i1 < (97 : Int32))).1 (by decide) (by decide) ?_
    refine XS.iloadN X0.here hx rfl (hb hby d17_24) rfl ?_
    refine XS.bipush X0.here hx rfl (hb hby d17_25) ?_
    refine XS.icmpNo X0.here hx rfl (hb hby d17_27) rfl (flt (cd1 : ¬ (i1 < (48 : Int32)))).1 ?_
    show Steps p.tables e below (s₁.setTop (mkF m 30 #[.val (.int i1)] [])) _
    refine XS.iloadN X0.here hx rfl (hb hby d17_30) rfl ?_
    refine XS.bipush X0.here hx rfl (hb hby d17_31) ?_
    refine XS.icmpNo X0.here hx rfl (hb hby d17_33) rfl (tlt (cd2 : (57 : Int32) < i1)).2.2.2 ?_
    refine XS.iloadN X0.here hx rfl (hb hby d17_36) rfl ?_
    refine XS.bipush X0.here hx rfl (hb hby d17_37) ?_
    refine XS.icmpNo X0.here hx rfl (hb hby d17_39) rfl (feq (cd3 : ¬ (i1 = (45 : Int32)))).1 ?_
    refine XS.iloadN X0.here hx rfl (hb hby d17_42) rfl ?_
    refine XS.bipush X0.here hx rfl (hb hby d17_43) ?_
    refine XS.icmpNo X0.here hx rfl (hb hby d17_45) rfl (teq (c5 : i1 = (95 : Int32))).2 ?_
    refine XS.iconst X0.here hx rfl (hb hby d17_48) ?_
    refine XS.goto X0.here hx rfl (pc0 := 49) (pc' := 53) rfl (hb hby d17_49) (by decide) (by decide) ?_
    exact retN X0 hx (t := .boolean) hret (by simp) (hb hby d17_53) hr
-- a turn of com/example/bare_queue/barequeue/QueueName.of(Ljava/lang/String;)Lcom/example/bare_queue/barequeue/QueueName;
theorem tn58 (l : Launch) (Z : State) (a0 : Array Value) (hw : ∀ d ∈ tables_1, d.before a0 Z = true) (a1 : Addr) (i2 : Int32) (a3 : Addr) (u4 : List Value) (ck5 : ClassId) (i6 : Int32) (i7 : Int32) (r10 : Value) (i13 : Int32) (h0 : Heap) (n0 : Nat) (Z0 : n0 ≤ h0.size) (E_a1 : Exa Z h0 a1 "java/lang/String") (F_value_a1 : Fld Z h0 a1 "java/lang/String" "value" "[B" (.ref a3)) (V_a3 : Arv Z h0 a3 ck5 .byte i6 u4 (.int (0 : Int32))) (S_COMPACT_STRINGS : Sta Z Z.heap "java/lang/String" "COMPACT_STRINGS" "Z" (.int i7)) (Od0 : Old Z n0 h0) (c8 : ¬ (i7 = (0 : Int32))) (F_coder_a1 : Fld Z h0 a1 "java/lang/String" "coder" "B" (.int (0 : Int32))) (c9 : i2 < (i6 >>> ((0 : Int32) &&& 31))) (R_r10 : r10.isRef = true) (S_SIOOBE_FORMATTER : Sta Z Z.heap "jdk/internal/util/Preconditions" "SIOOBE_FORMATTER" "Ljava/util/function/BiFunction;" r10) (c11 : ¬ (i2 < (0 : Int32))) (c12 : i2 < i6) (rd14 : u4.getD (i2).toNatClampNeg (.int (0 : Int32)) = (.int i13)) (c15 : ¬ ((nar .char (nar .char ((i13 &&& (255 : Int32)).toUInt32.toUInt16.toUInt32.toInt32))) < (65 : Int32))) (c16 : (90 : Int32) < (nar .char (nar .char ((i13 &&& (255 : Int32)).toUInt32.toUInt16.toUInt32.toInt32)))) (c17 : (nar .char (nar .char ((i13 &&& (255 : Int32)).toUInt32.toUInt16.toUInt32.toInt32))) < (97 : Int32)) (c18 : (nar .char (nar .char ((i13 &&& (255 : Int32)).toUInt32.toUInt16.toUInt32.toInt32))) = (95 : Int32)) {p : Program} {e : Env} {s : State} {m : MethodId} {args : Array Value} {below : List Frame} {meth : Method} {c : Code} {s₁ : State} {L0 : List Loc} {ce sl : Nat} (hx : p.tables.exec = Jvm.exec) (hby : c.code = prog_12_method_2_code) (hml : c.maxLocals = 3) (hown : s.vm.findClass "com/example/bare_queue/barequeue/QueueName" = some m.cls) (hZ : Z.Warmed39 s.vm) (X0 : Stand p l e RmT8 s m args below meth c s₁ L0 ce sl) (e0 : s₁.heap = h0) (N0 : Fr n0 L0) (hce : ce ≤ RmT8.cells) (hsl : sl ≤ RmT8.slots) :
    ∃ (T : State) (L : List Loc), Stand p l e RmT8 s m args below meth c T L ce sl ∧ T.heap = h0 ∧ Fr n0 L ∧ ∀ target, Steps p.tables e below (T.setTop (mkF m 23 #[.val (.ref a1), .val (.int (i2 + (1 : Int32))), .unset] [])) target → Steps p.tables e below (s₁.setTop (mkF m 23 #[.val (.ref a1), .val (.int i2), .unset] [])) target := by
  obtain ⟨_, T1, L1, X1, hQ1, st1⟩ := own_virtual X0 hx hZ hown (y := y_8) (z := y_8) E_a1 (w_43 hw) (w_44 hw) (notFace_of_selects (args := #[]) (mvT hZ (w_46 hw))) (w_46 hw) (w_45 hw) (w_7 hw) (w_47 hw) (rm9 l Z a0 hw [] a1 a3 u4 ck5 i6 i7 h0 n0 Z0 F_value_a1 V_a3 E_a1 S_COMPACT_STRINGS Od0 c8 F_coder_a1) e0 (Ls := #[.val (.ref a1), .val (.int i2), .unset]) (by rw [hml]; rfl) (argsL := []) (rest := [(.int i2)]) (lenOf pd_8 rfl) (hb hby d8_25) (W := 1) (hc := hce) (hs := hsl)
  obtain ⟨rfl, Nq1, e1⟩ := hQ1
  have N1 := Fr.app N0 Nq1
  obtain ⟨_, T2, L2, X2, hQ2, st2⟩ := own_virtual X1 hx hZ hown (y := y_13) (z := y_13) E_a1 (w_53 hw) (w_54 hw) (notFace_of_selects (args := #[]) (mvT hZ (w_56 hw))) (w_56 hw) (w_55 hw) (w_7 hw) (w_57 hw) (rm14 l Z a0 hw [] a1 i2 i7 a3 u4 ck5 i6 r10 i13 h0 n0 Z0 E_a1 S_COMPACT_STRINGS Od0 c8 F_coder_a1 F_value_a1 V_a3 R_r10 S_SIOOBE_FORMATTER c11 c12 rd14) e1 (Ls := #[.val (.ref a1), .val (.int i2), .unset]) (by rw [hml]; rfl) (argsL := [(.int i2)]) (rest := []) (lenOf pd_0 rfl) (hb hby d8_33) (W := 0) (hc := hce) (hs := hsl)
  obtain ⟨rfl, Nq2, e2⟩ := hQ2
  have N2 := Fr.app N1 Nq2
  obtain ⟨_, T3, L3, X3, hQ3, st3⟩ := own_callS X2 hx hZ hown (y := y_14) (w_75 hw) (w_76 hw) (w_36 hw) (w_77 hw) (rm57 l Z a0 hw [] (nar .char (nar .char ((i13 &&& (255 : Int32)).toUInt32.toUInt16.toUInt32.toInt32))) h0 n0 Z0 c15 c16 c17 c18) e2 (Ls := #[.val (.ref a1), .val (.int i2), .unset]) (by rw [hml]; rfl) (argsL := [(.int (nar .char (nar .char ((i13 &&& (255 : Int32)).toUInt32.toUInt16.toUInt32.toInt32))))]) (rest := []) (lenOf pd_12 rfl) (hb hby d8_36) (W := 0) (hc := hce) (hs := hsl)
  obtain ⟨rfl, Nq3, e3⟩ := hQ3
  have N3 := Fr.app N2 Nq3
  refine ⟨T3, _, X3, e3, N3, fun target hr => ?_⟩
  show Steps p.tables e below (s₁.setTop (mkF m 23 #[.val (.ref a1), .val (.int i2), .unset] [])) _
  refine XS.iloadN X0.here hx rfl (hb hby d8_23) rfl ?_
  refine XS.aloadN X0.here hx rfl (hb hby d8_24) rfl rfl ?_
  refine st1 _ ?_
  refine XS.icmpNo X1.here hx rfl (hb hby d8_28) rfl (tlt (c9 : i2 < (i6 >>> ((0 : Int32) &&& 31)))).2.1 ?_
  refine XS.aloadN X1.here hx rfl (hb hby d8_31) rfl rfl ?_
  refine XS.iloadN X1.here hx rfl (hb hby d8_32) rfl ?_
  refine st2 _ ?_
  refine st3 _ ?_
  refine XS.ifYes X3.here hx rfl (pc0 := 39) (pc' := 86) rfl (hb hby d8_39) rfl ((if0 _ _).trans (feq ((by decide : ¬ ((1 : Int32) = (0 : Int32))) : ¬ ((1 : Int32) = (0 : Int32)))).2) (by decide) (by decide) ?_
  refine XS.iinc X3.here hx rfl (hb hby d8_86) rfl (l' := #[.val (.ref a1), .val (.int (i2 + (1 : Int32))), .unset]) rfl ?_
  refine XS.goto X3.here hx rfl (pc0 := 89) (pc' := 23) rfl (hb hby d8_89) (by decide) (by decide) ?_
  exact hr
-- java/lang/String.length()I
abbrev Rm59 : Room := { frames := 1, cells := 0, slots := 0, locals := 13 }
def Q59 (Z : State) (a1 : Addr) (a2 : Addr) (u3 : List Value) (ck4 : ClassId) (i5 : Int32) (h0 : Heap) (n0 : Nat) (v : Option Value) (h : Heap) (L : List Loc) : Prop := v = some (.int (80 : Int32)) ∧ Fr n0 L ∧ h = h0
theorem ef59 (a1 : Addr) (m : MethodId) : entryFrame m #[(.ref a1)] 1 = mkF m 0 #[.val (.ref a1)] [] := by first | (simp [entryFrame, mkF, argsToLocals, Value.category]; done) | rfl
theorem rm59 (l : Launch) (Z : State) (a0 : Array Value) (hw : ∀ d ∈ tables_1, d.before a0 Z = true) (ws : List Jvm.Cond) (a1 : Addr) (a2 : Addr) (u3 : List Value) (ck4 : ClassId) (i5 : Int32) (h0 : Heap) (n0 : Nat) (Z0 : n0 ≤ h0.size) (F_value_a1 : Fld Z h0 a1 "java/lang/String" "value" "[B" (.ref a2)) (V_a2 : Arv Z h0 a2 ck4 .byte (80 : Int32) u3 (.int (0 : Int32))) (E_a1 : Exa Z h0 a1 "java/lang/String") (S_COMPACT_STRINGS : Sta Z Z.heap "java/lang/String" "COMPACT_STRINGS" "Z" (.int i5)) (Od0 : Old Z n0 h0) (c6 : ¬ (i5 = (0 : Int32))) (F_coder_a1 : Fld Z h0 a1 "java/lang/String" "coder" "B" (.int (0 : Int32))) :
    OwnMet l Z y_8 jdk_42_method_54_code 1 (some .int) ws Rm59 #[(.ref a1)] h0 (Q59 Z a1 a2 u3 ck4 i5 h0 n0) := by
  refine own_body (plainFor_of_name pn_2) (ef59 a1) ?_
  intro p e s m below meth c s₁ hx hby hml hown hnm hret hZ X0 e0
  have N0 := Fr.nil n0
  obtain ⟨T1, X1, e1, st1⟩ := getF X0 hx hZ hown (host := "") (Or.inl (w_32 hw)) Via.refl e0 F_value_a1 (g := (mkF m 1 #[.val (.ref a1)] [(.ref a1)])) rfl rfl (hb hby d10_1)
  obtain ⟨cl2, Ar2, q2, S2, M2, Hs2, G2⟩ := id V_a2
  obtain ⟨_, T3, L3, X3, hQ3, st3⟩ := own_virtual X1 hx hZ hown (y := y_7) (z := y_7) E_a1 (w_48 hw) (w_49 hw) (notFace_of_selects (args := #[]) (mvT hZ (w_51 hw))) (w_51 hw) (w_50 hw) (w_7 hw) (w_52 hw) (rm8 l Z a0 hw [] a1 i5 h0 n0 Z0 S_COMPACT_STRINGS Od0 c6 F_coder_a1) e1 (Ls := #[.val (.ref a1)]) (by rw [hml]; rfl) (argsL := []) (rest := [(.int (80 : Int32))]) (lenOf pd_7 rfl) (hb hby d10_6) (W := 1)
  obtain ⟨rfl, Nq3, e3⟩ := hQ3
  have N3 := Fr.app N0 Nq3
  refine ⟨T3, _, _, _, (some (.int (80 : Int32))), X3, nofun, by decide, by decide, ?_, fun fs hr => ?_⟩
  · show Q59 Z a1 a2 u3 ck4 i5 h0 n0 _ T3.heap _
    rw [e3]
    exact ⟨rfl, N3, rfl⟩
  · show Steps p.tables e below (s₁.setTop (mkF m 0 #[.val (.ref a1)] [])) _
    refine XS.aloadN X0.here hx rfl (hb hby d10_0) rfl rfl ?_
    refine st1 _ ?_
    refine X1.arraylength hx (by rw [e1]; exact Ar2.1) (State.isArrayOf_alike hZ.alike Ar2.2.1) (g := (mkF m 4 #[.val (.ref a1)] [(.ref a2)])) rfl rfl (hb hby d10_4) _ ?_
    show Steps p.tables e below (T1.setTop (mkF m 5 #[.val (.ref a1)] [(.int cl2.slots.size.toInt32)])) _
    rw [len_of S2 M2]
    refine XS.aloadN X1.here hx rfl (hb hby d10_5) rfl rfl ?_
    refine st3 _ ?_
    refine XS.ishr X3.here hx rfl (hb hby d10_9) rfl ?_
    exact retI X3 hx hret (hb hby d10_10) hr
-- com/example/bare_queue/barequeue/QueueName.of(Ljava/lang/String;)Lcom/example/bare_queue/barequeue/QueueName;
abbrev Rm60 : Room := { frames := 6, cells := 1, slots := 4, locals := 120 }
def Q60 (Z : State) (a1 : Addr) (a2 : Addr) (u3 : List Value) (ck4 : ClassId) (i5 : Int32) (r7 : Value) (h0 : Heap) (n0 : Nat) (v : Option Value) (h : Heap) (L : List Loc) : Prop := ∃ b84 : Addr, v = some (.ref b84) ∧ Fr n0 L ∧ Keep h0 h [] ∧ h0.size ≤ b84 ∧ Exa Z h b84 "com/example/bare_queue/barequeue/QueueName" ∧ Fld Z h b84 "com/example/bare_queue/barequeue/QueueName" "value" "Ljava/lang/String;" (.ref a1)
theorem ef60 (a1 : Addr) (m : MethodId) : entryFrame m #[(.ref a1)] 3 = mkF m 0 #[.val (.ref a1), .unset, .unset] [] := by first | (simp [entryFrame, mkF, argsToLocals, Value.category]; done) | rfl
theorem rm60 (l : Launch) (Z : State) (a0 : Array Value) (hw : ∀ d ∈ tables_1, d.before a0 Z = true) (ws : List Jvm.Cond) (a1 : Addr) (a2 : Addr) (u3 : List Value) (ck4 : ClassId) (i5 : Int32) (r7 : Value) (h0 : Heap) (n0 : Nat) (Z0 : n0 ≤ h0.size) (E_a1 : Exa Z h0 a1 "java/lang/String") (F_value_a1 : Fld Z h0 a1 "java/lang/String" "value" "[B" (.ref a2)) (V_a2 : Arv Z h0 a2 ck4 .byte (80 : Int32) u3 (.int (0 : Int32))) (S_COMPACT_STRINGS : Sta Z Z.heap "java/lang/String" "COMPACT_STRINGS" "Z" (.int i5)) (Od0 : Old Z n0 h0) (c6 : ¬ (i5 = (0 : Int32))) (F_coder_a1 : Fld Z h0 a1 "java/lang/String" "coder" "B" (.int (0 : Int32))) (R_r7 : r7.isRef = true) (S_SIOOBE_FORMATTER : Sta Z Z.heap "jdk/internal/util/Preconditions" "SIOOBE_FORMATTER" "Ljava/util/function/BiFunction;" r7) (rd8 : u3.getD ((0 : Int32)).toNatClampNeg (.int (0 : Int32)) = (.int (65 : Int32))) (rd9 : u3.getD ((1 : Int32)).toNatClampNeg (.int (0 : Int32)) = (.int (66 : Int32))) (rd10 : u3.getD ((2 : Int32)).toNatClampNeg (.int (0 : Int32)) = (.int (67 : Int32))) (rd11 : u3.getD ((3 : Int32)).toNatClampNeg (.int (0 : Int32)) = (.int (68 : Int32))) (rd12 : u3.getD ((4 : Int32)).toNatClampNeg (.int (0 : Int32)) = (.int (69 : Int32))) (rd13 : u3.getD ((5 : Int32)).toNatClampNeg (.int (0 : Int32)) = (.int (70 : Int32))) (rd14 : u3.getD ((6 : Int32)).toNatClampNeg (.int (0 : Int32)) = (.int (71 : Int32))) (rd15 : u3.getD ((7 : Int32)).toNatClampNeg (.int (0 : Int32)) = (.int (72 : Int32))) (rd16 : u3.getD ((8 : Int32)).toNatClampNeg (.int (0 : Int32)) = (.int (73 : Int32))) (rd17 : u3.getD ((9 : Int32)).toNatClampNeg (.int (0 : Int32)) = (.int (74 : Int32))) (rd18 : u3.getD ((10 : Int32)).toNatClampNeg (.int (0 : Int32)) = (.int (75 : Int32))) (rd19 : u3.getD ((11 : Int32)).toNatClampNeg (.int (0 : Int32)) = (.int (76 : Int32))) (rd20 : u3.getD ((12 : Int32)).toNatClampNeg (.int (0 : Int32)) = (.int (77 : Int32))) (rd21 : u3.getD ((13 : Int32)).toNatClampNeg (.int (0 : Int32)) = (.int (78 : Int32))) (rd22 : u3.getD ((14 : Int32)).toNatClampNeg (.int (0 : Int32)) = (.int (79 : Int32))) (rd23 : u3.getD ((15 : Int32)).toNatClampNeg (.int (0 : Int32)) = (.int (80 : Int32))) (rd24 : u3.getD ((16 : Int32)).toNatClampNeg (.int (0 : Int32)) = (.int (81 : Int32))) (rd25 : u3.getD ((17 : Int32)).toNatClampNeg (.int (0 : Int32)) = (.int (82 : Int32))) (rd26 : u3.getD ((18 : Int32)).toNatClampNeg (.int (0 : Int32)) = (.int (83 : Int32))) (rd27 : u3.getD ((19 : Int32)).toNatClampNeg (.int (0 : Int32)) = (.int (84 : Int32))) (rd28 : u3.getD ((20 : Int32)).toNatClampNeg (.int (0 : Int32)) = (.int (85 : Int32))) (rd29 : u3.getD ((21 : Int32)).toNatClampNeg (.int (0 : Int32)) = (.int (86 : Int32))) (rd30 : u3.getD ((22 : Int32)).toNatClampNeg (.int (0 : Int32)) = (.int (87 : Int32))) (rd31 : u3.getD ((23 : Int32)).toNatClampNeg (.int (0 : Int32)) = (.int (88 : Int32))) (rd32 : u3.getD ((24 : Int32)).toNatClampNeg (.int (0 : Int32)) = (.int (89 : Int32))) (rd33 : u3.getD ((25 : Int32)).toNatClampNeg (.int (0 : Int32)) = (.int (90 : Int32))) (rd34 : u3.getD ((26 : Int32)).toNatClampNeg (.int (0 : Int32)) = (.int (97 : Int32))) (rd35 : u3.getD ((27 : Int32)).toNatClampNeg (.int (0 : Int32)) = (.int (98 : Int32))) (rd36 : u3.getD ((28 : Int32)).toNatClampNeg (.int (0 : Int32)) = (.int (99 : Int32))) (rd37 : u3.getD ((29 : Int32)).toNatClampNeg (.int (0 : Int32)) = (.int (100 : Int32))) (rd38 : u3.getD ((30 : Int32)).toNatClampNeg (.int (0 : Int32)) = (.int (101 : Int32))) (rd39 : u3.getD ((31 : Int32)).toNatClampNeg (.int (0 : Int32)) = (.int (102 : Int32))) (rd40 : u3.getD ((32 : Int32)).toNatClampNeg (.int (0 : Int32)) = (.int (103 : Int32))) (rd41 : u3.getD ((33 : Int32)).toNatClampNeg (.int (0 : Int32)) = (.int (104 : Int32))) (rd42 : u3.getD ((34 : Int32)).toNatClampNeg (.int (0 : Int32)) = (.int (105 : Int32))) (rd43 : u3.getD ((35 : Int32)).toNatClampNeg (.int (0 : Int32)) = (.int (106 : Int32))) (rd44 : u3.getD ((36 : Int32)).toNatClampNeg (.int (0 : Int32)) = (.int (107 : Int32))) (rd45 : u3.getD ((37 : Int32)).toNatClampNeg (.int (0 : Int32)) = (.int (108 : Int32))) (rd46 : u3.getD ((38 : Int32)).toNatClampNeg (.int (0 : Int32)) = (.int (109 : Int32))) (rd47 : u3.getD ((39 : Int32)).toNatClampNeg (.int (0 : Int32)) = (.int (110 : Int32))) (rd48 : u3.getD ((40 : Int32)).toNatClampNeg (.int (0 : Int32)) = (.int (111 : Int32))) (rd49 : u3.getD ((41 : Int32)).toNatClampNeg (.int (0 : Int32)) = (.int (112 : Int32))) (rd50 : u3.getD ((42 : Int32)).toNatClampNeg (.int (0 : Int32)) = (.int (113 : Int32))) (rd51 : u3.getD ((43 : Int32)).toNatClampNeg (.int (0 : Int32)) = (.int (114 : Int32))) (rd52 : u3.getD ((44 : Int32)).toNatClampNeg (.int (0 : Int32)) = (.int (115 : Int32))) (rd53 : u3.getD ((45 : Int32)).toNatClampNeg (.int (0 : Int32)) = (.int (116 : Int32))) (rd54 : u3.getD ((46 : Int32)).toNatClampNeg (.int (0 : Int32)) = (.int (117 : Int32))) (rd55 : u3.getD ((47 : Int32)).toNatClampNeg (.int (0 : Int32)) = (.int (118 : Int32))) (rd56 : u3.getD ((48 : Int32)).toNatClampNeg (.int (0 : Int32)) = (.int (119 : Int32))) (rd57 : u3.getD ((49 : Int32)).toNatClampNeg (.int (0 : Int32)) = (.int (120 : Int32))) (rd58 : u3.getD ((50 : Int32)).toNatClampNeg (.int (0 : Int32)) = (.int (121 : Int32))) (rd59 : u3.getD ((51 : Int32)).toNatClampNeg (.int (0 : Int32)) = (.int (122 : Int32))) (rd60 : u3.getD ((52 : Int32)).toNatClampNeg (.int (0 : Int32)) = (.int (48 : Int32))) (rd61 : u3.getD ((53 : Int32)).toNatClampNeg (.int (0 : Int32)) = (.int (49 : Int32))) (rd62 : u3.getD ((54 : Int32)).toNatClampNeg (.int (0 : Int32)) = (.int (50 : Int32))) (rd63 : u3.getD ((55 : Int32)).toNatClampNeg (.int (0 : Int32)) = (.int (51 : Int32))) (rd64 : u3.getD ((56 : Int32)).toNatClampNeg (.int (0 : Int32)) = (.int (52 : Int32))) (rd65 : u3.getD ((57 : Int32)).toNatClampNeg (.int (0 : Int32)) = (.int (53 : Int32))) (rd66 : u3.getD ((58 : Int32)).toNatClampNeg (.int (0 : Int32)) = (.int (54 : Int32))) (rd67 : u3.getD ((59 : Int32)).toNatClampNeg (.int (0 : Int32)) = (.int (55 : Int32))) (rd68 : u3.getD ((60 : Int32)).toNatClampNeg (.int (0 : Int32)) = (.int (56 : Int32))) (rd69 : u3.getD ((61 : Int32)).toNatClampNeg (.int (0 : Int32)) = (.int (57 : Int32))) (rd70 : u3.getD ((62 : Int32)).toNatClampNeg (.int (0 : Int32)) = (.int (45 : Int32))) (rd71 : u3.getD ((63 : Int32)).toNatClampNeg (.int (0 : Int32)) = (.int (95 : Int32))) (rd72 : u3.getD ((64 : Int32)).toNatClampNeg (.int (0 : Int32)) = (.int (48 : Int32))) (rd73 : u3.getD ((65 : Int32)).toNatClampNeg (.int (0 : Int32)) = (.int (49 : Int32))) (rd74 : u3.getD ((66 : Int32)).toNatClampNeg (.int (0 : Int32)) = (.int (50 : Int32))) (rd75 : u3.getD ((67 : Int32)).toNatClampNeg (.int (0 : Int32)) = (.int (51 : Int32))) (rd76 : u3.getD ((68 : Int32)).toNatClampNeg (.int (0 : Int32)) = (.int (52 : Int32))) (rd77 : u3.getD ((69 : Int32)).toNatClampNeg (.int (0 : Int32)) = (.int (53 : Int32))) (rd78 : u3.getD ((70 : Int32)).toNatClampNeg (.int (0 : Int32)) = (.int (54 : Int32))) (rd79 : u3.getD ((71 : Int32)).toNatClampNeg (.int (0 : Int32)) = (.int (55 : Int32))) (rd80 : u3.getD ((72 : Int32)).toNatClampNeg (.int (0 : Int32)) = (.int (56 : Int32))) (rd81 : u3.getD ((73 : Int32)).toNatClampNeg (.int (0 : Int32)) = (.int (57 : Int32))) (rd82 : u3.getD ((74 : Int32)).toNatClampNeg (.int (0 : Int32)) = (.int (97 : Int32))) (rd83 : u3.getD ((75 : Int32)).toNatClampNeg (.int (0 : Int32)) = (.int (98 : Int32))) (rd84 : u3.getD ((76 : Int32)).toNatClampNeg (.int (0 : Int32)) = (.int (99 : Int32))) (rd85 : u3.getD ((77 : Int32)).toNatClampNeg (.int (0 : Int32)) = (.int (100 : Int32))) (rd86 : u3.getD ((78 : Int32)).toNatClampNeg (.int (0 : Int32)) = (.int (101 : Int32))) (rd87 : u3.getD ((79 : Int32)).toNatClampNeg (.int (0 : Int32)) = (.int (102 : Int32))) :
    OwnMet l Z y_16 prog_12_method_2_code 3 (some (.object "com/example/bare_queue/barequeue/QueueName")) ws Rm60 #[(.ref a1)] h0 (Q60 Z a1 a2 u3 ck4 i5 r7 h0 n0) := by
  refine own_body (plainFor_of_name pn_5) (ef60 a1) ?_
  intro p e s m below meth c s₁ hx hby hml hown hnm hret hZ X0 e0
  have N0 := Fr.nil n0
  obtain ⟨_, T1, L1, X1, hQ1, st1⟩ := own_virtual X0 hx hZ hown (y := y_6) (z := y_6) E_a1 (w_38 hw) (w_39 hw) (notFace_of_selects (args := #[]) (mvT hZ (w_41 hw))) (w_41 hw) (w_40 hw) (w_7 hw) (w_42 hw) (rm48 l Z a0 hw [] a1 a2 u3 ck4 h0 n0 Z0 F_value_a1 V_a2) e0 (Ls := #[.val (.ref a1), .unset, .unset]) (by rw [hml]; rfl) (argsL := []) (rest := []) (lenOf pd_6 rfl) (hb hby d8_5) (W := 0)
  obtain ⟨rfl, Nq1, e1⟩ := hQ1
  have N1 := Fr.app N0 Nq1
  obtain ⟨T2, L2, X2, e2, N2, st2⟩ := tn50 l Z a0 hw a1 (0 : Int32) a2 u3 ck4 (80 : Int32) i5 r7 (65 : Int32) h0 n0 Z0 E_a1 F_value_a1 V_a2 S_COMPACT_STRINGS Od0 c6 F_coder_a1 (by decide) R_r7 S_SIOOBE_FORMATTER (by decide) (by decide) rd8 (by decide) (by decide) hx hby hml hown hZ X1 e1 N1 (by decide) (by decide)
  obtain ⟨T3, L3, X3, e3, N3, st3⟩ := tn50 l Z a0 hw a1 (1 : Int32) a2 u3 ck4 (80 : Int32) i5 r7 (66 : Int32) h0 n0 Z0 E_a1 F_value_a1 V_a2 S_COMPACT_STRINGS Od0 c6 F_coder_a1 (by decide) R_r7 S_SIOOBE_FORMATTER (by decide) (by decide) rd9 (by decide) (by decide) hx hby hml hown hZ X2 e2 N2 (by decide) (by decide)
  obtain ⟨T4, L4, X4, e4, N4, st4⟩ := tn50 l Z a0 hw a1 (2 : Int32) a2 u3 ck4 (80 : Int32) i5 r7 (67 : Int32) h0 n0 Z0 E_a1 F_value_a1 V_a2 S_COMPACT_STRINGS Od0 c6 F_coder_a1 (by decide) R_r7 S_SIOOBE_FORMATTER (by decide) (by decide) rd10 (by decide) (by decide) hx hby hml hown hZ X3 e3 N3 (by decide) (by decide)
  obtain ⟨T5, L5, X5, e5, N5, st5⟩ := tn50 l Z a0 hw a1 (3 : Int32) a2 u3 ck4 (80 : Int32) i5 r7 (68 : Int32) h0 n0 Z0 E_a1 F_value_a1 V_a2 S_COMPACT_STRINGS Od0 c6 F_coder_a1 (by decide) R_r7 S_SIOOBE_FORMATTER (by decide) (by decide) rd11 (by decide) (by decide) hx hby hml hown hZ X4 e4 N4 (by decide) (by decide)
  obtain ⟨T6, L6, X6, e6, N6, st6⟩ := tn50 l Z a0 hw a1 (4 : Int32) a2 u3 ck4 (80 : Int32) i5 r7 (69 : Int32) h0 n0 Z0 E_a1 F_value_a1 V_a2 S_COMPACT_STRINGS Od0 c6 F_coder_a1 (by decide) R_r7 S_SIOOBE_FORMATTER (by decide) (by decide) rd12 (by decide) (by decide) hx hby hml hown hZ X5 e5 N5 (by decide) (by decide)
  obtain ⟨T7, L7, X7, e7, N7, st7⟩ := tn50 l Z a0 hw a1 (5 : Int32) a2 u3 ck4 (80 : Int32) i5 r7 (70 : Int32) h0 n0 Z0 E_a1 F_value_a1 V_a2 S_COMPACT_STRINGS Od0 c6 F_coder_a1 (by decide) R_r7 S_SIOOBE_FORMATTER (by decide) (by decide) rd13 (by decide) (by decide) hx hby hml hown hZ X6 e6 N6 (by decide) (by decide)
  obtain ⟨T8, L8, X8, e8, N8, st8⟩ := tn50 l Z a0 hw a1 (6 : Int32) a2 u3 ck4 (80 : Int32) i5 r7 (71 : Int32) h0 n0 Z0 E_a1 F_value_a1 V_a2 S_COMPACT_STRINGS Od0 c6 F_coder_a1 (by decide) R_r7 S_SIOOBE_FORMATTER (by decide) (by decide) rd14 (by decide) (by decide) hx hby hml hown hZ X7 e7 N7 (by decide) (by decide)
  obtain ⟨T9, L9, X9, e9, N9, st9⟩ := tn50 l Z a0 hw a1 (7 : Int32) a2 u3 ck4 (80 : Int32) i5 r7 (72 : Int32) h0 n0 Z0 E_a1 F_value_a1 V_a2 S_COMPACT_STRINGS Od0 c6 F_coder_a1 (by decide) R_r7 S_SIOOBE_FORMATTER (by decide) (by decide) rd15 (by decide) (by decide) hx hby hml hown hZ X8 e8 N8 (by decide) (by decide)
  obtain ⟨T10, L10, X10, e10, N10, st10⟩ := tn50 l Z a0 hw a1 (8 : Int32) a2 u3 ck4 (80 : Int32) i5 r7 (73 : Int32) h0 n0 Z0 E_a1 F_value_a1 V_a2 S_COMPACT_STRINGS Od0 c6 F_coder_a1 (by decide) R_r7 S_SIOOBE_FORMATTER (by decide) (by decide) rd16 (by decide) (by decide) hx hby hml hown hZ X9 e9 N9 (by decide) (by decide)
  obtain ⟨T11, L11, X11, e11, N11, st11⟩ := tn50 l Z a0 hw a1 (9 : Int32) a2 u3 ck4 (80 : Int32) i5 r7 (74 : Int32) h0 n0 Z0 E_a1 F_value_a1 V_a2 S_COMPACT_STRINGS Od0 c6 F_coder_a1 (by decide) R_r7 S_SIOOBE_FORMATTER (by decide) (by decide) rd17 (by decide) (by decide) hx hby hml hown hZ X10 e10 N10 (by decide) (by decide)
  obtain ⟨T12, L12, X12, e12, N12, st12⟩ := tn50 l Z a0 hw a1 (10 : Int32) a2 u3 ck4 (80 : Int32) i5 r7 (75 : Int32) h0 n0 Z0 E_a1 F_value_a1 V_a2 S_COMPACT_STRINGS Od0 c6 F_coder_a1 (by decide) R_r7 S_SIOOBE_FORMATTER (by decide) (by decide) rd18 (by decide) (by decide) hx hby hml hown hZ X11 e11 N11 (by decide) (by decide)
  obtain ⟨T13, L13, X13, e13, N13, st13⟩ := tn50 l Z a0 hw a1 (11 : Int32) a2 u3 ck4 (80 : Int32) i5 r7 (76 : Int32) h0 n0 Z0 E_a1 F_value_a1 V_a2 S_COMPACT_STRINGS Od0 c6 F_coder_a1 (by decide) R_r7 S_SIOOBE_FORMATTER (by decide) (by decide) rd19 (by decide) (by decide) hx hby hml hown hZ X12 e12 N12 (by decide) (by decide)
  obtain ⟨T14, L14, X14, e14, N14, st14⟩ := tn50 l Z a0 hw a1 (12 : Int32) a2 u3 ck4 (80 : Int32) i5 r7 (77 : Int32) h0 n0 Z0 E_a1 F_value_a1 V_a2 S_COMPACT_STRINGS Od0 c6 F_coder_a1 (by decide) R_r7 S_SIOOBE_FORMATTER (by decide) (by decide) rd20 (by decide) (by decide) hx hby hml hown hZ X13 e13 N13 (by decide) (by decide)
  obtain ⟨T15, L15, X15, e15, N15, st15⟩ := tn50 l Z a0 hw a1 (13 : Int32) a2 u3 ck4 (80 : Int32) i5 r7 (78 : Int32) h0 n0 Z0 E_a1 F_value_a1 V_a2 S_COMPACT_STRINGS Od0 c6 F_coder_a1 (by decide) R_r7 S_SIOOBE_FORMATTER (by decide) (by decide) rd21 (by decide) (by decide) hx hby hml hown hZ X14 e14 N14 (by decide) (by decide)
  obtain ⟨T16, L16, X16, e16, N16, st16⟩ := tn50 l Z a0 hw a1 (14 : Int32) a2 u3 ck4 (80 : Int32) i5 r7 (79 : Int32) h0 n0 Z0 E_a1 F_value_a1 V_a2 S_COMPACT_STRINGS Od0 c6 F_coder_a1 (by decide) R_r7 S_SIOOBE_FORMATTER (by decide) (by decide) rd22 (by decide) (by decide) hx hby hml hown hZ X15 e15 N15 (by decide) (by decide)
  obtain ⟨T17, L17, X17, e17, N17, st17⟩ := tn50 l Z a0 hw a1 (15 : Int32) a2 u3 ck4 (80 : Int32) i5 r7 (80 : Int32) h0 n0 Z0 E_a1 F_value_a1 V_a2 S_COMPACT_STRINGS Od0 c6 F_coder_a1 (by decide) R_r7 S_SIOOBE_FORMATTER (by decide) (by decide) rd23 (by decide) (by decide) hx hby hml hown hZ X16 e16 N16 (by decide) (by decide)
  obtain ⟨T18, L18, X18, e18, N18, st18⟩ := tn50 l Z a0 hw a1 (16 : Int32) a2 u3 ck4 (80 : Int32) i5 r7 (81 : Int32) h0 n0 Z0 E_a1 F_value_a1 V_a2 S_COMPACT_STRINGS Od0 c6 F_coder_a1 (by decide) R_r7 S_SIOOBE_FORMATTER (by decide) (by decide) rd24 (by decide) (by decide) hx hby hml hown hZ X17 e17 N17 (by decide) (by decide)
  obtain ⟨T19, L19, X19, e19, N19, st19⟩ := tn50 l Z a0 hw a1 (17 : Int32) a2 u3 ck4 (80 : Int32) i5 r7 (82 : Int32) h0 n0 Z0 E_a1 F_value_a1 V_a2 S_COMPACT_STRINGS Od0 c6 F_coder_a1 (by decide) R_r7 S_SIOOBE_FORMATTER (by decide) (by decide) rd25 (by decide) (by decide) hx hby hml hown hZ X18 e18 N18 (by decide) (by decide)
  obtain ⟨T20, L20, X20, e20, N20, st20⟩ := tn50 l Z a0 hw a1 (18 : Int32) a2 u3 ck4 (80 : Int32) i5 r7 (83 : Int32) h0 n0 Z0 E_a1 F_value_a1 V_a2 S_COMPACT_STRINGS Od0 c6 F_coder_a1 (by decide) R_r7 S_SIOOBE_FORMATTER (by decide) (by decide) rd26 (by decide) (by decide) hx hby hml hown hZ X19 e19 N19 (by decide) (by decide)
  obtain ⟨T21, L21, X21, e21, N21, st21⟩ := tn50 l Z a0 hw a1 (19 : Int32) a2 u3 ck4 (80 : Int32) i5 r7 (84 : Int32) h0 n0 Z0 E_a1 F_value_a1 V_a2 S_COMPACT_STRINGS Od0 c6 F_coder_a1 (by decide) R_r7 S_SIOOBE_FORMATTER (by decide) (by decide) rd27 (by decide) (by decide) hx hby hml hown hZ X20 e20 N20 (by decide) (by decide)
  obtain ⟨T22, L22, X22, e22, N22, st22⟩ := tn50 l Z a0 hw a1 (20 : Int32) a2 u3 ck4 (80 : Int32) i5 r7 (85 : Int32) h0 n0 Z0 E_a1 F_value_a1 V_a2 S_COMPACT_STRINGS Od0 c6 F_coder_a1 (by decide) R_r7 S_SIOOBE_FORMATTER (by decide) (by decide) rd28 (by decide) (by decide) hx hby hml hown hZ X21 e21 N21 (by decide) (by decide)
  obtain ⟨T23, L23, X23, e23, N23, st23⟩ := tn50 l Z a0 hw a1 (21 : Int32) a2 u3 ck4 (80 : Int32) i5 r7 (86 : Int32) h0 n0 Z0 E_a1 F_value_a1 V_a2 S_COMPACT_STRINGS Od0 c6 F_coder_a1 (by decide) R_r7 S_SIOOBE_FORMATTER (by decide) (by decide) rd29 (by decide) (by decide) hx hby hml hown hZ X22 e22 N22 (by decide) (by decide)
  obtain ⟨T24, L24, X24, e24, N24, st24⟩ := tn50 l Z a0 hw a1 (22 : Int32) a2 u3 ck4 (80 : Int32) i5 r7 (87 : Int32) h0 n0 Z0 E_a1 F_value_a1 V_a2 S_COMPACT_STRINGS Od0 c6 F_coder_a1 (by decide) R_r7 S_SIOOBE_FORMATTER (by decide) (by decide) rd30 (by decide) (by decide) hx hby hml hown hZ X23 e23 N23 (by decide) (by decide)
  obtain ⟨T25, L25, X25, e25, N25, st25⟩ := tn50 l Z a0 hw a1 (23 : Int32) a2 u3 ck4 (80 : Int32) i5 r7 (88 : Int32) h0 n0 Z0 E_a1 F_value_a1 V_a2 S_COMPACT_STRINGS Od0 c6 F_coder_a1 (by decide) R_r7 S_SIOOBE_FORMATTER (by decide) (by decide) rd31 (by decide) (by decide) hx hby hml hown hZ X24 e24 N24 (by decide) (by decide)
  obtain ⟨T26, L26, X26, e26, N26, st26⟩ := tn50 l Z a0 hw a1 (24 : Int32) a2 u3 ck4 (80 : Int32) i5 r7 (89 : Int32) h0 n0 Z0 E_a1 F_value_a1 V_a2 S_COMPACT_STRINGS Od0 c6 F_coder_a1 (by decide) R_r7 S_SIOOBE_FORMATTER (by decide) (by decide) rd32 (by decide) (by decide) hx hby hml hown hZ X25 e25 N25 (by decide) (by decide)
  obtain ⟨T27, L27, X27, e27, N27, st27⟩ := tn50 l Z a0 hw a1 (25 : Int32) a2 u3 ck4 (80 : Int32) i5 r7 (90 : Int32) h0 n0 Z0 E_a1 F_value_a1 V_a2 S_COMPACT_STRINGS Od0 c6 F_coder_a1 (by decide) R_r7 S_SIOOBE_FORMATTER (by decide) (by decide) rd33 (by decide) (by decide) hx hby hml hown hZ X26 e26 N26 (by decide) (by decide)
  obtain ⟨T28, L28, X28, e28, N28, st28⟩ := tn52 l Z a0 hw a1 (26 : Int32) a2 u3 ck4 (80 : Int32) i5 r7 (97 : Int32) h0 n0 Z0 E_a1 F_value_a1 V_a2 S_COMPACT_STRINGS Od0 c6 F_coder_a1 (by decide) R_r7 S_SIOOBE_FORMATTER (by decide) (by decide) rd34 (by decide) (by decide) (by decide) (by decide) hx hby hml hown hZ X27 e27 N27 (by decide) (by decide)
  obtain ⟨T29, L29, X29, e29, N29, st29⟩ := tn52 l Z a0 hw a1 (27 : Int32) a2 u3 ck4 (80 : Int32) i5 r7 (98 : Int32) h0 n0 Z0 E_a1 F_value_a1 V_a2 S_COMPACT_STRINGS Od0 c6 F_coder_a1 (by decide) R_r7 S_SIOOBE_FORMATTER (by decide) (by decide) rd35 (by decide) (by decide) (by decide) (by decide) hx hby hml hown hZ X28 e28 N28 (by decide) (by decide)
  obtain ⟨T30, L30, X30, e30, N30, st30⟩ := tn52 l Z a0 hw a1 (28 : Int32) a2 u3 ck4 (80 : Int32) i5 r7 (99 : Int32) h0 n0 Z0 E_a1 F_value_a1 V_a2 S_COMPACT_STRINGS Od0 c6 F_coder_a1 (by decide) R_r7 S_SIOOBE_FORMATTER (by decide) (by decide) rd36 (by decide) (by decide) (by decide) (by decide) hx hby hml hown hZ X29 e29 N29 (by decide) (by decide)
  obtain ⟨T31, L31, X31, e31, N31, st31⟩ := tn52 l Z a0 hw a1 (29 : Int32) a2 u3 ck4 (80 : Int32) i5 r7 (100 : Int32) h0 n0 Z0 E_a1 F_value_a1 V_a2 S_COMPACT_STRINGS Od0 c6 F_coder_a1 (by decide) R_r7 S_SIOOBE_FORMATTER (by decide) (by decide) rd37 (by decide) (by decide) (by decide) (by decide) hx hby hml hown hZ X30 e30 N30 (by decide) (by decide)
  obtain ⟨T32, L32, X32, e32, N32, st32⟩ := tn52 l Z a0 hw a1 (30 : Int32) a2 u3 ck4 (80 : Int32) i5 r7 (101 : Int32) h0 n0 Z0 E_a1 F_value_a1 V_a2 S_COMPACT_STRINGS Od0 c6 F_coder_a1 (by decide) R_r7 S_SIOOBE_FORMATTER (by decide) (by decide) rd38 (by decide) (by decide) (by decide) (by decide) hx hby hml hown hZ X31 e31 N31 (by decide) (by decide)
  obtain ⟨T33, L33, X33, e33, N33, st33⟩ := tn52 l Z a0 hw a1 (31 : Int32) a2 u3 ck4 (80 : Int32) i5 r7 (102 : Int32) h0 n0 Z0 E_a1 F_value_a1 V_a2 S_COMPACT_STRINGS Od0 c6 F_coder_a1 (by decide) R_r7 S_SIOOBE_FORMATTER (by decide) (by decide) rd39 (by decide) (by decide) (by decide) (by decide) hx hby hml hown hZ X32 e32 N32 (by decide) (by decide)
  obtain ⟨T34, L34, X34, e34, N34, st34⟩ := tn52 l Z a0 hw a1 (32 : Int32) a2 u3 ck4 (80 : Int32) i5 r7 (103 : Int32) h0 n0 Z0 E_a1 F_value_a1 V_a2 S_COMPACT_STRINGS Od0 c6 F_coder_a1 (by decide) R_r7 S_SIOOBE_FORMATTER (by decide) (by decide) rd40 (by decide) (by decide) (by decide) (by decide) hx hby hml hown hZ X33 e33 N33 (by decide) (by decide)
  obtain ⟨T35, L35, X35, e35, N35, st35⟩ := tn52 l Z a0 hw a1 (33 : Int32) a2 u3 ck4 (80 : Int32) i5 r7 (104 : Int32) h0 n0 Z0 E_a1 F_value_a1 V_a2 S_COMPACT_STRINGS Od0 c6 F_coder_a1 (by decide) R_r7 S_SIOOBE_FORMATTER (by decide) (by decide) rd41 (by decide) (by decide) (by decide) (by decide) hx hby hml hown hZ X34 e34 N34 (by decide) (by decide)
  obtain ⟨T36, L36, X36, e36, N36, st36⟩ := tn52 l Z a0 hw a1 (34 : Int32) a2 u3 ck4 (80 : Int32) i5 r7 (105 : Int32) h0 n0 Z0 E_a1 F_value_a1 V_a2 S_COMPACT_STRINGS Od0 c6 F_coder_a1 (by decide) R_r7 S_SIOOBE_FORMATTER (by decide) (by decide) rd42 (by decide) (by decide) (by decide) (by decide) hx hby hml hown hZ X35 e35 N35 (by decide) (by decide)
  obtain ⟨T37, L37, X37, e37, N37, st37⟩ := tn52 l Z a0 hw a1 (35 : Int32) a2 u3 ck4 (80 : Int32) i5 r7 (106 : Int32) h0 n0 Z0 E_a1 F_value_a1 V_a2 S_COMPACT_STRINGS Od0 c6 F_coder_a1 (by decide) R_r7 S_SIOOBE_FORMATTER (by decide) (by decide) rd43 (by decide) (by decide) (by decide) (by decide) hx hby hml hown hZ X36 e36 N36 (by decide) (by decide)
  obtain ⟨T38, L38, X38, e38, N38, st38⟩ := tn52 l Z a0 hw a1 (36 : Int32) a2 u3 ck4 (80 : Int32) i5 r7 (107 : Int32) h0 n0 Z0 E_a1 F_value_a1 V_a2 S_COMPACT_STRINGS Od0 c6 F_coder_a1 (by decide) R_r7 S_SIOOBE_FORMATTER (by decide) (by decide) rd44 (by decide) (by decide) (by decide) (by decide) hx hby hml hown hZ X37 e37 N37 (by decide) (by decide)
  obtain ⟨T39, L39, X39, e39, N39, st39⟩ := tn52 l Z a0 hw a1 (37 : Int32) a2 u3 ck4 (80 : Int32) i5 r7 (108 : Int32) h0 n0 Z0 E_a1 F_value_a1 V_a2 S_COMPACT_STRINGS Od0 c6 F_coder_a1 (by decide) R_r7 S_SIOOBE_FORMATTER (by decide) (by decide) rd45 (by decide) (by decide) (by decide) (by decide) hx hby hml hown hZ X38 e38 N38 (by decide) (by decide)
  obtain ⟨T40, L40, X40, e40, N40, st40⟩ := tn52 l Z a0 hw a1 (38 : Int32) a2 u3 ck4 (80 : Int32) i5 r7 (109 : Int32) h0 n0 Z0 E_a1 F_value_a1 V_a2 S_COMPACT_STRINGS Od0 c6 F_coder_a1 (by decide) R_r7 S_SIOOBE_FORMATTER (by decide) (by decide) rd46 (by decide) (by decide) (by decide) (by decide) hx hby hml hown hZ X39 e39 N39 (by decide) (by decide)
  obtain ⟨T41, L41, X41, e41, N41, st41⟩ := tn52 l Z a0 hw a1 (39 : Int32) a2 u3 ck4 (80 : Int32) i5 r7 (110 : Int32) h0 n0 Z0 E_a1 F_value_a1 V_a2 S_COMPACT_STRINGS Od0 c6 F_coder_a1 (by decide) R_r7 S_SIOOBE_FORMATTER (by decide) (by decide) rd47 (by decide) (by decide) (by decide) (by decide) hx hby hml hown hZ X40 e40 N40 (by decide) (by decide)
  obtain ⟨T42, L42, X42, e42, N42, st42⟩ := tn52 l Z a0 hw a1 (40 : Int32) a2 u3 ck4 (80 : Int32) i5 r7 (111 : Int32) h0 n0 Z0 E_a1 F_value_a1 V_a2 S_COMPACT_STRINGS Od0 c6 F_coder_a1 (by decide) R_r7 S_SIOOBE_FORMATTER (by decide) (by decide) rd48 (by decide) (by decide) (by decide) (by decide) hx hby hml hown hZ X41 e41 N41 (by decide) (by decide)
  obtain ⟨T43, L43, X43, e43, N43, st43⟩ := tn52 l Z a0 hw a1 (41 : Int32) a2 u3 ck4 (80 : Int32) i5 r7 (112 : Int32) h0 n0 Z0 E_a1 F_value_a1 V_a2 S_COMPACT_STRINGS Od0 c6 F_coder_a1 (by decide) R_r7 S_SIOOBE_FORMATTER (by decide) (by decide) rd49 (by decide) (by decide) (by decide) (by decide) hx hby hml hown hZ X42 e42 N42 (by decide) (by decide)
  obtain ⟨T44, L44, X44, e44, N44, st44⟩ := tn52 l Z a0 hw a1 (42 : Int32) a2 u3 ck4 (80 : Int32) i5 r7 (113 : Int32) h0 n0 Z0 E_a1 F_value_a1 V_a2 S_COMPACT_STRINGS Od0 c6 F_coder_a1 (by decide) R_r7 S_SIOOBE_FORMATTER (by decide) (by decide) rd50 (by decide) (by decide) (by decide) (by decide) hx hby hml hown hZ X43 e43 N43 (by decide) (by decide)
  obtain ⟨T45, L45, X45, e45, N45, st45⟩ := tn52 l Z a0 hw a1 (43 : Int32) a2 u3 ck4 (80 : Int32) i5 r7 (114 : Int32) h0 n0 Z0 E_a1 F_value_a1 V_a2 S_COMPACT_STRINGS Od0 c6 F_coder_a1 (by decide) R_r7 S_SIOOBE_FORMATTER (by decide) (by decide) rd51 (by decide) (by decide) (by decide) (by decide) hx hby hml hown hZ X44 e44 N44 (by decide) (by decide)
  obtain ⟨T46, L46, X46, e46, N46, st46⟩ := tn52 l Z a0 hw a1 (44 : Int32) a2 u3 ck4 (80 : Int32) i5 r7 (115 : Int32) h0 n0 Z0 E_a1 F_value_a1 V_a2 S_COMPACT_STRINGS Od0 c6 F_coder_a1 (by decide) R_r7 S_SIOOBE_FORMATTER (by decide) (by decide) rd52 (by decide) (by decide) (by decide) (by decide) hx hby hml hown hZ X45 e45 N45 (by decide) (by decide)
  obtain ⟨T47, L47, X47, e47, N47, st47⟩ := tn52 l Z a0 hw a1 (45 : Int32) a2 u3 ck4 (80 : Int32) i5 r7 (116 : Int32) h0 n0 Z0 E_a1 F_value_a1 V_a2 S_COMPACT_STRINGS Od0 c6 F_coder_a1 (by decide) R_r7 S_SIOOBE_FORMATTER (by decide) (by decide) rd53 (by decide) (by decide) (by decide) (by decide) hx hby hml hown hZ X46 e46 N46 (by decide) (by decide)
  obtain ⟨T48, L48, X48, e48, N48, st48⟩ := tn52 l Z a0 hw a1 (46 : Int32) a2 u3 ck4 (80 : Int32) i5 r7 (117 : Int32) h0 n0 Z0 E_a1 F_value_a1 V_a2 S_COMPACT_STRINGS Od0 c6 F_coder_a1 (by decide) R_r7 S_SIOOBE_FORMATTER (by decide) (by decide) rd54 (by decide) (by decide) (by decide) (by decide) hx hby hml hown hZ X47 e47 N47 (by decide) (by decide)
  obtain ⟨T49, L49, X49, e49, N49, st49⟩ := tn52 l Z a0 hw a1 (47 : Int32) a2 u3 ck4 (80 : Int32) i5 r7 (118 : Int32) h0 n0 Z0 E_a1 F_value_a1 V_a2 S_COMPACT_STRINGS Od0 c6 F_coder_a1 (by decide) R_r7 S_SIOOBE_FORMATTER (by decide) (by decide) rd55 (by decide) (by decide) (by decide) (by decide) hx hby hml hown hZ X48 e48 N48 (by decide) (by decide)
  obtain ⟨T50, L50, X50, e50, N50, st50⟩ := tn52 l Z a0 hw a1 (48 : Int32) a2 u3 ck4 (80 : Int32) i5 r7 (119 : Int32) h0 n0 Z0 E_a1 F_value_a1 V_a2 S_COMPACT_STRINGS Od0 c6 F_coder_a1 (by decide) R_r7 S_SIOOBE_FORMATTER (by decide) (by decide) rd56 (by decide) (by decide) (by decide) (by decide) hx hby hml hown hZ X49 e49 N49 (by decide) (by decide)
  obtain ⟨T51, L51, X51, e51, N51, st51⟩ := tn52 l Z a0 hw a1 (49 : Int32) a2 u3 ck4 (80 : Int32) i5 r7 (120 : Int32) h0 n0 Z0 E_a1 F_value_a1 V_a2 S_COMPACT_STRINGS Od0 c6 F_coder_a1 (by decide) R_r7 S_SIOOBE_FORMATTER (by decide) (by decide) rd57 (by decide) (by decide) (by decide) (by decide) hx hby hml hown hZ X50 e50 N50 (by decide) (by decide)
  obtain ⟨T52, L52, X52, e52, N52, st52⟩ := tn52 l Z a0 hw a1 (50 : Int32) a2 u3 ck4 (80 : Int32) i5 r7 (121 : Int32) h0 n0 Z0 E_a1 F_value_a1 V_a2 S_COMPACT_STRINGS Od0 c6 F_coder_a1 (by decide) R_r7 S_SIOOBE_FORMATTER (by decide) (by decide) rd58 (by decide) (by decide) (by decide) (by decide) hx hby hml hown hZ X51 e51 N51 (by decide) (by decide)
  obtain ⟨T53, L53, X53, e53, N53, st53⟩ := tn52 l Z a0 hw a1 (51 : Int32) a2 u3 ck4 (80 : Int32) i5 r7 (122 : Int32) h0 n0 Z0 E_a1 F_value_a1 V_a2 S_COMPACT_STRINGS Od0 c6 F_coder_a1 (by decide) R_r7 S_SIOOBE_FORMATTER (by decide) (by decide) rd59 (by decide) (by decide) (by decide) (by decide) hx hby hml hown hZ X52 e52 N52 (by decide) (by decide)
  obtain ⟨T54, L54, X54, e54, N54, st54⟩ := tn54 l Z a0 hw a1 (52 : Int32) a2 u3 ck4 (80 : Int32) i5 r7 (48 : Int32) h0 n0 Z0 E_a1 F_value_a1 V_a2 S_COMPACT_STRINGS Od0 c6 F_coder_a1 (by decide) R_r7 S_SIOOBE_FORMATTER (by decide) (by decide) rd60 (by decide) (by decide) (by decide) hx hby hml hown hZ X53 e53 N53 (by decide) (by decide)
  obtain ⟨T55, L55, X55, e55, N55, st55⟩ := tn54 l Z a0 hw a1 (53 : Int32) a2 u3 ck4 (80 : Int32) i5 r7 (49 : Int32) h0 n0 Z0 E_a1 F_value_a1 V_a2 S_COMPACT_STRINGS Od0 c6 F_coder_a1 (by decide) R_r7 S_SIOOBE_FORMATTER (by decide) (by decide) rd61 (by decide) (by decide) (by decide) hx hby hml hown hZ X54 e54 N54 (by decide) (by decide)
  obtain ⟨T56, L56, X56, e56, N56, st56⟩ := tn54 l Z a0 hw a1 (54 : Int32) a2 u3 ck4 (80 : Int32) i5 r7 (50 : Int32) h0 n0 Z0 E_a1 F_value_a1 V_a2 S_COMPACT_STRINGS Od0 c6 F_coder_a1 (by decide) R_r7 S_SIOOBE_FORMATTER (by decide) (by decide) rd62 (by decide) (by decide) (by decide) hx hby hml hown hZ X55 e55 N55 (by decide) (by decide)
  obtain ⟨T57, L57, X57, e57, N57, st57⟩ := tn54 l Z a0 hw a1 (55 : Int32) a2 u3 ck4 (80 : Int32) i5 r7 (51 : Int32) h0 n0 Z0 E_a1 F_value_a1 V_a2 S_COMPACT_STRINGS Od0 c6 F_coder_a1 (by decide) R_r7 S_SIOOBE_FORMATTER (by decide) (by decide) rd63 (by decide) (by decide) (by decide) hx hby hml hown hZ X56 e56 N56 (by decide) (by decide)
  obtain ⟨T58, L58, X58, e58, N58, st58⟩ := tn54 l Z a0 hw a1 (56 : Int32) a2 u3 ck4 (80 : Int32) i5 r7 (52 : Int32) h0 n0 Z0 E_a1 F_value_a1 V_a2 S_COMPACT_STRINGS Od0 c6 F_coder_a1 (by decide) R_r7 S_SIOOBE_FORMATTER (by decide) (by decide) rd64 (by decide) (by decide) (by decide) hx hby hml hown hZ X57 e57 N57 (by decide) (by decide)
  obtain ⟨T59, L59, X59, e59, N59, st59⟩ := tn54 l Z a0 hw a1 (57 : Int32) a2 u3 ck4 (80 : Int32) i5 r7 (53 : Int32) h0 n0 Z0 E_a1 F_value_a1 V_a2 S_COMPACT_STRINGS Od0 c6 F_coder_a1 (by decide) R_r7 S_SIOOBE_FORMATTER (by decide) (by decide) rd65 (by decide) (by decide) (by decide) hx hby hml hown hZ X58 e58 N58 (by decide) (by decide)
  obtain ⟨T60, L60, X60, e60, N60, st60⟩ := tn54 l Z a0 hw a1 (58 : Int32) a2 u3 ck4 (80 : Int32) i5 r7 (54 : Int32) h0 n0 Z0 E_a1 F_value_a1 V_a2 S_COMPACT_STRINGS Od0 c6 F_coder_a1 (by decide) R_r7 S_SIOOBE_FORMATTER (by decide) (by decide) rd66 (by decide) (by decide) (by decide) hx hby hml hown hZ X59 e59 N59 (by decide) (by decide)
  obtain ⟨T61, L61, X61, e61, N61, st61⟩ := tn54 l Z a0 hw a1 (59 : Int32) a2 u3 ck4 (80 : Int32) i5 r7 (55 : Int32) h0 n0 Z0 E_a1 F_value_a1 V_a2 S_COMPACT_STRINGS Od0 c6 F_coder_a1 (by decide) R_r7 S_SIOOBE_FORMATTER (by decide) (by decide) rd67 (by decide) (by decide) (by decide) hx hby hml hown hZ X60 e60 N60 (by decide) (by decide)
  obtain ⟨T62, L62, X62, e62, N62, st62⟩ := tn54 l Z a0 hw a1 (60 : Int32) a2 u3 ck4 (80 : Int32) i5 r7 (56 : Int32) h0 n0 Z0 E_a1 F_value_a1 V_a2 S_COMPACT_STRINGS Od0 c6 F_coder_a1 (by decide) R_r7 S_SIOOBE_FORMATTER (by decide) (by decide) rd68 (by decide) (by decide) (by decide) hx hby hml hown hZ X61 e61 N61 (by decide) (by decide)
  obtain ⟨T63, L63, X63, e63, N63, st63⟩ := tn54 l Z a0 hw a1 (61 : Int32) a2 u3 ck4 (80 : Int32) i5 r7 (57 : Int32) h0 n0 Z0 E_a1 F_value_a1 V_a2 S_COMPACT_STRINGS Od0 c6 F_coder_a1 (by decide) R_r7 S_SIOOBE_FORMATTER (by decide) (by decide) rd69 (by decide) (by decide) (by decide) hx hby hml hown hZ X62 e62 N62 (by decide) (by decide)
  obtain ⟨T64, L64, X64, e64, N64, st64⟩ := tn56 l Z a0 hw a1 (62 : Int32) a2 u3 ck4 (80 : Int32) i5 r7 (45 : Int32) h0 n0 Z0 E_a1 F_value_a1 V_a2 S_COMPACT_STRINGS Od0 c6 F_coder_a1 (by decide) R_r7 S_SIOOBE_FORMATTER (by decide) (by decide) rd70 (by decide) (by decide) (by decide) hx hby hml hown hZ X63 e63 N63 (by decide) (by decide)
  obtain ⟨T65, L65, X65, e65, N65, st65⟩ := tn58 l Z a0 hw a1 (63 : Int32) a2 u3 ck4 (80 : Int32) i5 r7 (95 : Int32) h0 n0 Z0 E_a1 F_value_a1 V_a2 S_COMPACT_STRINGS Od0 c6 F_coder_a1 (by decide) R_r7 S_SIOOBE_FORMATTER (by decide) (by decide) rd71 (by decide) (by decide) (by decide) (by decide) hx hby hml hown hZ X64 e64 N64 (by decide) (by decide)
  obtain ⟨T66, L66, X66, e66, N66, st66⟩ := tn54 l Z a0 hw a1 (64 : Int32) a2 u3 ck4 (80 : Int32) i5 r7 (48 : Int32) h0 n0 Z0 E_a1 F_value_a1 V_a2 S_COMPACT_STRINGS Od0 c6 F_coder_a1 (by decide) R_r7 S_SIOOBE_FORMATTER (by decide) (by decide) rd72 (by decide) (by decide) (by decide) hx hby hml hown hZ X65 e65 N65 (by decide) (by decide)
  obtain ⟨T67, L67, X67, e67, N67, st67⟩ := tn54 l Z a0 hw a1 (65 : Int32) a2 u3 ck4 (80 : Int32) i5 r7 (49 : Int32) h0 n0 Z0 E_a1 F_value_a1 V_a2 S_COMPACT_STRINGS Od0 c6 F_coder_a1 (by decide) R_r7 S_SIOOBE_FORMATTER (by decide) (by decide) rd73 (by decide) (by decide) (by decide) hx hby hml hown hZ X66 e66 N66 (by decide) (by decide)
  obtain ⟨T68, L68, X68, e68, N68, st68⟩ := tn54 l Z a0 hw a1 (66 : Int32) a2 u3 ck4 (80 : Int32) i5 r7 (50 : Int32) h0 n0 Z0 E_a1 F_value_a1 V_a2 S_COMPACT_STRINGS Od0 c6 F_coder_a1 (by decide) R_r7 S_SIOOBE_FORMATTER (by decide) (by decide) rd74 (by decide) (by decide) (by decide) hx hby hml hown hZ X67 e67 N67 (by decide) (by decide)
  obtain ⟨T69, L69, X69, e69, N69, st69⟩ := tn54 l Z a0 hw a1 (67 : Int32) a2 u3 ck4 (80 : Int32) i5 r7 (51 : Int32) h0 n0 Z0 E_a1 F_value_a1 V_a2 S_COMPACT_STRINGS Od0 c6 F_coder_a1 (by decide) R_r7 S_SIOOBE_FORMATTER (by decide) (by decide) rd75 (by decide) (by decide) (by decide) hx hby hml hown hZ X68 e68 N68 (by decide) (by decide)
  obtain ⟨T70, L70, X70, e70, N70, st70⟩ := tn54 l Z a0 hw a1 (68 : Int32) a2 u3 ck4 (80 : Int32) i5 r7 (52 : Int32) h0 n0 Z0 E_a1 F_value_a1 V_a2 S_COMPACT_STRINGS Od0 c6 F_coder_a1 (by decide) R_r7 S_SIOOBE_FORMATTER (by decide) (by decide) rd76 (by decide) (by decide) (by decide) hx hby hml hown hZ X69 e69 N69 (by decide) (by decide)
  obtain ⟨T71, L71, X71, e71, N71, st71⟩ := tn54 l Z a0 hw a1 (69 : Int32) a2 u3 ck4 (80 : Int32) i5 r7 (53 : Int32) h0 n0 Z0 E_a1 F_value_a1 V_a2 S_COMPACT_STRINGS Od0 c6 F_coder_a1 (by decide) R_r7 S_SIOOBE_FORMATTER (by decide) (by decide) rd77 (by decide) (by decide) (by decide) hx hby hml hown hZ X70 e70 N70 (by decide) (by decide)
  obtain ⟨T72, L72, X72, e72, N72, st72⟩ := tn54 l Z a0 hw a1 (70 : Int32) a2 u3 ck4 (80 : Int32) i5 r7 (54 : Int32) h0 n0 Z0 E_a1 F_value_a1 V_a2 S_COMPACT_STRINGS Od0 c6 F_coder_a1 (by decide) R_r7 S_SIOOBE_FORMATTER (by decide) (by decide) rd78 (by decide) (by decide) (by decide) hx hby hml hown hZ X71 e71 N71 (by decide) (by decide)
  obtain ⟨T73, L73, X73, e73, N73, st73⟩ := tn54 l Z a0 hw a1 (71 : Int32) a2 u3 ck4 (80 : Int32) i5 r7 (55 : Int32) h0 n0 Z0 E_a1 F_value_a1 V_a2 S_COMPACT_STRINGS Od0 c6 F_coder_a1 (by decide) R_r7 S_SIOOBE_FORMATTER (by decide) (by decide) rd79 (by decide) (by decide) (by decide) hx hby hml hown hZ X72 e72 N72 (by decide) (by decide)
  obtain ⟨T74, L74, X74, e74, N74, st74⟩ := tn54 l Z a0 hw a1 (72 : Int32) a2 u3 ck4 (80 : Int32) i5 r7 (56 : Int32) h0 n0 Z0 E_a1 F_value_a1 V_a2 S_COMPACT_STRINGS Od0 c6 F_coder_a1 (by decide) R_r7 S_SIOOBE_FORMATTER (by decide) (by decide) rd80 (by decide) (by decide) (by decide) hx hby hml hown hZ X73 e73 N73 (by decide) (by decide)
  obtain ⟨T75, L75, X75, e75, N75, st75⟩ := tn54 l Z a0 hw a1 (73 : Int32) a2 u3 ck4 (80 : Int32) i5 r7 (57 : Int32) h0 n0 Z0 E_a1 F_value_a1 V_a2 S_COMPACT_STRINGS Od0 c6 F_coder_a1 (by decide) R_r7 S_SIOOBE_FORMATTER (by decide) (by decide) rd81 (by decide) (by decide) (by decide) hx hby hml hown hZ X74 e74 N74 (by decide) (by decide)
  obtain ⟨T76, L76, X76, e76, N76, st76⟩ := tn52 l Z a0 hw a1 (74 : Int32) a2 u3 ck4 (80 : Int32) i5 r7 (97 : Int32) h0 n0 Z0 E_a1 F_value_a1 V_a2 S_COMPACT_STRINGS Od0 c6 F_coder_a1 (by decide) R_r7 S_SIOOBE_FORMATTER (by decide) (by decide) rd82 (by decide) (by decide) (by decide) (by decide) hx hby hml hown hZ X75 e75 N75 (by decide) (by decide)
  obtain ⟨T77, L77, X77, e77, N77, st77⟩ := tn52 l Z a0 hw a1 (75 : Int32) a2 u3 ck4 (80 : Int32) i5 r7 (98 : Int32) h0 n0 Z0 E_a1 F_value_a1 V_a2 S_COMPACT_STRINGS Od0 c6 F_coder_a1 (by decide) R_r7 S_SIOOBE_FORMATTER (by decide) (by decide) rd83 (by decide) (by decide) (by decide) (by decide) hx hby hml hown hZ X76 e76 N76 (by decide) (by decide)
  obtain ⟨T78, L78, X78, e78, N78, st78⟩ := tn52 l Z a0 hw a1 (76 : Int32) a2 u3 ck4 (80 : Int32) i5 r7 (99 : Int32) h0 n0 Z0 E_a1 F_value_a1 V_a2 S_COMPACT_STRINGS Od0 c6 F_coder_a1 (by decide) R_r7 S_SIOOBE_FORMATTER (by decide) (by decide) rd84 (by decide) (by decide) (by decide) (by decide) hx hby hml hown hZ X77 e77 N77 (by decide) (by decide)
  obtain ⟨T79, L79, X79, e79, N79, st79⟩ := tn52 l Z a0 hw a1 (77 : Int32) a2 u3 ck4 (80 : Int32) i5 r7 (100 : Int32) h0 n0 Z0 E_a1 F_value_a1 V_a2 S_COMPACT_STRINGS Od0 c6 F_coder_a1 (by decide) R_r7 S_SIOOBE_FORMATTER (by decide) (by decide) rd85 (by decide) (by decide) (by decide) (by decide) hx hby hml hown hZ X78 e78 N78 (by decide) (by decide)
  obtain ⟨T80, L80, X80, e80, N80, st80⟩ := tn52 l Z a0 hw a1 (78 : Int32) a2 u3 ck4 (80 : Int32) i5 r7 (101 : Int32) h0 n0 Z0 E_a1 F_value_a1 V_a2 S_COMPACT_STRINGS Od0 c6 F_coder_a1 (by decide) R_r7 S_SIOOBE_FORMATTER (by decide) (by decide) rd86 (by decide) (by decide) (by decide) (by decide) hx hby hml hown hZ X79 e79 N79 (by decide) (by decide)
  obtain ⟨T81, L81, X81, e81, N81, st81⟩ := tn52 l Z a0 hw a1 (79 : Int32) a2 u3 ck4 (80 : Int32) i5 r7 (102 : Int32) h0 n0 Z0 E_a1 F_value_a1 V_a2 S_COMPACT_STRINGS Od0 c6 F_coder_a1 (by decide) R_r7 S_SIOOBE_FORMATTER (by decide) (by decide) rd87 (by decide) (by decide) (by decide) (by decide) hx hby hml hown hZ X80 e80 N80 (by decide) (by decide)
  obtain ⟨T82, L82, X82, e82, N82, st82⟩ := tn17 l Z a0 hw a1 (80 : Int32) a2 u3 ck4 (80 : Int32) i5 h0 n0 Z0 E_a1 F_value_a1 V_a2 S_COMPACT_STRINGS Od0 c6 F_coder_a1 (by decide) hx hby hml hown hZ X81 e81 N81 (by decide) (by decide)
  obtain ⟨_, T83, L83, X83, hQ83, st83⟩ := own_virtual X82 hx hZ hown (y := y_8) (z := y_8) E_a1 (w_43 hw) (w_44 hw) (notFace_of_selects (args := #[]) (mvT hZ (w_46 hw))) (w_46 hw) (w_45 hw) (w_7 hw) (w_47 hw) (rm59 l Z a0 hw [] a1 a2 u3 ck4 i5 h0 n0 Z0 F_value_a1 V_a2 E_a1 S_COMPACT_STRINGS Od0 c6 F_coder_a1) e82 (Ls := #[.val (.ref a1), .val (.int (80 : Int32)), .unset]) (by rw [hml]; rfl) (argsL := []) (rest := []) (lenOf pd_8 rfl) (hb hby d8_93) (W := 0)
  obtain ⟨rfl, Nq83, e83⟩ := hQ83
  have N83 := Fr.app N82 Nq83
  obtain ⟨T84, h84, X84, e84, E84, A84, D84, -, st84⟩ := newO X83 hx hZ hown (w_78 hw) (w_79 hw) (w_36 hw) e83 (g := (mkF m 118 #[.val (.ref a1), .val (.int (80 : Int32)), .unset] [])) rfl (hb hby d8_118) (by decide) (by decide)
  obtain ⟨b84, g84⟩ : ∃ z, z = h0.size := ⟨_, rfl⟩
  rw [← g84] at A84 D84 st84
  have s0 := E84.1
  have Fn84_value : Fld Z h84 b84 "com/example/bare_queue/barequeue/QueueName" "value" "Ljava/lang/String;" .null := D84 (Or.inr (w_85 hw)) (ty := (.object "java/lang/String")) (by decide)
  have g_b84 : n0 ≤ b84 := Nat.le_trans Z0 (Nat.le_of_eq g84.symm)
  have z1 := Nat.le_trans Z0 s0
  obtain ⟨_, T85, L85, X85, hQ85, st85⟩ := own_special X84 hx hZ hown (y := y_15) (a := b84) (w_80 hw) (w_81 hw) (w_36 hw) (w_82 hw) (rm19 l Z a0 hw [] b84 a1 h84 n0 z1 Fn84_value A84 g_b84) e84 (Ls := #[.val (.ref a1), .val (.int (80 : Int32)), .unset]) (by rw [hml]; rfl) (argsL := [(.ref a1)]) (rest := [(.ref b84)]) (lenOf pd_13 rfl) (hb hby d8_123) (W := 1)
  obtain ⟨rfl, Nq85, K85, o85_0, o85_1⟩ := hQ85
  have N85 := Fr.app N83 Nq85
  have s1 := K85.1
  have sz_b84 : h0.size ≤ b84 := (Nat.le_of_eq g84.symm)
  have Kp0 : Keep h0 h84 [] := (Keep.refl h0 []).ext E84
  have Kp1 : Keep h0 T85.heap [] := Kp0.trans K85 (allS (Or.inr sz_b84) all0)
  refine ⟨T85, _, _, _, (some (.ref b84)), X85, nofun, by decide, by decide, ?_, fun fs hr => ?_⟩
  · show Q60 Z a1 a2 u3 ck4 i5 r7 h0 n0 _ T85.heap _
    exact ⟨b84, rfl, N85, Kp1, sz_b84, o85_0, o85_1⟩
  · show Steps p.tables e below (s₁.setTop (mkF m 0 #[.val (.ref a1), .unset, .unset] [])) _
    refine XS.aloadN X0.here hx rfl (hb hby d8_0) rfl rfl ?_
    refine XS.ifnullNo X0.here hx rfl (hb hby d8_1) rfl ?_
    refine XS.aloadN X0.here hx rfl (hb hby d8_4) rfl rfl ?_
    refine st1 _ ?_
    refine XS.ifYes X1.here hx rfl (pc0 := 8) (pc' := 21) rfl (hb hby d8_8) rfl ((if0 _ _).trans (teq ((by decide : (0 : Int32) = (0 : Int32)) : (0 : Int32) = (0 : Int32))).1) (by decide) (by decide) ?_
    refine XS.iconst X1.here hx rfl (hb hby d8_21) ?_
    refine XS.istoreN X1.here hx rfl (hb hby d8_22) rfl (l' := #[.val (.ref a1), .val (.int (0 : Int32)), .unset]) rfl ?_
    refine st2 _ ?_
    refine st3 _ ?_
    refine st4 _ ?_
    refine st5 _ ?_
    refine st6 _ ?_
    refine st7 _ ?_
    refine st8 _ ?_
    refine st9 _ ?_
    refine st10 _ ?_
    refine st11 _ ?_
    refine st12 _ ?_
    refine st13 _ ?_
    refine st14 _ ?_
    refine st15 _ ?_
    refine st16 _ ?_
    refine st17 _ ?_
    refine st18 _ ?_
    refine st19 _ ?_
    refine st20 _ ?_
    refine st21 _ ?_
    refine st22 _ ?_
    refine st23 _ ?_
    refine st24 _ ?_
    refine st25 _ ?_
    refine st26 _ ?_
    refine st27 _ ?_
    refine st28 _ ?_
    refine st29 _ ?_
    refine st30 _ ?_
    refine st31 _ ?_
    refine st32 _ ?_
    refine st33 _ ?_
    refine st34 _ ?_
    refine st35 _ ?_
    refine st36 _ ?_
    refine st37 _ ?_
    refine st38 _ ?_
    refine st39 _ ?_
    refine st40 _ ?_
    refine st41 _ ?_
    refine st42 _ ?_
    refine st43 _ ?_
    refine st44 _ ?_
    refine st45 _ ?_
    refine st46 _ ?_
    refine st47 _ ?_
    refine st48 _ ?_
    refine st49 _ ?_
    refine st50 _ ?_
    refine st51 _ ?_
    refine st52 _ ?_
    refine st53 _ ?_
    refine st54 _ ?_
    refine st55 _ ?_
    refine st56 _ ?_
    refine st57 _ ?_
    refine st58 _ ?_
    refine st59 _ ?_
    refine st60 _ ?_
    refine st61 _ ?_
    refine st62 _ ?_
    refine st63 _ ?_
    refine st64 _ ?_
    refine st65 _ ?_
    refine st66 _ ?_
    refine st67 _ ?_
    refine st68 _ ?_
    refine st69 _ ?_
    refine st70 _ ?_
    refine st71 _ ?_
    refine st72 _ ?_
    refine st73 _ ?_
    refine st74 _ ?_
    refine st75 _ ?_
    refine st76 _ ?_
    refine st77 _ ?_
    refine st78 _ ?_
    refine st79 _ ?_
    refine st80 _ ?_
    refine st81 _ ?_
    refine st82 _ ?_
    show Steps p.tables e below (T82.setTop (mkF m 92 #[.val (.ref a1), .val (.int (80 : Int32)), .unset] [])) _
    refine XS.aloadN X82.here hx rfl (hb hby d8_92) rfl rfl ?_
    refine st83 _ ?_
    refine XS.bipush X83.here hx rfl (hb hby d8_96) ?_
    refine XS.icmpYes X83.here hx rfl (pc0 := 98) (pc' := 118) rfl (hb hby d8_98) rfl (flt ((by decide : ¬ ((80 : Int32) < (80 : Int32))) : ¬ ((80 : Int32) < (80 : Int32)))).2.2.2 (by decide) (by decide) ?_
    refine st84 _ ?_
    refine XS.dup X84.here hx rfl (hb hby d8_121) rfl rfl ?_
    refine XS.aloadN X84.here hx rfl (hb hby d8_122) rfl rfl ?_
    refine st85 _ ?_
    exact retOut X85 hx hret rfl (Or.inr (Or.inr (Or.inr (Or.inr ⟨rfl, rfl, rfl⟩)))) (hb hby d8_126) hr
-- com/example/bare_queue/barequeue/QueueName.equals(Ljava/lang/Object;)Z
abbrev Rm61 : Room := { frames := 1, cells := 0, slots := 0, locals := 14 }
def Q61 (Z : State) (a1 : Addr) (a2 : Addr) (a3 : Addr) (h0 : Heap) (n0 : Nat) (v : Option Value) (h : Heap) (L : List Loc) : Prop := v = some (.int (1 : Int32)) ∧ Fr n0 L ∧ h = h0
theorem ef61 (a1 : Addr) (a2 : Addr) (m : MethodId) : entryFrame m #[(.ref a1), (.ref a2)] 3 = mkF m 0 #[.val (.ref a1), .val (.ref a2), .unset] [] := by first | (simp [entryFrame, mkF, argsToLocals, Value.category]; done) | rfl
theorem rm61 (l : Launch) (Z : State) (a0 : Array Value) (hw : ∀ d ∈ tables_1, d.before a0 Z = true) (ws : List Jvm.Cond) (a1 : Addr) (a2 : Addr) (a3 : Addr) (h0 : Heap) (n0 : Nat) (Z0 : n0 ≤ h0.size) (E_a2 : Exa Z h0 a2 "com/example/bare_queue/barequeue/QueueName") (F_value_a1 : Fld Z h0 a1 "com/example/bare_queue/barequeue/QueueName" "value" "Ljava/lang/String;" (.ref a3)) (F_value_a2 : Fld Z h0 a2 "com/example/bare_queue/barequeue/QueueName" "value" "Ljava/lang/String;" (.ref a3)) (E_a3 : Exa Z h0 a3 "java/lang/String") :
    OwnMet l Z y_20 prog_12_method_5_code 3 (some .boolean) ws Rm61 #[(.ref a1), (.ref a2)] h0 (Q61 Z a1 a2 a3 h0 n0) := by
  refine own_body (plainFor_of_name pn_5) (ef61 a1 a2) ?_
  intro p e s m below meth c s₁ hx hby hml hown hnm hret hZ X0 e0
  have N0 := Fr.nil n0
  obtain ⟨T1, X1, e1, st1⟩ := instY X0 hx hZ hown (w_78 hw) e0 (Ins.self E_a2) (g := (mkF m 1 #[.val (.ref a1), .val (.ref a2), .unset] [(.ref a2)])) rfl rfl (hb hby d21_1)
  obtain ⟨T2, X2, e2, st2⟩ := castY X1 hx hZ hown (w_78 hw) e1 (Ins.self E_a2) (g := (mkF m 8 #[.val (.ref a1), .val (.ref a2), .unset] [(.ref a2)])) rfl rfl (hb hby d21_8)
  obtain ⟨T3, X3, e3, st3⟩ := getF X2 hx hZ hown (host := "") (Or.inl (w_84 hw)) Via.refl e2 F_value_a1 (g := (mkF m 13 #[.val (.ref a1), .val (.ref a2), .val (.ref a2)] [(.ref a1)])) rfl rfl (hb hby d21_13)
  obtain ⟨T4, X4, e4, st4⟩ := getF X3 hx hZ hown (host := "") (Or.inl (w_84 hw)) Via.refl e3 F_value_a2 (g := (mkF m 17 #[.val (.ref a1), .val (.ref a2), .val (.ref a2)] [(.ref a2), (.ref a3)])) rfl rfl (hb hby d21_17)
  obtain ⟨_, T5, L5, X5, hQ5, st5⟩ := own_virtual X4 hx hZ hown (y := y_18) (z := y_18) E_a3 (w_103 hw) (w_92 hw) (notFace_of_selects (args := #[]) (mvT hZ (w_94 hw))) (w_94 hw) (w_93 hw) (w_7 hw) (w_95 hw) (rm22 l Z a0 hw [] a3 h0 n0 Z0) e4 (Ls := #[.val (.ref a1), .val (.ref a2), .val (.ref a2)]) (by rw [hml]; rfl) (argsL := [(.ref a3)]) (rest := []) (lenOf pd_16 rfl) (hb hby d21_20) (W := 0)
  obtain ⟨rfl, Nq5, e5⟩ := hQ5
  have N5 := Fr.app N0 Nq5
  refine ⟨T5, _, _, _, (some (.int (1 : Int32))), X5, nofun, by decide, by decide, ?_, fun fs hr => ?_⟩
  · show Q61 Z a1 a2 a3 h0 n0 _ T5.heap _
    rw [e5]
    exact ⟨rfl, N5, rfl⟩
  · show Steps p.tables e below (s₁.setTop (mkF m 0 #[.val (.ref a1), .val (.ref a2), .unset] [])) _
    refine XS.aloadN X0.here hx rfl (hb hby d21_0) rfl rfl ?_
    refine st1 _ ?_
    refine XS.ifNo X1.here hx rfl (hb hby d21_4) rfl ((if0 _ _).trans (feq ((by decide : ¬ ((1 : Int32) = (0 : Int32))) : ¬ ((1 : Int32) = (0 : Int32)))).1) ?_
    refine XS.aloadN X1.here hx rfl (hb hby d21_7) rfl rfl ?_
    refine st2 _ ?_
    refine XS.astoreN X2.here hx rfl (hb hby d21_11) rfl rfl (l' := #[.val (.ref a1), .val (.ref a2), .val (.ref a2)]) rfl ?_
    refine XS.aloadN X2.here hx rfl (hb hby d21_12) rfl rfl ?_
    refine st3 _ ?_
    refine XS.aloadN X3.here hx rfl (hb hby d21_16) rfl rfl ?_
    refine st4 _ ?_
    refine st5 _ ?_
    refine XS.ifNo X5.here hx rfl (hb hby d21_23) rfl ((if0 _ _).trans (feq ((by decide : ¬ ((1 : Int32) = (0 : Int32))) : ¬ ((1 : Int32) = (0 : Int32)))).1) ?_
    show Steps p.tables e below (T5.setTop (mkF m 26 #[.val (.ref a1), .val (.ref a2), .val (.ref a2)] [])) _
    refine XS.iconst X5.here hx rfl (hb hby d21_26) ?_
    refine XS.goto X5.here hx rfl (pc0 := 27) (pc' := 31) rfl (hb hby d21_27) (by decide) (by decide) ?_
    exact retN X5 hx (t := .boolean) hret (by simp) (hb hby d21_31) hr
theorem rm0_3 (l : Launch) (Z : State) (a0 : Array Value) (hw : ∀ d ∈ tables_1, d.before a0 Z = true) (ws : List Jvm.Cond) (p1 : Int32) (p2 : Int32) (p3 : Int32) (p4 : Int32) (sr1 : Value) (si2 : Int32) (h0 : Heap) (n0 : Nat) (Z0 : n0 ≤ h0.size) (Od0 : Old Z n0 h0) (R_sr1 : sr1.isRef = true) (nc3 : ¬ (si2 = (0 : Int32))) (S4_SIOOBE_FORMATTER : Sta Z Z.heap "jdk/internal/util/Preconditions" "SIOOBE_FORMATTER" "Ljava/util/function/BiFunction;" sr1) (S5_COMPACT_STRINGS : Sta Z Z.heap "java/lang/String" "COMPACT_STRINGS" "Z" (.int si2)) (hk : (p4 &&& (3 : Int32)) = (3 : Int32)) (hn0 : n0 = h0.size) (hcw : Jvm.Lit.compactW.before a0 Z = true) (hch_7 : Jvm.Lit.constHeld Z "com/example/bare_queue/barequeue/QueueNameOfPinLaw" 7) :
    OwnMetW l Z x code maxLocals ret ws room_1 #[(.int p1), (.int p2), (.int p3), (.int p4)] h0 (Q0 n0) := by
  refine own_bodyW (plainFor_of_name pn_0) (ef0 p1 p2 p3 p4) ?_
  intro p e s m below meth c s₁ hx hby hml hown hnm hret hZ hs0 hIB X0 e0
  have N0 := Fr.nil n0
  obtain ⟨la1, T1, h1, kn1, b1, k1, X1, e1, E1, Sn1, kl1, hZ1, hown1, A1, Fc1, Fv1, V1, lt1, ltb1, I1, Lt1, st1⟩ := ldcSVL (s := s) (vm0 := s.vm) X0 hx hZ hown (w_108 hw) (own_wS hw) e0 (own_since s) (by rw [hs0]; first | done | exact (Nat.le_refl _)) (Fr.nil _) (fun b cl q => by rw [hs0]; exact Od0.2.2 b cl q) hIB (by simp) hch_7 hcw (vs := [(.int (65 : Int32)), (.int (66 : Int32)), (.int (67 : Int32)), (.int (68 : Int32)), (.int (69 : Int32)), (.int (70 : Int32)), (.int (71 : Int32)), (.int (72 : Int32)), (.int (73 : Int32)), (.int (74 : Int32)), (.int (75 : Int32)), (.int (76 : Int32)), (.int (77 : Int32)), (.int (78 : Int32)), (.int (79 : Int32)), (.int (80 : Int32)), (.int (81 : Int32)), (.int (82 : Int32)), (.int (83 : Int32)), (.int (84 : Int32)), (.int (85 : Int32)), (.int (86 : Int32)), (.int (87 : Int32)), (.int (88 : Int32)), (.int (89 : Int32)), (.int (90 : Int32)), (.int (97 : Int32)), (.int (98 : Int32)), (.int (99 : Int32)), (.int (100 : Int32)), (.int (101 : Int32)), (.int (102 : Int32)), (.int (103 : Int32)), (.int (104 : Int32)), (.int (105 : Int32)), (.int (106 : Int32)), (.int (107 : Int32)), (.int (108 : Int32)), (.int (109 : Int32)), (.int (110 : Int32)), (.int (111 : Int32)), (.int (112 : Int32)), (.int (113 : Int32)), (.int (114 : Int32)), (.int (115 : Int32)), (.int (116 : Int32)), (.int (117 : Int32)), (.int (118 : Int32)), (.int (119 : Int32)), (.int (120 : Int32)), (.int (121 : Int32)), (.int (122 : Int32)), (.int (48 : Int32)), (.int (49 : Int32)), (.int (50 : Int32)), (.int (51 : Int32)), (.int (52 : Int32)), (.int (53 : Int32)), (.int (54 : Int32)), (.int (55 : Int32)), (.int (56 : Int32)), (.int (57 : Int32)), (.int (45 : Int32)), (.int (95 : Int32)), (.int (48 : Int32)), (.int (49 : Int32)), (.int (50 : Int32)), (.int (51 : Int32)), (.int (52 : Int32)), (.int (53 : Int32)), (.int (54 : Int32)), (.int (55 : Int32)), (.int (56 : Int32)), (.int (57 : Int32)), (.int (97 : Int32)), (.int (98 : Int32)), (.int (99 : Int32)), (.int (100 : Int32)), (.int (101 : Int32)), (.int (102 : Int32))]) (z := 80) own_lit_7 (by decide) rfl (g := (mkF m 11 #[.val (.int p1), .val (.int p2), .val (.int p3), .val (.int p4), .val (.int (3 : Int32)), .unset, .unset, .unset, .unset] [])) rfl (hb hby at_11) (n := 320) (by decide) (by decide) (by decide) (by decide)
  have s0 := E1.1
  have Od1 : Old Z n0 h1 := Od0.ext E1
  have z1 := Nat.le_trans Z0 s0
  obtain ⟨_, T2, L2, X2, hQ2, st2⟩ := own_callS X1 hx hZ1 hown1 (y := y_16) (w_34 hw) (w_35 hw) (w_36 hw) (w_37 hw) (rm60 l Z a0 hw [] la1 b1 [(.int (65 : Int32)), (.int (66 : Int32)), (.int (67 : Int32)), (.int (68 : Int32)), (.int (69 : Int32)), (.int (70 : Int32)), (.int (71 : Int32)), (.int (72 : Int32)), (.int (73 : Int32)), (.int (74 : Int32)), (.int (75 : Int32)), (.int (76 : Int32)), (.int (77 : Int32)), (.int (78 : Int32)), (.int (79 : Int32)), (.int (80 : Int32)), (.int (81 : Int32)), (.int (82 : Int32)), (.int (83 : Int32)), (.int (84 : Int32)), (.int (85 : Int32)), (.int (86 : Int32)), (.int (87 : Int32)), (.int (88 : Int32)), (.int (89 : Int32)), (.int (90 : Int32)), (.int (97 : Int32)), (.int (98 : Int32)), (.int (99 : Int32)), (.int (100 : Int32)), (.int (101 : Int32)), (.int (102 : Int32)), (.int (103 : Int32)), (.int (104 : Int32)), (.int (105 : Int32)), (.int (106 : Int32)), (.int (107 : Int32)), (.int (108 : Int32)), (.int (109 : Int32)), (.int (110 : Int32)), (.int (111 : Int32)), (.int (112 : Int32)), (.int (113 : Int32)), (.int (114 : Int32)), (.int (115 : Int32)), (.int (116 : Int32)), (.int (117 : Int32)), (.int (118 : Int32)), (.int (119 : Int32)), (.int (120 : Int32)), (.int (121 : Int32)), (.int (122 : Int32)), (.int (48 : Int32)), (.int (49 : Int32)), (.int (50 : Int32)), (.int (51 : Int32)), (.int (52 : Int32)), (.int (53 : Int32)), (.int (54 : Int32)), (.int (55 : Int32)), (.int (56 : Int32)), (.int (57 : Int32)), (.int (45 : Int32)), (.int (95 : Int32)), (.int (48 : Int32)), (.int (49 : Int32)), (.int (50 : Int32)), (.int (51 : Int32)), (.int (52 : Int32)), (.int (53 : Int32)), (.int (54 : Int32)), (.int (55 : Int32)), (.int (56 : Int32)), (.int (57 : Int32)), (.int (97 : Int32)), (.int (98 : Int32)), (.int (99 : Int32)), (.int (100 : Int32)), (.int (101 : Int32)), (.int (102 : Int32))] k1 si2 sr1 h1 n0 z1 A1 Fv1 V1 S5_COMPACT_STRINGS Od1 nc3 Fc1 R_sr1 S4_SIOOBE_FORMATTER rfl rfl rfl rfl rfl rfl rfl rfl rfl rfl rfl rfl rfl rfl rfl rfl rfl rfl rfl rfl rfl rfl rfl rfl rfl rfl rfl rfl rfl rfl rfl rfl rfl rfl rfl rfl rfl rfl rfl rfl rfl rfl rfl rfl rfl rfl rfl rfl rfl rfl rfl rfl rfl rfl rfl rfl rfl rfl rfl rfl rfl rfl rfl rfl rfl rfl rfl rfl rfl rfl rfl rfl rfl rfl rfl rfl rfl rfl rfl rfl) e1 (Ls := #[.val (.int p1), .val (.int p2), .val (.int p3), .val (.int p4), .val (.int (3 : Int32)), .val (.ref la1), .val (.ref la1), .unset, .unset]) (by rw [hml]; rfl) (argsL := [(.ref la1)]) (rest := []) (lenOf pd_14 rfl) (hb hby at_94) (W := 0)
  obtain ⟨b2_b84, rfl, Nq2, K2, o2_0, o2_1, o2_2⟩ := hQ2
  have N2 := Fr.app N0 Nq2
  have s1 := K2.1
  have Ex3 := (A1.keep K2)
  have Fl4 := (Fv1.keep K2 nin0)
  have Va5 := (V1.keep K2 nin0)
  have Od2 : Old Z n0 T2.heap := Od1.keep K2 all0
  have Fl6 := (Fc1.keep K2 nin0)
  have z2 := Nat.le_trans Z0 (Nat.le_trans s0 s1)
  obtain ⟨_, T7, L7, X7, hQ7, st7⟩ := own_callS X2 hx hZ1 hown1 (y := y_16) (w_34 hw) (w_35 hw) (w_36 hw) (w_37 hw) (rm60 l Z a0 hw [] la1 b1 [(.int (65 : Int32)), (.int (66 : Int32)), (.int (67 : Int32)), (.int (68 : Int32)), (.int (69 : Int32)), (.int (70 : Int32)), (.int (71 : Int32)), (.int (72 : Int32)), (.int (73 : Int32)), (.int (74 : Int32)), (.int (75 : Int32)), (.int (76 : Int32)), (.int (77 : Int32)), (.int (78 : Int32)), (.int (79 : Int32)), (.int (80 : Int32)), (.int (81 : Int32)), (.int (82 : Int32)), (.int (83 : Int32)), (.int (84 : Int32)), (.int (85 : Int32)), (.int (86 : Int32)), (.int (87 : Int32)), (.int (88 : Int32)), (.int (89 : Int32)), (.int (90 : Int32)), (.int (97 : Int32)), (.int (98 : Int32)), (.int (99 : Int32)), (.int (100 : Int32)), (.int (101 : Int32)), (.int (102 : Int32)), (.int (103 : Int32)), (.int (104 : Int32)), (.int (105 : Int32)), (.int (106 : Int32)), (.int (107 : Int32)), (.int (108 : Int32)), (.int (109 : Int32)), (.int (110 : Int32)), (.int (111 : Int32)), (.int (112 : Int32)), (.int (113 : Int32)), (.int (114 : Int32)), (.int (115 : Int32)), (.int (116 : Int32)), (.int (117 : Int32)), (.int (118 : Int32)), (.int (119 : Int32)), (.int (120 : Int32)), (.int (121 : Int32)), (.int (122 : Int32)), (.int (48 : Int32)), (.int (49 : Int32)), (.int (50 : Int32)), (.int (51 : Int32)), (.int (52 : Int32)), (.int (53 : Int32)), (.int (54 : Int32)), (.int (55 : Int32)), (.int (56 : Int32)), (.int (57 : Int32)), (.int (45 : Int32)), (.int (95 : Int32)), (.int (48 : Int32)), (.int (49 : Int32)), (.int (50 : Int32)), (.int (51 : Int32)), (.int (52 : Int32)), (.int (53 : Int32)), (.int (54 : Int32)), (.int (55 : Int32)), (.int (56 : Int32)), (.int (57 : Int32)), (.int (97 : Int32)), (.int (98 : Int32)), (.int (99 : Int32)), (.int (100 : Int32)), (.int (101 : Int32)), (.int (102 : Int32))] k1 si2 sr1 T2.heap n0 z2 Ex3 Fl4 Va5 S5_COMPACT_STRINGS Od2 nc3 Fl6 R_sr1 S4_SIOOBE_FORMATTER rfl rfl rfl rfl rfl rfl rfl rfl rfl rfl rfl rfl rfl rfl rfl rfl rfl rfl rfl rfl rfl rfl rfl rfl rfl rfl rfl rfl rfl rfl rfl rfl rfl rfl rfl rfl rfl rfl rfl rfl rfl rfl rfl rfl rfl rfl rfl rfl rfl rfl rfl rfl rfl rfl rfl rfl rfl rfl rfl rfl rfl rfl rfl rfl rfl rfl rfl rfl rfl rfl rfl rfl rfl rfl rfl rfl rfl rfl rfl rfl) rfl (Ls := #[.val (.int p1), .val (.int p2), .val (.int p3), .val (.int p4), .val (.int (3 : Int32)), .val (.ref la1), .val (.ref la1), .val (.ref b2_b84), .unset]) (by rw [hml]; rfl) (argsL := [(.ref la1)]) (rest := []) (lenOf pd_14 rfl) (hb hby at_101) (W := 0)
  obtain ⟨b7_b84, rfl, Nq7, K7, o7_0, o7_1, o7_2⟩ := hQ7
  have N7 := Fr.app N2 Nq7
  have s2 := K7.1
  have Ex8 := (o2_1.keep K7)
  have Fl9 := (o2_2.keep K7 nin0)
  have z3 := Nat.le_trans Z0 (Nat.le_trans (Nat.le_trans s0 s1) s2)
  obtain ⟨_, T10, L10, X10, hQ10, st10⟩ := own_virtual X7 hx hZ1 hown1 (y := y_17) (z := y_17) Ex8 (w_86 hw) (w_87 hw) (notFace_of_selects (args := #[]) (mvT hZ1 (w_89 hw))) (w_89 hw) (w_88 hw) (w_36 hw) (w_90 hw) (rm21 l Z a0 hw [] b2_b84 la1 T7.heap n0 z3 Fl9) rfl (Ls := #[.val (.int p1), .val (.int p2), .val (.int p3), .val (.int p4), .val (.int (3 : Int32)), .val (.ref la1), .val (.ref la1), .val (.ref b2_b84), .val (.ref b7_b84)]) (by rw [hml]; rfl) (argsL := []) (rest := []) (lenOf pd_15 rfl) (hb hby at_113) (W := 0)
  obtain ⟨rfl, Nq10, e10⟩ := hQ10
  have N10 := Fr.app N7 Nq10
  have Ex11 := (Ex3.keep K7)
  obtain ⟨_, T12, L12, X12, hQ12, st12⟩ := own_virtual X10 hx hZ1 hown1 (y := y_18) (z := y_18) Ex11 (w_91 hw) (w_92 hw) (notFace_of_selects (args := #[]) (mvT hZ1 (w_94 hw))) (w_94 hw) (w_93 hw) (w_7 hw) (w_95 hw) (rm22 l Z a0 hw [] la1 T7.heap n0 z3) e10 (Ls := #[.val (.int p1), .val (.int p2), .val (.int p3), .val (.int p4), .val (.int (3 : Int32)), .val (.ref la1), .val (.ref la1), .val (.ref b2_b84), .val (.ref b7_b84)]) (by rw [hml]; rfl) (argsL := [(.ref la1)]) (rest := []) (lenOf pd_16 rfl) (hb hby at_118) (W := 0)
  obtain ⟨rfl, Nq12, e12⟩ := hQ12
  have N12 := Fr.app N10 Nq12
  obtain ⟨_, T13, L13, X13, hQ13, st13⟩ := own_virtual X12 hx hZ1 hown1 (y := y_17) (z := y_17) Ex8 (w_86 hw) (w_87 hw) (notFace_of_selects (args := #[]) (mvT hZ1 (w_89 hw))) (w_89 hw) (w_88 hw) (w_36 hw) (w_90 hw) (rm21 l Z a0 hw [] b2_b84 la1 T7.heap n0 z3 Fl9) e12 (Ls := #[.val (.int p1), .val (.int p2), .val (.int p3), .val (.int p4), .val (.int (3 : Int32)), .val (.ref la1), .val (.ref la1), .val (.ref b2_b84), .val (.ref b7_b84)]) (by rw [hml]; rfl) (argsL := []) (rest := []) (lenOf pd_15 rfl) (hb hby at_126) (W := 0)
  obtain ⟨rfl, Nq13, e13⟩ := hQ13
  have N13 := Fr.app N12 Nq13
  have Fl14 := (Fl4.keep K7 nin0)
  have Va15 := (Va5.keep K7 nin0)
  have Od3 : Old Z n0 T7.heap := Od2.keep K7 all0
  have Fl16 := (Fl6.keep K7 nin0)
  obtain ⟨_, T17, L17, X17, hQ17, st17⟩ := own_virtual X13 hx hZ1 hown1 (y := y_8) (z := y_8) Ex11 (w_96 hw) (w_44 hw) (notFace_of_selects (args := #[]) (mvT hZ1 (w_46 hw))) (w_46 hw) (w_45 hw) (w_7 hw) (w_47 hw) (rm59 l Z a0 hw [] la1 b1 [(.int (65 : Int32)), (.int (66 : Int32)), (.int (67 : Int32)), (.int (68 : Int32)), (.int (69 : Int32)), (.int (70 : Int32)), (.int (71 : Int32)), (.int (72 : Int32)), (.int (73 : Int32)), (.int (74 : Int32)), (.int (75 : Int32)), (.int (76 : Int32)), (.int (77 : Int32)), (.int (78 : Int32)), (.int (79 : Int32)), (.int (80 : Int32)), (.int (81 : Int32)), (.int (82 : Int32)), (.int (83 : Int32)), (.int (84 : Int32)), (.int (85 : Int32)), (.int (86 : Int32)), (.int (87 : Int32)), (.int (88 : Int32)), (.int (89 : Int32)), (.int (90 : Int32)), (.int (97 : Int32)), (.int (98 : Int32)), (.int (99 : Int32)), (.int (100 : Int32)), (.int (101 : Int32)), (.int (102 : Int32)), (.int (103 : Int32)), (.int (104 : Int32)), (.int (105 : Int32)), (.int (106 : Int32)), (.int (107 : Int32)), (.int (108 : Int32)), (.int (109 : Int32)), (.int (110 : Int32)), (.int (111 : Int32)), (.int (112 : Int32)), (.int (113 : Int32)), (.int (114 : Int32)), (.int (115 : Int32)), (.int (116 : Int32)), (.int (117 : Int32)), (.int (118 : Int32)), (.int (119 : Int32)), (.int (120 : Int32)), (.int (121 : Int32)), (.int (122 : Int32)), (.int (48 : Int32)), (.int (49 : Int32)), (.int (50 : Int32)), (.int (51 : Int32)), (.int (52 : Int32)), (.int (53 : Int32)), (.int (54 : Int32)), (.int (55 : Int32)), (.int (56 : Int32)), (.int (57 : Int32)), (.int (45 : Int32)), (.int (95 : Int32)), (.int (48 : Int32)), (.int (49 : Int32)), (.int (50 : Int32)), (.int (51 : Int32)), (.int (52 : Int32)), (.int (53 : Int32)), (.int (54 : Int32)), (.int (55 : Int32)), (.int (56 : Int32)), (.int (57 : Int32)), (.int (97 : Int32)), (.int (98 : Int32)), (.int (99 : Int32)), (.int (100 : Int32)), (.int (101 : Int32)), (.int (102 : Int32))] k1 si2 T7.heap n0 z3 Fl14 Va15 Ex11 S5_COMPACT_STRINGS Od3 nc3 Fl16) e13 (Ls := #[.val (.int p1), .val (.int p2), .val (.int p3), .val (.int p4), .val (.int (3 : Int32)), .val (.ref la1), .val (.ref la1), .val (.ref b2_b84), .val (.ref b7_b84)]) (by rw [hml]; rfl) (argsL := []) (rest := []) (lenOf pd_8 rfl) (hb hby at_129) (W := 0)
  obtain ⟨rfl, Nq17, e17⟩ := hQ17
  have N17 := Fr.app N13 Nq17
  obtain ⟨_, T18, L18, X18, hQ18, st18⟩ := own_virtual X17 hx hZ1 hown1 (y := y_8) (z := y_8) Ex11 (w_96 hw) (w_44 hw) (notFace_of_selects (args := #[]) (mvT hZ1 (w_46 hw))) (w_46 hw) (w_45 hw) (w_7 hw) (w_47 hw) (rm59 l Z a0 hw [] la1 b1 [(.int (65 : Int32)), (.int (66 : Int32)), (.int (67 : Int32)), (.int (68 : Int32)), (.int (69 : Int32)), (.int (70 : Int32)), (.int (71 : Int32)), (.int (72 : Int32)), (.int (73 : Int32)), (.int (74 : Int32)), (.int (75 : Int32)), (.int (76 : Int32)), (.int (77 : Int32)), (.int (78 : Int32)), (.int (79 : Int32)), (.int (80 : Int32)), (.int (81 : Int32)), (.int (82 : Int32)), (.int (83 : Int32)), (.int (84 : Int32)), (.int (85 : Int32)), (.int (86 : Int32)), (.int (87 : Int32)), (.int (88 : Int32)), (.int (89 : Int32)), (.int (90 : Int32)), (.int (97 : Int32)), (.int (98 : Int32)), (.int (99 : Int32)), (.int (100 : Int32)), (.int (101 : Int32)), (.int (102 : Int32)), (.int (103 : Int32)), (.int (104 : Int32)), (.int (105 : Int32)), (.int (106 : Int32)), (.int (107 : Int32)), (.int (108 : Int32)), (.int (109 : Int32)), (.int (110 : Int32)), (.int (111 : Int32)), (.int (112 : Int32)), (.int (113 : Int32)), (.int (114 : Int32)), (.int (115 : Int32)), (.int (116 : Int32)), (.int (117 : Int32)), (.int (118 : Int32)), (.int (119 : Int32)), (.int (120 : Int32)), (.int (121 : Int32)), (.int (122 : Int32)), (.int (48 : Int32)), (.int (49 : Int32)), (.int (50 : Int32)), (.int (51 : Int32)), (.int (52 : Int32)), (.int (53 : Int32)), (.int (54 : Int32)), (.int (55 : Int32)), (.int (56 : Int32)), (.int (57 : Int32)), (.int (45 : Int32)), (.int (95 : Int32)), (.int (48 : Int32)), (.int (49 : Int32)), (.int (50 : Int32)), (.int (51 : Int32)), (.int (52 : Int32)), (.int (53 : Int32)), (.int (54 : Int32)), (.int (55 : Int32)), (.int (56 : Int32)), (.int (57 : Int32)), (.int (97 : Int32)), (.int (98 : Int32)), (.int (99 : Int32)), (.int (100 : Int32)), (.int (101 : Int32)), (.int (102 : Int32))] k1 si2 T7.heap n0 z3 Fl14 Va15 Ex11 S5_COMPACT_STRINGS Od3 nc3 Fl16) e17 (Ls := #[.val (.int p1), .val (.int p2), .val (.int p3), .val (.int p4), .val (.int (3 : Int32)), .val (.ref la1), .val (.ref la1), .val (.ref b2_b84), .val (.ref b7_b84)]) (by rw [hml]; rfl) (argsL := []) (rest := [(.int (80 : Int32))]) (lenOf pd_8 rfl) (hb hby at_134) (W := 1)
  obtain ⟨rfl, Nq18, e18⟩ := hQ18
  have N18 := Fr.app N17 Nq18
  obtain ⟨_, T19, L19, X19, hQ19, st19⟩ := own_virtual X18 hx hZ1 hown1 (y := y_20) (z := y_20) Ex8 (w_97 hw) (w_98 hw) (notFace_of_selects (args := #[]) (mvT hZ1 (w_100 hw))) (w_100 hw) (w_99 hw) (w_36 hw) (w_101 hw) (rm61 l Z a0 hw [] b2_b84 b7_b84 la1 T7.heap n0 z3 o7_1 Fl9 o7_2 Ex11) e18 (Ls := #[.val (.int p1), .val (.int p2), .val (.int p3), .val (.int p4), .val (.int (3 : Int32)), .val (.ref la1), .val (.ref la1), .val (.ref b2_b84), .val (.ref b7_b84)]) (by rw [hml]; rfl) (argsL := [(.ref b7_b84)]) (rest := []) (lenOf pd_16 rfl) (hb hby at_144) (W := 0)
  obtain ⟨rfl, Nq19, e19⟩ := hQ19
  have N19 := Fr.app N18 Nq19
  refine ⟨T19, _, _, _, (some (.int (1 : Int32))), T1.vm, kn1, X19, Sn1, (by rw [e19]; exact Nat.le_trans kl1 (Nat.le_trans s1 s2)), nofun, by decide, by decide, ?_, fun fs hr => ?_⟩
  · show Q0 n0 _ T19.heap _
    rw [e19]
    exact ⟨rfl, N19⟩
  · show Steps p.tables e below (s₁.setTop (mkF m 0 #[.val (.int p1), .val (.int p2), .val (.int p3), .val (.int p4), .unset, .unset, .unset, .unset, .unset] [])) _
    refine XS.iloadN X0.here hx rfl (hb hby at_0) rfl ?_
    refine XS.iconst X0.here hx rfl (hb hby at_1) ?_
    refine XS.iand X0.here hx rfl (hb hby at_2) rfl ?_
    show Steps p.tables e below (s₁.setTop (mkF m 3 #[.val (.int p1), .val (.int p2), .val (.int p3), .val (.int p4), .unset, .unset, .unset, .unset, .unset] [(.int (p4 &&& (3 : Int32)))])) _
    rw [hk]
    refine XS.istore X0.here hx rfl (hb hby at_3) rfl (l' := #[.val (.int p1), .val (.int p2), .val (.int p3), .val (.int p4), .val (.int (3 : Int32)), .unset, .unset, .unset, .unset]) rfl ?_
    refine XS.iload X0.here hx rfl (hb hby at_5) rfl ?_
    refine XS.iconst X0.here hx rfl (hb hby at_7) ?_
    refine XS.icmpNo X0.here hx rfl (hb hby at_8) rfl (teq ((by decide : (3 : Int32) = (3 : Int32)) : (3 : Int32) = (3 : Int32))).2 ?_
    refine st1 _ ?_
    refine XS.astore X1.here hx rfl (hb hby at_13) rfl rfl (l' := #[.val (.int p1), .val (.int p2), .val (.int p3), .val (.int p4), .val (.int (3 : Int32)), .val (.ref la1), .unset, .unset, .unset]) rfl ?_
    refine ldcAgain X1 hx hZ1 hown1 (w_108 hw) Lt1 (g := (mkF m 15 #[.val (.int p1), .val (.int p2), .val (.int p3), .val (.int p4), .val (.int (3 : Int32)), .val (.ref la1), .unset, .unset, .unset] [])) rfl (hb hby at_15) _ ?_
    refine XS.astore X1.here hx rfl (hb hby at_17) rfl rfl (l' := #[.val (.int p1), .val (.int p2), .val (.int p3), .val (.int p4), .val (.int (3 : Int32)), .val (.ref la1), .val (.ref la1), .unset, .unset]) rfl ?_
    refine XS.goto X1.here hx rfl (pc0 := 19) (pc' := 92) rfl (hb hby at_19) (by decide) (by decide) ?_
    refine XS.aload X1.here hx rfl (hb hby at_92) rfl rfl ?_
    refine st2 _ ?_
    show Steps p.tables e below (T2.setTop (mkF m 97 #[.val (.int p1), .val (.int p2), .val (.int p3), .val (.int p4), .val (.int (3 : Int32)), .val (.ref la1), .val (.ref la1), .unset, .unset] [(.ref b2_b84)])) _
    refine XS.astore X2.here hx rfl (hb hby at_97) rfl rfl (l' := #[.val (.int p1), .val (.int p2), .val (.int p3), .val (.int p4), .val (.int (3 : Int32)), .val (.ref la1), .val (.ref la1), .val (.ref b2_b84), .unset]) rfl ?_
    refine XS.aload X2.here hx rfl (hb hby at_99) rfl rfl ?_
    refine st7 _ ?_
    refine XS.astore X7.here hx rfl (hb hby at_104) rfl rfl (l' := #[.val (.int p1), .val (.int p2), .val (.int p3), .val (.int p4), .val (.int (3 : Int32)), .val (.ref la1), .val (.ref la1), .val (.ref b2_b84), .val (.ref b7_b84)]) rfl ?_
    refine XS.aload X7.here hx rfl (hb hby at_106) rfl rfl ?_
    refine XS.ifnullNo X7.here hx rfl (hb hby at_108) rfl ?_
    refine XS.aload X7.here hx rfl (hb hby at_111) rfl rfl ?_
    refine st10 _ ?_
    refine XS.aload X10.here hx rfl (hb hby at_116) rfl rfl ?_
    refine st12 _ ?_
    refine XS.ifNo X12.here hx rfl (hb hby at_121) rfl ((if0 _ _).trans (feq ((by decide : ¬ ((1 : Int32) = (0 : Int32))) : ¬ ((1 : Int32) = (0 : Int32)))).1) ?_
    refine XS.aload X12.here hx rfl (hb hby at_124) rfl rfl ?_
    show Steps p.tables e below (T12.setTop (mkF m 126 #[.val (.int p1), .val (.int p2), .val (.int p3), .val (.int p4), .val (.int (3 : Int32)), .val (.ref la1), .val (.ref la1), .val (.ref b2_b84), .val (.ref b7_b84)] [(.ref b2_b84)])) _
    refine st13 _ ?_
    refine st17 _ ?_
    refine XS.aload X17.here hx rfl (hb hby at_132) rfl rfl ?_
    refine st18 _ ?_
    refine XS.icmpNo X18.here hx rfl (hb hby at_137) rfl (teq ((by decide : (80 : Int32) = (80 : Int32)) : (80 : Int32) = (80 : Int32))).2 ?_
    refine XS.aload X18.here hx rfl (hb hby at_140) rfl rfl ?_
    refine XS.aload X18.here hx rfl (hb hby at_142) rfl rfl ?_
    refine st19 _ ?_
    refine XS.ifNo X19.here hx rfl (hb hby at_147) rfl ((if0 _ _).trans (feq ((by decide : ¬ ((1 : Int32) = (0 : Int32))) : ¬ ((1 : Int32) = (0 : Int32)))).1) ?_
    refine XS.iconst X19.here hx rfl (hb hby at_150) ?_
    refine XS.goto X19.here hx rfl (pc0 := 151) (pc' := 155) rfl (hb hby at_151) (by decide) (by decide) ?_
    exact retN X19 hx (t := .boolean) hret (by simp) (hb hby at_155) hr
theorem own_k4 (p4 : Int32) : (p4 &&& (3 : Int32)) = (0 : Int32) ∨ (p4 &&& (3 : Int32)) = (1 : Int32) ∨ (p4 &&& (3 : Int32)) = (2 : Int32) ∨ (p4 &&& (3 : Int32)) = (3 : Int32) := by
  have h2 := own_mask p4 (3 : Int32) 2 (by decide) (by decide) 4 (by decide)
  have h3 : ((p4 &&& (3 : Int32))).toInt = 0 ∨ ((p4 &&& (3 : Int32))).toInt = 1 ∨ ((p4 &&& (3 : Int32))).toInt = 2 ∨ ((p4 &&& (3 : Int32))).toInt = 3 := by omega
  rcases h3 with h | h | h | h
  · exact Or.inl (Int32.toInt_inj.mp h)
  · exact Or.inr (Or.inl (Int32.toInt_inj.mp h))
  · exact Or.inr (Or.inr (Or.inl (Int32.toInt_inj.mp h)))
  · exact Or.inr (Or.inr (Or.inr (Int32.toInt_inj.mp h)))
theorem rm0 (l : Launch) (Z : State) (a0 : Array Value) (hw : ∀ d ∈ tables_1, d.before a0 Z = true) (ws : List Jvm.Cond) (p1 : Int32) (p2 : Int32) (p3 : Int32) (p4 : Int32) (sr1 : Value) (si2 : Int32) (h0 : Heap) (n0 : Nat) (Z0 : n0 ≤ h0.size) (Od0 : Old Z n0 h0) (R_sr1 : sr1.isRef = true) (nc3 : ¬ (si2 = (0 : Int32))) (S4_SIOOBE_FORMATTER : Sta Z Z.heap "jdk/internal/util/Preconditions" "SIOOBE_FORMATTER" "Ljava/util/function/BiFunction;" sr1) (S5_COMPACT_STRINGS : Sta Z Z.heap "java/lang/String" "COMPACT_STRINGS" "Z" (.int si2)) (hn0 : n0 = h0.size) (hcw : Jvm.Lit.compactW.before a0 Z = true) (hch_7 : Jvm.Lit.constHeld Z "com/example/bare_queue/barequeue/QueueNameOfPinLaw" 7) :
    OwnMetW l Z x code maxLocals ret ws room_1 #[(.int p1), (.int p2), (.int p3), (.int p4)] h0 (Q0 n0) := by
  rcases own_k4 p4 with hk | hk | hk | hk
  · exact own_wide (rm0_0 l Z a0 hw ws p1 p2 p3 p4 sr1 si2 h0 n0 Z0 Od0 R_sr1 nc3 S4_SIOOBE_FORMATTER S5_COMPACT_STRINGS hk hn0 hcw hch_7)
  · exact own_wide (rm0_1 l Z a0 hw ws p1 p2 p3 p4 sr1 si2 h0 n0 Z0 Od0 R_sr1 nc3 S4_SIOOBE_FORMATTER S5_COMPACT_STRINGS hk hn0 hcw hch_7)
  · exact own_wide (rm0_2 l Z a0 hw ws p1 p2 p3 p4 sr1 si2 h0 n0 Z0 Od0 R_sr1 nc3 S4_SIOOBE_FORMATTER S5_COMPACT_STRINGS hk hn0 hcw hch_7)
  · exact rm0_3 l Z a0 hw ws p1 p2 p3 p4 sr1 si2 h0 n0 Z0 Od0 R_sr1 nc3 S4_SIOOBE_FORMATTER S5_COMPACT_STRINGS hk hn0 hcw hch_7
theorem comes_1 {Post : Tables → Env → Array Value → State → Outcome → State → Prop} (hpost : ∀ tb e args s v u, (limb_1_1.after args s (.returned v) u = true ∧ limb_1_2.after args s (.returned v) u = true ∧ True) → ReturnedEndW s (.returned v) u (Jvm.fieldLocs frame_1_writes args s ++ Jvm.arrayLocs frame_1_arrays args s ++ Jvm.staticLocs frame_1_statics s) 24 1152 → Post tb e args s (.returned v) u) :
    ArmFor flags0 classFile x code maxLocals ret World_1 tables_1 room_1 Calls_1 rest_1 Pre_1 Post := by
  intro l hfl _ _ p e ha hc hk s m args below hf hA hF happ hP
  obtain ⟨hcalls, hrest, hpre⟩ := hP
  obtain ⟨-, -, -, hnamed, -, -, -, hat⟩ := (Spec.applies_iff hf).mp happ
  obtain ⟨hg, hn⟩ := and_e (Cond.before_iff.mp (show (Jvm.Cond.and given_1 narrow_1).before args s = true from hpre))
  obtain ⟨hg0, hr0⟩ := and_e hg
  obtain ⟨hg1, hr1⟩ := and_e hr0
  obtain ⟨hg2, hr2⟩ := and_e hr1
  obtain ⟨hg3, hr3⟩ := and_e hr2
  obtain ⟨w0, w1, w2, w3, rfl⟩ : ∃ w0 w1 w2 w3 : Value, args = #[w0, w1, w2, w3] := by
    have hs : args.size = 4 := by simpa [Cond.value, given_1] using hg0
    obtain ⟨L⟩ := args
    match L, hs with
    | [w0, w1, w2, w3], _ => exact ⟨w0, w1, w2, w3, rfl⟩
  have hw := fun d (hd : d ∈ tables_1) => atoms_spec (ws := Jvm.Cond.code x code maxLocals ret :: tables_1) hat d (List.mem_cons_of_mem _ hd)
  have hfit : Fit s := fun {y c} hc i hi => by
    obtain ⟨ha, rfl⟩ := Array.getElem?_eq_some_iff.mp hc
    have q := List.all_eq_true.mp ((Array.all_eq_true_iff_forall_mem.mp hF) _ (Array.getElem_mem ha)) i (List.mem_range.mpr hi)
    simpa [Array.getElem?_eq_getElem hi] using q
  obtain ⟨hsets, hown0⟩ := atoms_of _ (rest_1_c_eq ▸ (show rest_1_c.before _ s = true from hrest))
  have hro := Cond.before_iff.mp hown0
  obtain ⟨p1, ei0⟩ := is_v hg1
  obtain rfl : w0 = (.int p1) := Option.some.inj ei0
  obtain ⟨p2, ei1⟩ := is_v hg2
  obtain rfl : w1 = (.int p2) := Option.some.inj ei1
  obtain ⟨p3, ei2⟩ := is_v hg3
  obtain rfl : w2 = (.int p3) := Option.some.inj ei2
  obtain ⟨p4, ei3⟩ := is_v hr3
  obtain rfl : w3 = (.int p4) := Option.some.inj ei3
  obtain ⟨sr1, ev_sr1, R_sr1⟩ := isR_v (Cond.before_iff.mp (hsets _ (List.mem_of_getElem? (i := 8) rfl)))
  obtain ⟨si2, ev_si2⟩ := is_v (Cond.before_iff.mp (hsets _ (List.mem_of_getElem? (i := 1) rfl)))
  have nc3 : ¬ (si2 = (0 : Int32)) := gotF (Cond.eq_ints ev_si2 (Term.int_eval (0))) (not_v (Cond.before_iff.mp (hsets _ (List.mem_of_getElem? (i := 2) rfl))))
  have S4_SIOOBE_FORMATTER : Sta s s.heap "jdk/internal/util/Preconditions" "SIOOBE_FORMATTER" "Ljava/util/function/BiFunction;" sr1 := Sta.start ev_sr1 (Or.inl (hsets _ (List.mem_of_getElem? (i := 7) rfl)))
  have S5_COMPACT_STRINGS : Sta s s.heap "java/lang/String" "COMPACT_STRINGS" "Z" (.int si2) := Sta.start ev_si2 (Or.inl (hsets _ (List.mem_of_getElem? (i := 0) rfl)))
  have hch_7 : Jvm.Lit.constHeld s "com/example/bare_queue/barequeue/QueueNameOfPinLaw" 7 := (show Jvm.D.pconstsHeld consts_1 p.tables e _ s from hcalls.1) ("com/example/bare_queue/barequeue/QueueNameOfPinLaw", 7) (List.mem_of_getElem? (i := 0) rfl)
  obtain ⟨n, o, h1, h2, h3, _, L, rfl, ⟨rfl, N⟩, hq⟩ := rm0 l s _ hw tables_1 p1 p2 p3 p4 sr1 si2 s.heap s.heap.size (Nat.le_refl _) (Old.start s) R_sr1 nc3 S4_SIOOBE_FORMATTER S5_COMPACT_STRINGS rfl (hsets _ (List.mem_of_getElem? (i := 2) rfl)) hch_7 p e ha hc hk s m _ below hf ((Spec.applies_iff_loose hf).mp happ).1 ⟨rfl, State.Warmed39.refl s, rfl, IB.start⟩ trivial
  refine ⟨n, _, h1, h2, h3, hpost _ _ _ _ _ _ ⟨Cond.after_iff.mpr rfl, Cond.after_iff.mpr (eq_i res_at (Term.int_eval (1)) rfl), trivial⟩ ⟨hq.1, hq.2.1, hq.2.2.1, (hq.2.2.2.sift fun y hy => Or.inr (N y hy)).mono (by decide) (by decide)⟩⟩
theorem main_1_1 : Claimed_1_1 := comes_1 fun _ _ _ _ _ _ h hF => ⟨h.1, hF⟩
theorem main_1_2 : Claimed_1_2 := comes_1 fun _ _ _ _ _ _ h hF => ⟨h.2.1, hF⟩
end Jvm.Pilot.@@N@@
namespace Jvm.Pilot.@@N@@
open Jvm Jvm.ClassFile Sem Op Lib Jvm.Free Jvm.Stand Jvm.Pilot.@@N@@.Jvm.D
/-! MADE BY PROGRAM (witnessworld.py) out of the Statement's table words and the real class files: 20 classes; the members and pool entries that the words name. The judged class is class 1, her method 2. -/
namespace start1
open Jvm.ClassFile
def u (s : String) : CpInfo := .utf8 (stringToUtf16 s)
/-- a pool by its gaps: so many unusable entries, then the entry; so many at the end -/
def gap : Nat → List CpInfo → List CpInfo
  | 0, r => r
  | n + 1, r => .unusable :: gap n r
def poolList (es : List (Nat × CpInfo)) (last : Nat) : List CpInfo := es.foldr (fun e r => gap e.1 (e.2 :: r)) (gap last [])
def pool (es : List (Nat × CpInfo)) (last : Nat) : Array CpInfo := ⟨poolList es last⟩
def fileOf (pool : Array CpInfo) (this : Nat) (attrs : Array Attribute := #[]) (ms : Array MethodInfo := #[]) (fl : Nat := 33) (sup : Nat := 0) (ifs : Array Nat := #[]) (fds : Array FieldInfo := #[]) : ClassFile where
  minorVersion := 0
  majorVersion := 65
  constantPool := pool
  accessFlags := fl
  thisClass := this
  superClass := sup
  interfaces := ifs
  fields := fds
  methods := ms
  attributes := attrs
def plain (name : String) (sup : Option ClassId) : Class where
  name := name
  kind := .ordinary
  loader := none
  accessFlags := 33
  super := sup
  interfaces := #[]
  cf := none
  fields := #[]
  methods := #[]
  instanceTypes := #[]
  staticTypes := #[]
  resolved := #[]
  callSites := []
  init := .initialized
  statics := none
  mirror := none

def pool0 : Array CpInfo := pool [(5, u "<init>"), (0, u "()V"), (1, .class_ 10), (1, u "java/lang/Object")] 113

def k0c0 : Code := { maxStack := 0, maxLocals := 1, code := object_method_1_code, exceptionTable := #[], attributes := #[] }
def k0m0 : Method := { name := "<init>", desc := "()V", sig := { parameters := [], returnType := none }, accessFlags := 1, code := some k0c0 }
/-- java/lang/Object -/
def k0 : Class := { plain "java/lang/Object" none with
  accessFlags := 33
  interfaces := #[]
  cf := some (fileOf pool0 8 #[] #[{ accessFlags := 1, nameIndex := 5, descriptorIndex := 6, attributes := #[] }] 33 0 #[] #[])
  fields := #[]
  methods := #[k0m0]
  instanceTypes := #[]
  staticTypes := #[]
  resolved := Array.replicate 124 none
  statics := none }

def pool1 : Array CpInfo := pool [(2, .class_ 4), (1, u "java/lang/Object"), (0, u "<init>"), (0, u "()V"), (0, .string 8), (0, u "ABCDEFGHIJKLMNOPQRSTUVWXYZabcdefghijklmnopqrstuvwxyz0123456789-_0123456789abcdef"), (0, .methodref 10 11), (0, .class_ 12), (0, .nameAndType 13 14), (0, u "com/example/bare_queue/barequeue/QueueNameOfPinLaw"), (0, u "ch"), (0, u "(I)C"), (0, .class_ 16), (0, u "java/lang/String"), (0, .methodref 15 18), (0, .nameAndType 5 19), (0, u "([C)V"), (0, .methodref 21 22), (0, .class_ 23), (0, .nameAndType 24 25), (0, u "com/example/bare_queue/barequeue/QueueName"), (0, u "of"), (0, u "(Ljava/lang/String;)Lcom/example/bare_queue/barequeue/QueueName;"), (0, .methodref 21 27), (0, .nameAndType 28 29), (0, u "getValue"), (0, u "()Ljava/lang/String;"), (0, .methodref 15 31), (0, .nameAndType 32 33), (0, u "equals"), (0, u "(Ljava/lang/Object;)Z"), (0, .methodref 15 35), (0, .nameAndType 36 37), (0, u "length"), (0, u "()I"), (0, .methodref 21 31), (3, u "law"), (0, u "(IIII)Z")] 4

def k1m0 : Method := { name := "<init>", desc := "()V", sig := { parameters := [], returnType := none }, accessFlags := 1, code := none }
def k1c1 : Code := { maxStack := 3, maxLocals := 2, code := method_2_code, exceptionTable := #[], attributes := #[] }
def k1m1 : Method := { name := "ch", desc := "(I)C", sig := { parameters := [.int], returnType := some .char }, accessFlags := 10, code := some k1c1 }
def k1c2 : Code := { maxStack := 3, maxLocals := 9, code := code, exceptionTable := #[], attributes := #[] }
def k1m2 : Method := { name := "law", desc := "(IIII)Z", sig := { parameters := [.int, .int, .int, .int], returnType := some .boolean }, accessFlags := 9, code := some k1c2 }
/-- com/example/bare_queue/barequeue/QueueNameOfPinLaw -/
def k1 : Class := { plain "com/example/bare_queue/barequeue/QueueNameOfPinLaw" (some 0) with
  accessFlags := 49
  interfaces := #[]
  cf := some (fileOf pool1 10 #[] #[{ accessFlags := 1, nameIndex := 5, descriptorIndex := 6, attributes := #[] }, { accessFlags := 10, nameIndex := 13, descriptorIndex := 14, attributes := #[] }, { accessFlags := 9, nameIndex := 42, descriptorIndex := 43, attributes := #[] }] 49 2 #[] #[])
  fields := #[]
  methods := #[k1m0, k1m1, k1m2]
  instanceTypes := #[]
  staticTypes := #[]
  resolved := Array.replicate 48 none
  statics := none }

def pool2 : Array CpInfo := pool [(1, .class_ 2), (0, u "java/io/Serializable"), (0, .class_ 4), (0, u "java/lang/Object")] 2

/-- java/io/Serializable -/
def k2 : Class := { plain "java/io/Serializable" (some 0) with
  accessFlags := 1537
  interfaces := #[]
  cf := some (fileOf pool2 1 #[] #[] 1537 3 #[] #[])
  fields := #[]
  methods := #[]
  instanceTypes := #[]
  staticTypes := #[]
  resolved := Array.replicate 7 none
  statics := none }

def pool3 : Array CpInfo := pool [(1, .class_ 2), (0, u "java/lang/Comparable"), (0, .class_ 4), (0, u "java/lang/Object")] 7

/-- java/lang/Comparable -/
def k3 : Class := { plain "java/lang/Comparable" (some 0) with
  accessFlags := 1537
  interfaces := #[]
  cf := some (fileOf pool3 1 #[] #[] 1537 3 #[] #[])
  fields := #[]
  methods := #[]
  instanceTypes := #[]
  staticTypes := #[]
  resolved := Array.replicate 12 none
  statics := none }

def pool4 : Array CpInfo := pool [(2, .class_ 4), (1, u "java/lang/CharSequence"), (42, .class_ 48), (0, u "java/lang/CharSequence$1CodePointIterator"), (10, .class_ 60), (0, u "java/lang/CharSequence$1CharIterator"), (5, .class_ 67), (0, u "java/lang/Object")] 63

/-- java/lang/CharSequence -/
def k4 : Class := { plain "java/lang/CharSequence" (some 0) with
  accessFlags := 1537
  interfaces := #[]
  cf := some (fileOf pool4 2 #[.nestMembers #[47, 59]] #[] 1537 66 #[] #[])
  fields := #[]
  methods := #[]
  instanceTypes := #[]
  staticTypes := #[]
  resolved := Array.replicate 131 none
  statics := none }

def pool5 : Array CpInfo := pool [(1, .class_ 2), (0, u "java/lang/constant/Constable"), (0, .class_ 4), (0, u "java/lang/Object")] 6

/-- java/lang/constant/Constable -/
def k5 : Class := { plain "java/lang/constant/Constable" (some 0) with
  accessFlags := 1537
  interfaces := #[]
  cf := some (fileOf pool5 1 #[] #[] 1537 3 #[] #[])
  fields := #[]
  methods := #[]
  instanceTypes := #[]
  staticTypes := #[]
  resolved := Array.replicate 11 none
  statics := none }

def pool6 : Array CpInfo := pool [(1, .class_ 2), (0, u "java/lang/constant/ConstantDesc"), (0, .class_ 4), (0, u "java/lang/Object")] 32

/-- java/lang/constant/ConstantDesc -/
def k6 : Class := { plain "java/lang/constant/ConstantDesc" (some 0) with
  accessFlags := 1537
  interfaces := #[]
  cf := some (fileOf pool6 1 #[] #[] 1537 3 #[] #[])
  fields := #[]
  methods := #[]
  instanceTypes := #[]
  staticTypes := #[]
  resolved := Array.replicate 37 none
  statics := none }

def pool7 : Array CpInfo := pool [(1, .methodref 2 3), (0, .class_ 4), (0, .nameAndType 5 6), (0, u "java/lang/Object"), (0, u "<init>"), (0, u "()V"), (2, .fieldref 10 11), (0, .class_ 12), (0, .nameAndType 13 14), (0, u "java/lang/String"), (0, u "value"), (0, u "[B"), (0, .fieldref 10 16), (0, .nameAndType 17 18), (0, u "coder"), (0, u "B"), (2, u "hash"), (0, u "I"), (2, u "hashIsZero"), (0, u "Z"), (0, .methodref 10 28), (0, .nameAndType 5 29), (0, u "([CIILjava/lang/Void;)V"), (8, .fieldref 10 39), (0, .nameAndType 40 26), (0, u "COMPACT_STRINGS"), (1, .class_ 44), (1, u "java/lang/StringUTF16"), (0, u "compress"), (1, .methodref 42 48), (0, .nameAndType 49 50), (0, u "coderFromArrayLen"), (0, u "([BI)B"), (56, .class_ 109), (1, u "java/lang/StringLatin1"), (32, u "()Z"), (34, .methodref 42 178), (0, .nameAndType 45 179), (0, u "([CII)[B"), (154, u "()I"), (0, .methodref 10 336), (0, .nameAndType 17 337), (0, u "()B"), (25, u "([BI)C"), (27, u "(II)V"), (35, u "(I)C"), (64, .methodref 10 493), (0, .nameAndType 494 142), (0, u "isLatin1"), (0, .methodref 107 496), (0, .nameAndType 497 363), (0, u "charAt"), (3, u "checkIndex"), (5, u "length"), (33, .methodref 107 542), (0, .nameAndType 543 544), (0, u "equals"), (0, u "([B[B)Z"), (28, u "(Ljava/lang/Object;)Z"), (1, .class_ 576), (0, u "java/lang/CharSequence"), (22, u "CASE_INSENSITIVE_ORDER"), (0, u "Ljava/util/Comparator;"), (91, u "isEmpty"), (317, u "([C)V"), (42, .fieldref 1054 1055), (0, .class_ 1056), (0, .nameAndType 1057 1058), (0, u "jdk/internal/util/Preconditions"), (0, u "SIOOBE_FORMATTER"), (0, u "Ljava/util/function/BiFunction;"), (0, .methodref 1054 1060), (0, .nameAndType 501 1061), (0, u "(IILjava/util/function/BiFunction;)I"), (39, u "serialPersistentFields"), (0, u "[Ljava/io/ObjectStreamField;"), (0, .class_ 1104), (0, u "java/lang/String$CaseInsensitiveComparator"), (1, .class_ 1107), (0, u "java/io/Serializable"), (0, .class_ 1109), (0, u "java/lang/Comparable"), (0, .class_ 1111), (0, u "java/lang/constant/Constable"), (0, .class_ 1113), (0, u "java/lang/constant/ConstantDesc"), (2, u "serialVersionUID"), (0, u "J"), (3, u "REPL"), (0, u "C"), (2, u "LATIN1"), (1, u "UTF16")] 323

def k7m0 : Method := { name := "<init>", desc := "()V", sig := { parameters := [], returnType := none }, accessFlags := 1, code := none }
def k7c1 : Code := { maxStack := 5, maxLocals := 2, code := jdk_42_method_3_code, exceptionTable := #[], attributes := #[] }
def k7m1 : Method := { name := "<init>", desc := "([C)V", sig := { parameters := [(.array .char)], returnType := none }, accessFlags := 1, code := some k7c1 }
def k7c2 : Code := { maxStack := 2, maxLocals := 1, code := jdk_42_method_54_code, exceptionTable := #[], attributes := #[] }
def k7m2 : Method := { name := "length", desc := "()I", sig := { parameters := [], returnType := some .int }, accessFlags := 1, code := some k7c2 }
def k7c3 : Code := { maxStack := 1, maxLocals := 1, code := jdk_42_method_55_code, exceptionTable := #[], attributes := #[] }
def k7m3 : Method := { name := "isEmpty", desc := "()Z", sig := { parameters := [], returnType := some .boolean }, accessFlags := 1, code := some k7c3 }
def k7c4 : Code := { maxStack := 2, maxLocals := 2, code := jdk_42_method_56_code, exceptionTable := #[], attributes := #[] }
def k7m4 : Method := { name := "charAt", desc := "(I)C", sig := { parameters := [.int], returnType := some .char }, accessFlags := 1, code := some k7c4 }
def k7c5 : Code := { maxStack := 2, maxLocals := 3, code := jdk_42_method_66_code, exceptionTable := #[], attributes := #[] }
def k7m5 : Method := { name := "equals", desc := "(Ljava/lang/Object;)Z", sig := { parameters := [(.object "java/lang/Object")], returnType := some .boolean }, accessFlags := 1, code := some k7c5 }
def k7c6 : Code := { maxStack := 4, maxLocals := 6, code := jdk_42_method_149_code, exceptionTable := #[], attributes := #[] }
def k7m6 : Method := { name := "<init>", desc := "([CIILjava/lang/Void;)V", sig := { parameters := [(.array .char), .int, .int, (.object "java/lang/Void")], returnType := none }, accessFlags := 2, code := some k7c6 }
def k7c7 : Code := { maxStack := 1, maxLocals := 1, code := jdk_42_method_152_code, exceptionTable := #[], attributes := #[] }
def k7m7 : Method := { name := "coder", desc := "()B", sig := { parameters := [], returnType := some .byte }, accessFlags := 0, code := some k7c7 }
def k7c8 : Code := { maxStack := 1, maxLocals := 1, code := jdk_42_method_154_code, exceptionTable := #[], attributes := #[] }
def k7m8 : Method := { name := "isLatin1", desc := "()Z", sig := { parameters := [], returnType := some .boolean }, accessFlags := 0, code := some k7c8 }
def k7c9 : Code := { maxStack := 3, maxLocals := 2, code := jdk_42_method_155_code, exceptionTable := #[], attributes := #[] }
def k7m9 : Method := { name := "checkIndex", desc := "(II)V", sig := { parameters := [.int, .int], returnType := none }, accessFlags := 8, code := some k7c9 }
/-- java/lang/String -/
def k7 : Class := { plain "java/lang/String" (some 0) with
  accessFlags := 49
  interfaces := #[2, 3, 4, 5, 6]
  cf := some (fileOf pool7 10 #[.nestMembers #[1103]] #[{ accessFlags := 1, nameIndex := 5, descriptorIndex := 6, attributes := #[] }, { accessFlags := 1, nameIndex := 5, descriptorIndex := 1010, attributes := #[] }, { accessFlags := 1, nameIndex := 507, descriptorIndex := 334, attributes := #[] }, { accessFlags := 1, nameIndex := 692, descriptorIndex := 142, attributes := #[] }, { accessFlags := 1, nameIndex := 497, descriptorIndex := 427, attributes := #[] }, { accessFlags := 1, nameIndex := 543, descriptorIndex := 573, attributes := #[] }, { accessFlags := 2, nameIndex := 5, descriptorIndex := 29, attributes := #[] }, { accessFlags := 0, nameIndex := 17, descriptorIndex := 337, attributes := #[] }, { accessFlags := 0, nameIndex := 494, descriptorIndex := 142, attributes := #[] }, { accessFlags := 8, nameIndex := 501, descriptorIndex := 391, attributes := #[] }] 49 2 #[1106, 1108, 575, 1110, 1112] #[{ accessFlags := 18, nameIndex := 13, descriptorIndex := 14, attributes := #[] }, { accessFlags := 18, nameIndex := 17, descriptorIndex := 18, attributes := #[] }, { accessFlags := 2, nameIndex := 21, descriptorIndex := 22, attributes := #[] }, { accessFlags := 2, nameIndex := 25, descriptorIndex := 26, attributes := #[] }, { accessFlags := 26, nameIndex := 1116, descriptorIndex := 1117, attributes := #[] }, { accessFlags := 24, nameIndex := 40, descriptorIndex := 26, attributes := #[] }, { accessFlags := 26, nameIndex := 1101, descriptorIndex := 1102, attributes := #[] }, { accessFlags := 26, nameIndex := 1121, descriptorIndex := 1122, attributes := #[] }, { accessFlags := 25, nameIndex := 599, descriptorIndex := 600, attributes := #[] }, { accessFlags := 24, nameIndex := 1125, descriptorIndex := 18, attributes := #[] }, { accessFlags := 24, nameIndex := 1127, descriptorIndex := 18, attributes := #[] }])
  fields := #[{ name := "value", type := (.array .byte), accessFlags := 18, slot := 0, constantValue := 0 }, { name := "coder", type := .byte, accessFlags := 18, slot := 1, constantValue := 0 }, { name := "hash", type := .int, accessFlags := 2, slot := 2, constantValue := 0 }, { name := "hashIsZero", type := .boolean, accessFlags := 2, slot := 3, constantValue := 0 }, { name := "serialVersionUID", type := .long, accessFlags := 26, slot := 0, constantValue := 0 }, { name := "COMPACT_STRINGS", type := .boolean, accessFlags := 24, slot := 1, constantValue := 0 }, { name := "serialPersistentFields", type := (.array (.object "java/io/ObjectStreamField")), accessFlags := 26, slot := 2, constantValue := 0 }, { name := "REPL", type := .char, accessFlags := 26, slot := 3, constantValue := 0 }, { name := "CASE_INSENSITIVE_ORDER", type := (.object "java/util/Comparator"), accessFlags := 25, slot := 4, constantValue := 0 }, { name := "LATIN1", type := .byte, accessFlags := 24, slot := 5, constantValue := 0 }, { name := "UTF16", type := .byte, accessFlags := 24, slot := 6, constantValue := 0 }]
  methods := #[k7m0, k7m1, k7m2, k7m3, k7m4, k7m5, k7m6, k7m7, k7m8, k7m9]
  instanceTypes := #[(.array .byte), .byte, .int, .boolean]
  staticTypes := #[.long, .boolean, (.array (.object "java/io/ObjectStreamField")), .char, (.object "java/util/Comparator"), .byte, .byte]
  resolved := Array.replicate 1451 none
  statics := some 0 }

def pool8 : Array CpInfo := pool [(6, .class_ 8), (1, u "java/lang/Object"), (0, u "<init>"), (0, u "()V"), (1, .class_ 14), (1, u "java/lang/StringUTF16"), (31, u "$assertionsDisabled"), (0, u "Z"), (13, u "HI_BYTE_SHIFT"), (0, u "I"), (2, u "LO_BYTE_SHIFT"), (49, .methodref 12 116), (0, .nameAndType 117 118), (0, u "compress"), (0, u "([CI[BII)I"), (3, u "([CII)[B"), (138, u "coderFromArrayLen"), (0, u "([BI)B"), (106, .class_ 371), (1, u "java/lang/StringUTF16$LinesSpliterator"), (58, u "MAX_LENGTH"), (196, .class_ 628), (0, u "java/lang/StringUTF16$CodePointsSpliterator"), (0, .class_ 630), (0, u "java/lang/StringUTF16$CharsSpliterator")] 4

def k8m0 : Method := { name := "<init>", desc := "()V", sig := { parameters := [], returnType := none }, accessFlags := 0, code := none }
def k8c1 : Code := { maxStack := 2, maxLocals := 2, code := jdk_52_method_15_code, exceptionTable := #[], attributes := #[] }
def k8m1 : Method := { name := "coderFromArrayLen", desc := "([BI)B", sig := { parameters := [(.array .byte), .int], returnType := some .byte }, accessFlags := 8, code := some k8c1 }
def k8c2 : Code := { maxStack := 5, maxLocals := 6, code := jdk_52_method_16_code, exceptionTable := #[], attributes := #[] }
def k8m2 : Method := { name := "compress", desc := "([CII)[B", sig := { parameters := [(.array .char), .int, .int], returnType := some (.array .byte) }, accessFlags := 9, code := some k8c2 }
def k8c3 : Code := { maxStack := 3, maxLocals := 7, code := jdk_52_method_21_code, exceptionTable := #[], attributes := #[] }
def k8m3 : Method := { name := "compress", desc := "([CI[BII)I", sig := { parameters := [(.array .char), .int, (.array .byte), .int, .int], returnType := some .int }, accessFlags := 9, code := some k8c3 }
/-- java/lang/StringUTF16 -/
def k8 : Class := { plain "java/lang/StringUTF16" (some 0) with
  accessFlags := 48
  interfaces := #[]
  cf := some (fileOf pool8 12 #[.nestMembers #[627, 629, 369]] #[{ accessFlags := 0, nameIndex := 9, descriptorIndex := 10, attributes := #[] }, { accessFlags := 8, nameIndex := 261, descriptorIndex := 262, attributes := #[] }, { accessFlags := 9, nameIndex := 117, descriptorIndex := 122, attributes := #[] }, { accessFlags := 9, nameIndex := 117, descriptorIndex := 118, attributes := #[] }] 48 6 #[] #[{ accessFlags := 26, nameIndex := 61, descriptorIndex := 62, attributes := #[] }, { accessFlags := 26, nameIndex := 65, descriptorIndex := 62, attributes := #[] }, { accessFlags := 24, nameIndex := 430, descriptorIndex := 62, attributes := #[] }, { accessFlags := 4120, nameIndex := 46, descriptorIndex := 47, attributes := #[] }])
  fields := #[{ name := "HI_BYTE_SHIFT", type := .int, accessFlags := 26, slot := 0, constantValue := 0 }, { name := "LO_BYTE_SHIFT", type := .int, accessFlags := 26, slot := 1, constantValue := 0 }, { name := "MAX_LENGTH", type := .int, accessFlags := 24, slot := 2, constantValue := 0 }, { name := "$assertionsDisabled", type := .boolean, accessFlags := 4120, slot := 3, constantValue := 0 }]
  methods := #[k8m0, k8m1, k8m2, k8m3]
  instanceTypes := #[]
  staticTypes := #[.int, .int, .int, .boolean]
  resolved := Array.replicate 635 none
  statics := none }

def pool9 : Array CpInfo := pool [(1, .class_ 2), (0, u "com/example/bare_queue/barequeue/QueueName"), (0, .methodref 4 5), (0, .class_ 6), (0, .nameAndType 7 8), (0, u "java/lang/Object"), (0, u "<init>"), (0, u "()V"), (0, .fieldref 1 10), (0, .nameAndType 11 12), (0, u "value"), (0, u "Ljava/lang/String;"), (0, .methodref 14 15), (0, .class_ 16), (0, .nameAndType 17 18), (0, u "java/lang/String"), (0, u "isEmpty"), (0, u "()Z"), (5, .nameAndType 7 25), (0, u "(Ljava/lang/String;)V"), (0, .methodref 14 27), (0, .nameAndType 28 29), (0, u "length"), (0, u "()I"), (0, .methodref 14 31), (0, .nameAndType 32 33), (0, u "charAt"), (0, u "(I)C"), (0, .methodref 1 35), (0, .nameAndType 36 37), (0, u "isAllowed"), (0, u "(C)Z"), (23, .methodref 1 24), (0, .methodref 14 63), (0, .nameAndType 64 65), (0, u "equals"), (0, u "(Ljava/lang/Object;)Z"), (3, u "MAX_LENGTH"), (0, u "I"), (2, u "RULE"), (4, u "of"), (0, u "(Ljava/lang/String;)Lcom/example/bare_queue/barequeue/QueueName;"), (1, u "getValue"), (0, u "()Ljava/lang/String;")] 20

def k9c0 : Code := { maxStack := 2, maxLocals := 2, code := prog_12_method_1_code, exceptionTable := #[], attributes := #[] }
def k9m0 : Method := { name := "<init>", desc := "(Ljava/lang/String;)V", sig := { parameters := [(.object "java/lang/String")], returnType := none }, accessFlags := 2, code := some k9c0 }
def k9c1 : Code := { maxStack := 6, maxLocals := 3, code := prog_12_method_2_code, exceptionTable := #[], attributes := #[] }
def k9m1 : Method := { name := "of", desc := "(Ljava/lang/String;)Lcom/example/bare_queue/barequeue/QueueName;", sig := { parameters := [(.object "java/lang/String")], returnType := some (.object "com/example/bare_queue/barequeue/QueueName") }, accessFlags := 9, code := some k9c1 }
def k9c2 : Code := { maxStack := 2, maxLocals := 1, code := prog_12_method_3_code, exceptionTable := #[], attributes := #[] }
def k9m2 : Method := { name := "isAllowed", desc := "(C)Z", sig := { parameters := [.char], returnType := some .boolean }, accessFlags := 10, code := some k9c2 }
def k9c3 : Code := { maxStack := 1, maxLocals := 1, code := prog_12_method_4_code, exceptionTable := #[], attributes := #[] }
def k9m3 : Method := { name := "getValue", desc := "()Ljava/lang/String;", sig := { parameters := [], returnType := some (.object "java/lang/String") }, accessFlags := 1, code := some k9c3 }
def k9c4 : Code := { maxStack := 2, maxLocals := 3, code := prog_12_method_5_code, exceptionTable := #[], attributes := #[] }
def k9m4 : Method := { name := "equals", desc := "(Ljava/lang/Object;)Z", sig := { parameters := [(.object "java/lang/Object")], returnType := some .boolean }, accessFlags := 1, code := some k9c4 }
/-- com/example/bare_queue/barequeue/QueueName -/
def k9 : Class := { plain "com/example/bare_queue/barequeue/QueueName" (some 0) with
  accessFlags := 49
  interfaces := #[]
  cf := some (fileOf pool9 1 #[] #[{ accessFlags := 2, nameIndex := 7, descriptorIndex := 25, attributes := #[] }, { accessFlags := 9, nameIndex := 78, descriptorIndex := 79, attributes := #[] }, { accessFlags := 10, nameIndex := 36, descriptorIndex := 37, attributes := #[] }, { accessFlags := 1, nameIndex := 81, descriptorIndex := 82, attributes := #[] }, { accessFlags := 1, nameIndex := 64, descriptorIndex := 65, attributes := #[] }] 49 4 #[] #[{ accessFlags := 25, nameIndex := 69, descriptorIndex := 70, attributes := #[] }, { accessFlags := 26, nameIndex := 73, descriptorIndex := 12, attributes := #[] }, { accessFlags := 18, nameIndex := 11, descriptorIndex := 12, attributes := #[] }])
  fields := #[{ name := "MAX_LENGTH", type := .int, accessFlags := 25, slot := 0, constantValue := 0 }, { name := "RULE", type := (.object "java/lang/String"), accessFlags := 26, slot := 1, constantValue := 0 }, { name := "value", type := (.object "java/lang/String"), accessFlags := 18, slot := 0, constantValue := 0 }]
  methods := #[k9m0, k9m1, k9m2, k9m3, k9m4]
  instanceTypes := #[(.object "java/lang/String")]
  staticTypes := #[.int, (.object "java/lang/String")]
  resolved := Array.replicate 103 none
  statics := none }

def pool10 : Array CpInfo := pool [(1, .class_ 2), (0, u "java/lang/String"), (1, .class_ 6), (1, u "java/lang/Object"), (0, u "<init>"), (0, u "()V"), (0, .methodref 1 10), (0, .nameAndType 11 12), (0, u "checkIndex"), (0, u "(II)V"), (1, .class_ 16), (1, u "java/lang/StringLatin1"), (36, u "([BI)C"), (67, u "$assertionsDisabled"), (0, u "Z"), (98, .class_ 223), (1, u "java/lang/StringLatin1$LinesSpliterator"), (28, u "charAt"), (28, u "equals"), (0, u "([B[B)Z"), (107, .class_ 391), (0, u "java/lang/StringLatin1$CharsSpliterator")] 3

def k10m0 : Method := { name := "<init>", desc := "()V", sig := { parameters := [], returnType := none }, accessFlags := 0, code := none }
def k10c1 : Code := { maxStack := 2, maxLocals := 2, code := jdk_43_method_2_code, exceptionTable := #[], attributes := #[] }
def k10m1 : Method := { name := "charAt", desc := "([BI)C", sig := { parameters := [(.array .byte), .int], returnType := some .char }, accessFlags := 9, code := some k10c1 }
def k10c2 : Code := { maxStack := 3, maxLocals := 3, code := jdk_43_method_13_code, exceptionTable := #[], attributes := #[] }
def k10m2 : Method := { name := "equals", desc := "([B[B)Z", sig := { parameters := [(.array .byte), (.array .byte)], returnType := some .boolean }, accessFlags := 9, code := some k10c2 }
/-- java/lang/StringLatin1 -/
def k10 : Class := { plain "java/lang/StringLatin1" (some 0) with
  accessFlags := 48
  interfaces := #[]
  cf := some (fileOf pool10 14 #[.nestMembers #[390, 221]] #[{ accessFlags := 0, nameIndex := 7, descriptorIndex := 8, attributes := #[] }, { accessFlags := 9, nameIndex := 252, descriptorIndex := 53, attributes := #[] }, { accessFlags := 9, nameIndex := 281, descriptorIndex := 282, attributes := #[] }] 48 4 #[] #[{ accessFlags := 4120, nameIndex := 121, descriptorIndex := 122, attributes := #[] }])
  fields := #[{ name := "$assertionsDisabled", type := .boolean, accessFlags := 4120, slot := 0, constantValue := 0 }]
  methods := #[k10m0, k10m1, k10m2]
  instanceTypes := #[]
  staticTypes := #[.boolean]
  resolved := Array.replicate 395 none
  statics := none }

def pool11 : Array CpInfo := pool [(2, .class_ 4), (1, u "java/lang/Object"), (0, u "<init>"), (0, u "()V"), (17, .class_ 26), (1, u "jdk/internal/util/Preconditions"), (6, u "checkIndex"), (21, .class_ 56), (0, u "jdk/internal/util/Preconditions$4"), (57, .class_ 115), (0, u "jdk/internal/util/Preconditions$1"), (7, u "SIOOBE_FORMATTER"), (0, u "Ljava/util/function/BiFunction;"), (0, .class_ 126), (0, u "jdk/internal/util/Preconditions$2"), (3, u "AIOOBE_FORMATTER"), (0, .class_ 132), (0, u "jdk/internal/util/Preconditions$3"), (3, u "IOOBE_FORMATTER"), (41, u "(IILjava/util/function/BiFunction;)I")] 15

def k11m0 : Method := { name := "<init>", desc := "()V", sig := { parameters := [], returnType := none }, accessFlags := 1, code := none }
def k11c1 : Code := { maxStack := 3, maxLocals := 3, code := jdk_41_method_11_code, exceptionTable := #[], attributes := #[] }
def k11m1 : Method := { name := "checkIndex", desc := "(IILjava/util/function/BiFunction;)I", sig := { parameters := [.int, .int, (.object "java/util/function/BiFunction")], returnType := some .int }, accessFlags := 9, code := some k11c1 }
/-- jdk/internal/util/Preconditions -/
def k11 : Class := { plain "jdk/internal/util/Preconditions" (some 0) with
  accessFlags := 33
  interfaces := #[]
  cf := some (fileOf pool11 24 #[.nestMembers #[55, 131, 125, 114]] #[{ accessFlags := 1, nameIndex := 5, descriptorIndex := 6, attributes := #[] }, { accessFlags := 9, nameIndex := 33, descriptorIndex := 178, attributes := #[] }] 33 2 #[] #[{ accessFlags := 25, nameIndex := 123, descriptorIndex := 124, attributes := #[] }, { accessFlags := 25, nameIndex := 130, descriptorIndex := 124, attributes := #[] }, { accessFlags := 25, nameIndex := 136, descriptorIndex := 124, attributes := #[] }])
  fields := #[{ name := "SIOOBE_FORMATTER", type := (.object "java/util/function/BiFunction"), accessFlags := 25, slot := 0, constantValue := 0 }, { name := "AIOOBE_FORMATTER", type := (.object "java/util/function/BiFunction"), accessFlags := 25, slot := 1, constantValue := 0 }, { name := "IOOBE_FORMATTER", type := (.object "java/util/function/BiFunction"), accessFlags := 25, slot := 2, constantValue := 0 }]
  methods := #[k11m0, k11m1]
  instanceTypes := #[]
  staticTypes := #[(.object "java/util/function/BiFunction"), (.object "java/util/function/BiFunction"), (.object "java/util/function/BiFunction")]
  resolved := Array.replicate 194 none
  statics := some 1 }

def pool12 : Array CpInfo := pool [(9, u "<init>"), (6, .class_ 18), (1, u "java/lang/Object"), (0, u "()V"), (1, .class_ 23), (1, u "jdk/internal/util/ArraysSupport"), (0, u "LOG2_ARRAY_LONG_INDEX_SCALE"), (0, u "I"), (2, u "U"), (0, u "Ljdk/internal/misc/Unsafe;"), (8, u "BIG_ENDIAN"), (0, u "Z"), (8, u "LOG2_BYTE_BIT_SIZE"), (4, u "LOG2_ARRAY_INT_INDEX_SCALE"), (54, u "JLA"), (0, u "Ljdk/internal/access/JavaLangAccess;"), (11, u "LOG2_ARRAY_BOOLEAN_INDEX_SCALE"), (9, u "LOG2_ARRAY_BYTE_INDEX_SCALE"), (5, u "LOG2_ARRAY_CHAR_INDEX_SCALE"), (5, u "LOG2_ARRAY_SHORT_INDEX_SCALE"), (18, u "LOG2_ARRAY_FLOAT_INDEX_SCALE"), (24, u "LOG2_ARRAY_DOUBLE_INDEX_SCALE"), (89, u "T_BOOLEAN"), (2, u "T_CHAR"), (1, u "T_FLOAT"), (1, u "T_DOUBLE"), (1, u "T_BYTE"), (1, u "T_SHORT"), (1, u "T_INT"), (1, u "T_LONG"), (1, u "SOFT_MAX_ARRAY_LENGTH")] 83

def k12m0 : Method := { name := "<init>", desc := "()V", sig := { parameters := [], returnType := none }, accessFlags := 2, code := none }
/-- jdk/internal/util/ArraysSupport -/
def k12 : Class := { plain "jdk/internal/util/ArraysSupport" (some 0) with
  accessFlags := 33
  interfaces := #[]
  cf := some (fileOf pool12 21 #[] #[{ accessFlags := 2, nameIndex := 9, descriptorIndex := 19, attributes := #[] }] 33 16 #[] #[{ accessFlags := 24, nameIndex := 28, descriptorIndex := 29, attributes := #[] }, { accessFlags := 26, nameIndex := 38, descriptorIndex := 39, attributes := #[] }, { accessFlags := 25, nameIndex := 121, descriptorIndex := 25, attributes := #[] }, { accessFlags := 25, nameIndex := 131, descriptorIndex := 25, attributes := #[] }, { accessFlags := 25, nameIndex := 137, descriptorIndex := 25, attributes := #[] }, { accessFlags := 25, nameIndex := 143, descriptorIndex := 25, attributes := #[] }, { accessFlags := 25, nameIndex := 53, descriptorIndex := 25, attributes := #[] }, { accessFlags := 25, nameIndex := 24, descriptorIndex := 25, attributes := #[] }, { accessFlags := 25, nameIndex := 162, descriptorIndex := 25, attributes := #[] }, { accessFlags := 25, nameIndex := 187, descriptorIndex := 25, attributes := #[] }, { accessFlags := 26, nameIndex := 48, descriptorIndex := 25, attributes := #[] }, { accessFlags := 25, nameIndex := 277, descriptorIndex := 25, attributes := #[] }, { accessFlags := 25, nameIndex := 280, descriptorIndex := 25, attributes := #[] }, { accessFlags := 25, nameIndex := 282, descriptorIndex := 25, attributes := #[] }, { accessFlags := 25, nameIndex := 284, descriptorIndex := 25, attributes := #[] }, { accessFlags := 25, nameIndex := 286, descriptorIndex := 25, attributes := #[] }, { accessFlags := 25, nameIndex := 288, descriptorIndex := 25, attributes := #[] }, { accessFlags := 25, nameIndex := 290, descriptorIndex := 25, attributes := #[] }, { accessFlags := 25, nameIndex := 292, descriptorIndex := 25, attributes := #[] }, { accessFlags := 26, nameIndex := 108, descriptorIndex := 109, attributes := #[] }, { accessFlags := 25, nameIndex := 294, descriptorIndex := 25, attributes := #[] }])
  fields := #[{ name := "U", type := (.object "jdk/internal/misc/Unsafe"), accessFlags := 24, slot := 0, constantValue := 0 }, { name := "BIG_ENDIAN", type := .boolean, accessFlags := 26, slot := 1, constantValue := 0 }, { name := "LOG2_ARRAY_BOOLEAN_INDEX_SCALE", type := .int, accessFlags := 25, slot := 2, constantValue := 0 }, { name := "LOG2_ARRAY_BYTE_INDEX_SCALE", type := .int, accessFlags := 25, slot := 3, constantValue := 0 }, { name := "LOG2_ARRAY_CHAR_INDEX_SCALE", type := .int, accessFlags := 25, slot := 4, constantValue := 0 }, { name := "LOG2_ARRAY_SHORT_INDEX_SCALE", type := .int, accessFlags := 25, slot := 5, constantValue := 0 }, { name := "LOG2_ARRAY_INT_INDEX_SCALE", type := .int, accessFlags := 25, slot := 6, constantValue := 0 }, { name := "LOG2_ARRAY_LONG_INDEX_SCALE", type := .int, accessFlags := 25, slot := 7, constantValue := 0 }, { name := "LOG2_ARRAY_FLOAT_INDEX_SCALE", type := .int, accessFlags := 25, slot := 8, constantValue := 0 }, { name := "LOG2_ARRAY_DOUBLE_INDEX_SCALE", type := .int, accessFlags := 25, slot := 9, constantValue := 0 }, { name := "LOG2_BYTE_BIT_SIZE", type := .int, accessFlags := 26, slot := 10, constantValue := 0 }, { name := "T_BOOLEAN", type := .int, accessFlags := 25, slot := 11, constantValue := 0 }, { name := "T_CHAR", type := .int, accessFlags := 25, slot := 12, constantValue := 0 }, { name := "T_FLOAT", type := .int, accessFlags := 25, slot := 13, constantValue := 0 }, { name := "T_DOUBLE", type := .int, accessFlags := 25, slot := 14, constantValue := 0 }, { name := "T_BYTE", type := .int, accessFlags := 25, slot := 15, constantValue := 0 }, { name := "T_SHORT", type := .int, accessFlags := 25, slot := 16, constantValue := 0 }, { name := "T_INT", type := .int, accessFlags := 25, slot := 17, constantValue := 0 }, { name := "T_LONG", type := .int, accessFlags := 25, slot := 18, constantValue := 0 }, { name := "JLA", type := (.object "jdk/internal/access/JavaLangAccess"), accessFlags := 26, slot := 19, constantValue := 0 }, { name := "SOFT_MAX_ARRAY_LENGTH", type := .int, accessFlags := 25, slot := 20, constantValue := 0 }]
  methods := #[k12m0]
  instanceTypes := #[]
  staticTypes := #[(.object "jdk/internal/misc/Unsafe"), .boolean, .int, .int, .int, .int, .int, .int, .int, .int, .int, .int, .int, .int, .int, .int, .int, .int, .int, (.object "jdk/internal/access/JavaLangAccess"), .int]
  resolved := Array.replicate 378 none
  statics := none }

def pool13 : Array CpInfo := pool [(1, u "java/lang/Cloneable"), (0, .class_ 1), (0, u "java/lang/Object"), (0, .class_ 3)] 3

/-- java/lang/Cloneable -/
def k13 : Class := { plain "java/lang/Cloneable" (some 0) with
  accessFlags := 1537
  interfaces := #[]
  cf := some (fileOf pool13 2 #[] #[] 1537 4 #[] #[])
  fields := #[]
  methods := #[]
  instanceTypes := #[]
  staticTypes := #[]
  resolved := Array.replicate 8 none
  statics := none }

/-- the primitive byte -/
def k14 : Class := { plain "byte" none with kind := .primitive 'B', accessFlags := 0x411 }
/-- [B -/
def k15 : Class := { plain "[B" (some 0) with kind := .array 14 .byte, interfaces := #[13, 2], accessFlags := 1041 }

/-- the primitive char -/
def k16 : Class := { plain "char" none with kind := .primitive 'C', accessFlags := 0x411 }
/-- [C -/
def k17 : Class := { plain "[C" (some 0) with kind := .array 16 .char, interfaces := #[13, 2], accessFlags := 1041 }

/-- the primitive int -/
def k18 : Class := { plain "int" none with kind := .primitive 'I', accessFlags := 0x411 }
/-- [I -/
def k19 : Class := { plain "[I" (some 0) with kind := .array 18 .int, interfaces := #[13, 2], accessFlags := 1041 }

def heap : Heap := #[{ cls := 7, slots := #[.long 0, .int 1, .null, .int 0, .null, .int 0, .int 0], vm := .statics 7 },
  { cls := 11, slots := #[.null, .null, .null], vm := .statics 11 }]
def classes : Array Class := #[k0, k1, k2, k3, k4, k5, k6, k7, k8, k9, k10, k11, k12, k13, k14, k15, k16, k17, k18, k19]
def interned : List (Array UInt16 × Addr) := []
def slotsUsed : Nat := 10
def theMethod : MethodId := ⟨1, 2⟩
def args0 : Array Value := #[.int 5, .int 6, .int 7, .int 8]
def aboutOver (below : List Frame) : State where
  vm := { classes := classes, interned := interned.toArray }
  heap := heap
  slotsUsed := slotsUsed
  threads := #[{ frames := .invoking theMethod args0 :: below }]
def below0 : List Frame := [.native { method := ⟨0, 0⟩, args := #[] }]
def about1 : State := aboutOver below0
def p0 : Program := .bare "" "" ""
def e0 : Env := launch0.env 0 0 0
theorem w_frames : about1.frames = Frame.invoking theMethod args0 :: below0 := rfl
set_option maxRecDepth 65536 in
theorem w_args : argsFit about1.vm theMethod args0 = true := by decide +kernel
set_option maxRecDepth 65536 in
theorem w_heap : heapFits about1 = true := by decide +kernel
set_option maxRecDepth 65536 in
theorem w_runnable : about1.curStatus? = some .runnable := by decide +kernel
set_option maxRecDepth 65536 in
theorem w_alone : about1.alone = true := by decide +kernel
set_option maxRecDepth 65536 in
theorem w_named : about1.methodNamed? x = some theMethod := by decide +kernel
set_option maxRecDepth 65536 in
theorem w_hears : about1.hears theMethod below0 = true := by decide +kernel
set_option maxRecDepth 65536 in
theorem w_ripe : about1.ripe theMethod args0 below0 = true := by decide +kernel
theorem w_running : about1.status = .running := rfl
set_option maxRecDepth 65536 in
theorem w_room : about1.hasRoom e0.platform room_1 = true :=
  launch0.hasRoom_least _ room_1 (by decide +kernel) (by decide +kernel) (by decide +kernel) (by decide +kernel) (by decide +kernel) (by decide +kernel)
theorem allAtoms_all (ts : List Jvm.Cond) (a : Array Jvm.Value) (st : Jvm.State) : (allAtoms ts).before a st = ts.all (fun c => c.before a st) := by
  induction ts with
  | nil => rfl
  | cons c t ih =>
    show (Jvm.Cond.and c (allAtoms t)).before a st = _
    rw [Jvm.Cond.before_and, ih, List.all_cons]
def words1 : List Jvm.Cond := Jvm.Cond.code x code maxLocals ret :: tables_1
/-- a 'code' word, met by the world's own term for the bytes: nothing is compared byte by byte -/
theorem code_word {y : MethodName} {bytes : ByteArray} {mx : Nat} {rt : Option FieldType} {a : Array Value} {s : State} {m : MethodId} {meth : Method} {c : Code} (h1 : s.methodNamed? y = some m) (h2 : s.vm.method? m = some meth) (h3 : meth.code = some c) (h4 : c.code = bytes)
    (h5 : (c.maxLocals == mx && c.exceptionTable.isEmpty && decide (c.maxStack ≤ mostOperands) && decide (meth.sig.returnType = rt) && !meth.locks && decide (parseMethodDescriptor y.desc = some meth.sig)) = true) : (Jvm.Cond.code y bytes mx rt).before a s = true := by
  simp only [Bool.and_eq_true, beq_iff_eq, Bool.not_eq_true', decide_eq_true_eq] at h5
  obtain ⟨⟨⟨⟨⟨g1, g2⟩, g3⟩, g4⟩, g5⟩, g6⟩ := h5
  simp [Cond.before, Cond.holds, Cond.value, h1, h2, h3, h4, g1, g2, g3, g4, g5, g6]
def isCode : Jvm.Cond → Bool
  | .code _ _ _ _ => true
  | _ => false
theorem all_split {L : List Jvm.Cond} {P : Jvm.Cond → Bool} (h1 : L.all (fun c => isCode c || P c) = true) (h2 : ∀ c ∈ L.filter isCode, P c = true) : L.all P = true := by
  refine List.all_eq_true.mpr fun c hc => ?_
  have h := List.all_eq_true.mp h1 c hc
  rcases Bool.eq_false_or_eq_true (isCode c) with hi | hi
  · exact h2 c (List.mem_filter.mpr ⟨hc, hi⟩)
  · simpa [hi] using h
set_option maxRecDepth 65536 in
theorem w_c0 : (Jvm.Cond.code x code maxLocals ret).before args0 about1 = true := code_word (m := ⟨1, 2⟩) (meth := k1m2) (c := k1c2) (by decide +kernel) rfl rfl rfl (by decide +kernel)
set_option maxRecDepth 65536 in
theorem w_c1 : (Jvm.Cond.code ({ cls := "com/example/bare_queue/barequeue/QueueNameOfPinLaw", name := "ch", desc := "(I)C" } : Jvm.MethodName) method_2_code (2 : Nat) (Option.some Jvm.ClassFile.FieldType.char)).before args0 about1 = true := code_word (m := ⟨1, 1⟩) (meth := k1m1) (c := k1c1) (by decide +kernel) rfl rfl rfl (by decide +kernel)
set_option maxRecDepth 65536 in
theorem w_c2 : (Jvm.Cond.code ({ cls := "java/lang/String", name := "<init>", desc := "([C)V" } : Jvm.MethodName) jdk_42_method_3_code (2 : Nat) (Option.none : Option Jvm.ClassFile.FieldType)).before args0 about1 = true := code_word (m := ⟨7, 1⟩) (meth := k7m1) (c := k7c1) (by decide +kernel) rfl rfl rfl (by decide +kernel)
set_option maxRecDepth 65536 in
theorem w_c3 : (Jvm.Cond.code ({ cls := "java/lang/String", name := "<init>", desc := "([CIILjava/lang/Void;)V" } : Jvm.MethodName) jdk_42_method_149_code (6 : Nat) (Option.none : Option Jvm.ClassFile.FieldType)).before args0 about1 = true := code_word (m := ⟨7, 6⟩) (meth := k7m6) (c := k7c6) (by decide +kernel) rfl rfl rfl (by decide +kernel)
set_option maxRecDepth 65536 in
theorem w_c4 : (Jvm.Cond.code ({ cls := "java/lang/Object", name := "<init>", desc := "()V" } : Jvm.MethodName) object_method_1_code (1 : Nat) (Option.none : Option Jvm.ClassFile.FieldType)).before args0 about1 = true := code_word (m := ⟨0, 0⟩) (meth := k0m0) (c := k0c0) (by decide +kernel) rfl rfl rfl (by decide +kernel)
set_option maxRecDepth 65536 in
theorem w_c5 : (Jvm.Cond.code ({ cls := "java/lang/StringUTF16", name := "compress", desc := "([CII)[B" } : Jvm.MethodName) jdk_52_method_16_code (6 : Nat) (Option.some (Jvm.ClassFile.FieldType.array Jvm.ClassFile.FieldType.byte))).before args0 about1 = true := code_word (m := ⟨8, 2⟩) (meth := k8m2) (c := k8c2) (by decide +kernel) rfl rfl rfl (by decide +kernel)
set_option maxRecDepth 65536 in
theorem w_c6 : (Jvm.Cond.code ({ cls := "java/lang/StringUTF16", name := "compress", desc := "([CI[BII)I" } : Jvm.MethodName) jdk_52_method_21_code (7 : Nat) (Option.some Jvm.ClassFile.FieldType.int)).before args0 about1 = true := code_word (m := ⟨8, 3⟩) (meth := k8m3) (c := k8c3) (by decide +kernel) rfl rfl rfl (by decide +kernel)
set_option maxRecDepth 65536 in
theorem w_c7 : (Jvm.Cond.code ({ cls := "java/lang/StringUTF16", name := "coderFromArrayLen", desc := "([BI)B" } : Jvm.MethodName) jdk_52_method_15_code (2 : Nat) (Option.some Jvm.ClassFile.FieldType.byte)).before args0 about1 = true := code_word (m := ⟨8, 1⟩) (meth := k8m1) (c := k8c1) (by decide +kernel) rfl rfl rfl (by decide +kernel)
set_option maxRecDepth 65536 in
theorem w_c8 : (Jvm.Cond.code ({ cls := "com/example/bare_queue/barequeue/QueueName", name := "of", desc := "(Ljava/lang/String;)Lcom/example/bare_queue/barequeue/QueueName;" } : Jvm.MethodName) prog_12_method_2_code (3 : Nat) (Option.some (Jvm.ClassFile.FieldType.object "com/example/bare_queue/barequeue/QueueName"))).before args0 about1 = true := code_word (m := ⟨9, 1⟩) (meth := k9m1) (c := k9c1) (by decide +kernel) rfl rfl rfl (by decide +kernel)
set_option maxRecDepth 65536 in
theorem w_c9 : (Jvm.Cond.code ({ cls := "java/lang/String", name := "isEmpty", desc := "()Z" } : Jvm.MethodName) jdk_42_method_55_code (1 : Nat) (Option.some Jvm.ClassFile.FieldType.boolean)).before args0 about1 = true := code_word (m := ⟨7, 3⟩) (meth := k7m3) (c := k7c3) (by decide +kernel) rfl rfl rfl (by decide +kernel)
set_option maxRecDepth 65536 in
theorem w_c10 : (Jvm.Cond.code ({ cls := "java/lang/String", name := "length", desc := "()I" } : Jvm.MethodName) jdk_42_method_54_code (1 : Nat) (Option.some Jvm.ClassFile.FieldType.int)).before args0 about1 = true := code_word (m := ⟨7, 2⟩) (meth := k7m2) (c := k7c2) (by decide +kernel) rfl rfl rfl (by decide +kernel)
set_option maxRecDepth 65536 in
theorem w_c11 : (Jvm.Cond.code ({ cls := "java/lang/String", name := "coder", desc := "()B" } : Jvm.MethodName) jdk_42_method_152_code (1 : Nat) (Option.some Jvm.ClassFile.FieldType.byte)).before args0 about1 = true := code_word (m := ⟨7, 7⟩) (meth := k7m7) (c := k7c7) (by decide +kernel) rfl rfl rfl (by decide +kernel)
set_option maxRecDepth 65536 in
theorem w_c12 : (Jvm.Cond.code ({ cls := "java/lang/String", name := "charAt", desc := "(I)C" } : Jvm.MethodName) jdk_42_method_56_code (2 : Nat) (Option.some Jvm.ClassFile.FieldType.char)).before args0 about1 = true := code_word (m := ⟨7, 4⟩) (meth := k7m4) (c := k7c4) (by decide +kernel) rfl rfl rfl (by decide +kernel)
set_option maxRecDepth 65536 in
theorem w_c13 : (Jvm.Cond.code ({ cls := "java/lang/String", name := "isLatin1", desc := "()Z" } : Jvm.MethodName) jdk_42_method_154_code (1 : Nat) (Option.some Jvm.ClassFile.FieldType.boolean)).before args0 about1 = true := code_word (m := ⟨7, 8⟩) (meth := k7m8) (c := k7c8) (by decide +kernel) rfl rfl rfl (by decide +kernel)
set_option maxRecDepth 65536 in
theorem w_c14 : (Jvm.Cond.code ({ cls := "java/lang/StringLatin1", name := "charAt", desc := "([BI)C" } : Jvm.MethodName) jdk_43_method_2_code (2 : Nat) (Option.some Jvm.ClassFile.FieldType.char)).before args0 about1 = true := code_word (m := ⟨10, 1⟩) (meth := k10m1) (c := k10c1) (by decide +kernel) rfl rfl rfl (by decide +kernel)
set_option maxRecDepth 65536 in
theorem w_c15 : (Jvm.Cond.code ({ cls := "java/lang/String", name := "checkIndex", desc := "(II)V" } : Jvm.MethodName) jdk_42_method_155_code (2 : Nat) (Option.none : Option Jvm.ClassFile.FieldType)).before args0 about1 = true := code_word (m := ⟨7, 9⟩) (meth := k7m9) (c := k7c9) (by decide +kernel) rfl rfl rfl (by decide +kernel)
set_option maxRecDepth 65536 in
theorem w_c16 : (Jvm.Cond.code ({ cls := "jdk/internal/util/Preconditions", name := "checkIndex", desc := "(IILjava/util/function/BiFunction;)I" } : Jvm.MethodName) jdk_41_method_11_code (3 : Nat) (Option.some Jvm.ClassFile.FieldType.int)).before args0 about1 = true := code_word (m := ⟨11, 1⟩) (meth := k11m1) (c := k11c1) (by decide +kernel) rfl rfl rfl (by decide +kernel)
set_option maxRecDepth 65536 in
theorem w_c17 : (Jvm.Cond.code ({ cls := "com/example/bare_queue/barequeue/QueueName", name := "isAllowed", desc := "(C)Z" } : Jvm.MethodName) prog_12_method_3_code (1 : Nat) (Option.some Jvm.ClassFile.FieldType.boolean)).before args0 about1 = true := code_word (m := ⟨9, 2⟩) (meth := k9m2) (c := k9c2) (by decide +kernel) rfl rfl rfl (by decide +kernel)
set_option maxRecDepth 65536 in
theorem w_c18 : (Jvm.Cond.code ({ cls := "com/example/bare_queue/barequeue/QueueName", name := "<init>", desc := "(Ljava/lang/String;)V" } : Jvm.MethodName) prog_12_method_1_code (2 : Nat) (Option.none : Option Jvm.ClassFile.FieldType)).before args0 about1 = true := code_word (m := ⟨9, 0⟩) (meth := k9m0) (c := k9c0) (by decide +kernel) rfl rfl rfl (by decide +kernel)
set_option maxRecDepth 65536 in
theorem w_c19 : (Jvm.Cond.code ({ cls := "com/example/bare_queue/barequeue/QueueName", name := "getValue", desc := "()Ljava/lang/String;" } : Jvm.MethodName) prog_12_method_4_code (1 : Nat) (Option.some (Jvm.ClassFile.FieldType.object "java/lang/String"))).before args0 about1 = true := code_word (m := ⟨9, 3⟩) (meth := k9m3) (c := k9c3) (by decide +kernel) rfl rfl rfl (by decide +kernel)
set_option maxRecDepth 65536 in
theorem w_c20 : (Jvm.Cond.code ({ cls := "java/lang/String", name := "equals", desc := "(Ljava/lang/Object;)Z" } : Jvm.MethodName) jdk_42_method_66_code (3 : Nat) (Option.some Jvm.ClassFile.FieldType.boolean)).before args0 about1 = true := code_word (m := ⟨7, 5⟩) (meth := k7m5) (c := k7c5) (by decide +kernel) rfl rfl rfl (by decide +kernel)
set_option maxRecDepth 65536 in
theorem w_c21 : (Jvm.Cond.code ({ cls := "com/example/bare_queue/barequeue/QueueName", name := "equals", desc := "(Ljava/lang/Object;)Z" } : Jvm.MethodName) prog_12_method_5_code (3 : Nat) (Option.some Jvm.ClassFile.FieldType.boolean)).before args0 about1 = true := code_word (m := ⟨9, 4⟩) (meth := k9m4) (c := k9c4) (by decide +kernel) rfl rfl rfl (by decide +kernel)
set_option maxRecDepth 65536 in
theorem w_c22 : (Jvm.Cond.code ({ cls := "java/lang/StringLatin1", name := "equals", desc := "([B[B)Z" } : Jvm.MethodName) jdk_43_method_13_code (3 : Nat) (Option.some Jvm.ClassFile.FieldType.boolean)).before args0 about1 = true := code_word (m := ⟨10, 2⟩) (meth := k10m2) (c := k10c2) (by decide +kernel) rfl rfl rfl (by decide +kernel)
def codes1 : List Jvm.Cond := [Jvm.Cond.code x code maxLocals ret, Jvm.Cond.code ({ cls := "com/example/bare_queue/barequeue/QueueNameOfPinLaw", name := "ch", desc := "(I)C" } : Jvm.MethodName) method_2_code (2 : Nat) (Option.some Jvm.ClassFile.FieldType.char), Jvm.Cond.code ({ cls := "java/lang/String", name := "<init>", desc := "([C)V" } : Jvm.MethodName) jdk_42_method_3_code (2 : Nat) (Option.none : Option Jvm.ClassFile.FieldType), Jvm.Cond.code ({ cls := "java/lang/String", name := "<init>", desc := "([CIILjava/lang/Void;)V" } : Jvm.MethodName) jdk_42_method_149_code (6 : Nat) (Option.none : Option Jvm.ClassFile.FieldType), Jvm.Cond.code ({ cls := "java/lang/Object", name := "<init>", desc := "()V" } : Jvm.MethodName) object_method_1_code (1 : Nat) (Option.none : Option Jvm.ClassFile.FieldType), Jvm.Cond.code ({ cls := "java/lang/StringUTF16", name := "compress", desc := "([CII)[B" } : Jvm.MethodName) jdk_52_method_16_code (6 : Nat) (Option.some (Jvm.ClassFile.FieldType.array Jvm.ClassFile.FieldType.byte)), Jvm.Cond.code ({ cls := "java/lang/StringUTF16", name := "compress", desc := "([CI[BII)I" } : Jvm.MethodName) jdk_52_method_21_code (7 : Nat) (Option.some Jvm.ClassFile.FieldType.int), Jvm.Cond.code ({ cls := "java/lang/StringUTF16", name := "coderFromArrayLen", desc := "([BI)B" } : Jvm.MethodName) jdk_52_method_15_code (2 : Nat) (Option.some Jvm.ClassFile.FieldType.byte), Jvm.Cond.code ({ cls := "com/example/bare_queue/barequeue/QueueName", name := "of", desc := "(Ljava/lang/String;)Lcom/example/bare_queue/barequeue/QueueName;" } : Jvm.MethodName) prog_12_method_2_code (3 : Nat) (Option.some (Jvm.ClassFile.FieldType.object "com/example/bare_queue/barequeue/QueueName")), Jvm.Cond.code ({ cls := "java/lang/String", name := "isEmpty", desc := "()Z" } : Jvm.MethodName) jdk_42_method_55_code (1 : Nat) (Option.some Jvm.ClassFile.FieldType.boolean), Jvm.Cond.code ({ cls := "java/lang/String", name := "length", desc := "()I" } : Jvm.MethodName) jdk_42_method_54_code (1 : Nat) (Option.some Jvm.ClassFile.FieldType.int), Jvm.Cond.code ({ cls := "java/lang/String", name := "coder", desc := "()B" } : Jvm.MethodName) jdk_42_method_152_code (1 : Nat) (Option.some Jvm.ClassFile.FieldType.byte), Jvm.Cond.code ({ cls := "java/lang/String", name := "charAt", desc := "(I)C" } : Jvm.MethodName) jdk_42_method_56_code (2 : Nat) (Option.some Jvm.ClassFile.FieldType.char), Jvm.Cond.code ({ cls := "java/lang/String", name := "isLatin1", desc := "()Z" } : Jvm.MethodName) jdk_42_method_154_code (1 : Nat) (Option.some Jvm.ClassFile.FieldType.boolean), Jvm.Cond.code ({ cls := "java/lang/StringLatin1", name := "charAt", desc := "([BI)C" } : Jvm.MethodName) jdk_43_method_2_code (2 : Nat) (Option.some Jvm.ClassFile.FieldType.char), Jvm.Cond.code ({ cls := "java/lang/String", name := "checkIndex", desc := "(II)V" } : Jvm.MethodName) jdk_42_method_155_code (2 : Nat) (Option.none : Option Jvm.ClassFile.FieldType), Jvm.Cond.code ({ cls := "jdk/internal/util/Preconditions", name := "checkIndex", desc := "(IILjava/util/function/BiFunction;)I" } : Jvm.MethodName) jdk_41_method_11_code (3 : Nat) (Option.some Jvm.ClassFile.FieldType.int), Jvm.Cond.code ({ cls := "com/example/bare_queue/barequeue/QueueName", name := "isAllowed", desc := "(C)Z" } : Jvm.MethodName) prog_12_method_3_code (1 : Nat) (Option.some Jvm.ClassFile.FieldType.boolean), Jvm.Cond.code ({ cls := "com/example/bare_queue/barequeue/QueueName", name := "<init>", desc := "(Ljava/lang/String;)V" } : Jvm.MethodName) prog_12_method_1_code (2 : Nat) (Option.none : Option Jvm.ClassFile.FieldType), Jvm.Cond.code ({ cls := "com/example/bare_queue/barequeue/QueueName", name := "getValue", desc := "()Ljava/lang/String;" } : Jvm.MethodName) prog_12_method_4_code (1 : Nat) (Option.some (Jvm.ClassFile.FieldType.object "java/lang/String")), Jvm.Cond.code ({ cls := "java/lang/String", name := "equals", desc := "(Ljava/lang/Object;)Z" } : Jvm.MethodName) jdk_42_method_66_code (3 : Nat) (Option.some Jvm.ClassFile.FieldType.boolean), Jvm.Cond.code ({ cls := "com/example/bare_queue/barequeue/QueueName", name := "equals", desc := "(Ljava/lang/Object;)Z" } : Jvm.MethodName) prog_12_method_5_code (3 : Nat) (Option.some Jvm.ClassFile.FieldType.boolean), Jvm.Cond.code ({ cls := "java/lang/StringLatin1", name := "equals", desc := "([B[B)Z" } : Jvm.MethodName) jdk_43_method_13_code (3 : Nat) (Option.some Jvm.ClassFile.FieldType.boolean)]
set_option maxRecDepth 65536 in
theorem codes_eq : words1.filter isCode = codes1 := rfl
theorem w_codes : ∀ c ∈ words1.filter isCode, c.before args0 about1 = true := by
  rw [codes_eq]
  intro c hc
  simp only [codes1, List.mem_cons, List.not_mem_nil, or_false] at hc
  rcases hc with rfl | rfl | rfl | rfl | rfl | rfl | rfl | rfl | rfl | rfl | rfl | rfl | rfl | rfl | rfl | rfl | rfl | rfl | rfl | rfl | rfl | rfl | rfl
  · exact w_c0
  · exact w_c1
  · exact w_c2
  · exact w_c3
  · exact w_c4
  · exact w_c5
  · exact w_c6
  · exact w_c7
  · exact w_c8
  · exact w_c9
  · exact w_c10
  · exact w_c11
  · exact w_c12
  · exact w_c13
  · exact w_c14
  · exact w_c15
  · exact w_c16
  · exact w_c17
  · exact w_c18
  · exact w_c19
  · exact w_c20
  · exact w_c21
  · exact w_c22
set_option maxRecDepth 65536 in
theorem w_t1 : (words1.take 24).all (fun c => isCode c || c.before args0 about1) = true := by decide +kernel
set_option maxRecDepth 65536 in
theorem w_t2 : ((words1.drop 24).take 24).all (fun c => isCode c || c.before args0 about1) = true := by decide +kernel
set_option maxRecDepth 65536 in
theorem w_t3 : (((words1.drop 24).drop 24).take 24).all (fun c => isCode c || c.before args0 about1) = true := by decide +kernel
set_option maxRecDepth 65536 in
theorem w_t4 : ((((words1.drop 24).drop 24).drop 24).take 24).all (fun c => isCode c || c.before args0 about1) = true := by decide +kernel
set_option maxRecDepth 65536 in
theorem w_t5 : ((((words1.drop 24).drop 24).drop 24).drop 24).all (fun c => isCode c || c.before args0 about1) = true := by decide +kernel
theorem w_tables : (allAtoms (Jvm.Cond.code x code maxLocals ret :: tables_1)).before args0 about1 = true := by
  rw [allAtoms_all]
  show words1.all (fun c => c.before args0 about1) = true
  refine all_split ?_ w_codes
  rw [← List.take_append_drop 24 words1, List.all_append, w_t1, ← List.take_append_drop 24 (words1.drop 24), List.all_append, w_t2, ← List.take_append_drop 24 ((words1.drop 24).drop 24), List.all_append, w_t3, ← List.take_append_drop 24 (((words1.drop 24).drop 24).drop 24), List.all_append, w_t4, w_t5]
  rfl
set_option maxRecDepth 65536 in
theorem w_rest : rest_1_c.before args0 about1 = true := by decide +kernel
set_option maxRecDepth 65536 in
theorem w_case : (Jvm.Cond.and given_1 narrow_1).before args0 about1 = true := by decide +kernel
set_option maxRecDepth 65536 in
theorem w_consts : constsHeld consts_1 about1 := Jvm.Lit.constsHeldB_iff.mp (by decide +kernel)
theorem w_applies : (headSpec (Jvm.Cond.code x code maxLocals ret :: tables_1) room_1).applies x e0.platform about1 = true :=
  (Spec.applies_iff w_frames).mpr ⟨w_running, w_runnable, w_alone, w_named, w_hears, w_ripe, w_room, w_tables⟩
theorem atStart : AtStart classFile x code maxLocals ret World_1 tables_1 room_1 Calls_1 rest_1 Pre_1 launch0 p0 e0 about1 theMethod args0 below0 :=
  ⟨lists_1, trivial, launch0.admits_env _ _ _, launch0.least_env, fairChoices_fair.cas, fairChoices_fair.clock, w_frames, w_args, w_heap, w_applies, ⟨w_consts, trivial⟩, w_rest, w_case⟩
end start1
theorem witness_1 : WitnessClaimed_1 := ⟨start1.p0, start1.e0, start1.about1, start1.theMethod, start1.args0, start1.below0, start1.atStart⟩
end Jvm.Pilot.@@N@@
