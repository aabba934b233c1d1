import JvmDerived
import JvmDerived.Pilot.@@N@@Statement
import JvmDerived.Pilot.@@N@@Code
set_option linter.unusedVariables false
set_option linter.unusedSimpArgs false
set_option maxRecDepth 65536
set_option maxHeartbeats 40000000
@@BLOCK:HandJ.lean.txt@@
@@BLOCK:SymMore.lean.txt@@
@@BLOCK:LamKit.lean.txt@@
namespace Jvm.RoadKit
open Sem ClassFile Op Lib Jvm.Stand Jvm.Free Jvm.LawKit
section New
variable {p : Program} {l : Launch} {e : Env} {R : Room} {s : State} {m : MethodId} {args : Array Value} {below : List Frame} {meth : Method} {c : Code} {T : State} {locs : List Loc} {cells slots : Nat}
theorem retI (X : Stand p l e R s m args below meth c T locs cells slots) (hx : p.tables.exec = Jvm.exec) {pc : Nat} {Ls : Array Slot} {z : Int32} {rest : List Value} (hret : meth.sig.returnType = some .int) (hd : decode c.code pc = .ok (.ireturn, 1)) {fs : List Frame}
    (hl : ∀ (f : JFrame) (acts : List Action), f.method = m → f.locked = none → f.entered = [] → (doReturn e (T.setTop f) acts (some (.int z))).1 = T.setFrames fs) : Steps p.tables e below (T.setTop (mkF m pc Ls (.int z :: rest))) (T.setFrames fs) := by
  have hm' : T.vm.method? m = some meth := X.method'
  have hn : narrow .int (.int z) = .int z := rfl
  show Steps p.tables e below (T.setTop { method := m, pc := pc, locals := Ls, stack := _ :: rest, locked := none }) _
  jvm_step X.here [X.here.top, hx, hd, hm', hret, hn]
  first | (intro acts; rw [hl _ acts rfl rfl rfl]) | rw [hl _ _ rfl rfl rfl]
  exact Steps.refl _
end New
theorem hbx {c : ClassFile.Code} {code : ByteArray} (h : c.code = code) : ∀ ⦃pc : Nat⦄ ⦃r : Except ClassFile.DecodeError (ClassFile.Instr × Nat)⦄, decode code pc = r → decode c.code pc = r := fun _ _ q => hb h q
abbrev rmk (f c s l : Nat) : Room := { frames := f, cells := c, slots := s, locals := l }
section Sq
variable {p : Program} {l : Launch} {e : Env} {R : Room} {s : State} {m : MethodId} {args : Array Value} {below : List Frame} {meth : Method} {c : Code} {T target : State} {locs : List Loc} {cells slots pc : Nat} {Ls : Array Slot} {st : List Value}
theorem sI (X : Stand p l e R s m args below meth c T locs cells slots) (hx : p.tables.exec = Jvm.exec) {k : Fin 4} {v : Int32} (hd : decode c.code pc = .ok (.iload_n k, 1)) (hl : Ls[k.val]? = some (.val (.int v))) (K : Steps p.tables e below (T.setTop (mkF m (pc + 1) Ls (.int v :: st))) target) : Steps p.tables e below (T.setTop (mkF m pc Ls st)) target := XS.iloadN X.here hx rfl hd hl K
theorem sJ (X : Stand p l e R s m args below meth c T locs cells slots) (hx : p.tables.exec = Jvm.exec) {k : Nat} {v : Int32} (hd : decode c.code pc = .ok (.iload k, 2)) (hl : Ls[k]? = some (.val (.int v))) (K : Steps p.tables e below (T.setTop (mkF m (pc + 2) Ls (.int v :: st))) target) : Steps p.tables e below (T.setTop (mkF m pc Ls st)) target := XS.iload X.here hx rfl hd hl K
theorem sA (X : Stand p l e R s m args below meth c T locs cells slots) (hx : p.tables.exec = Jvm.exec) {k : Fin 4} {v : Value} (hd : decode c.code pc = .ok (.aload_n k, 1)) (hl : Ls[k.val]? = some (.val v)) (hv : v.isRef = true) (K : Steps p.tables e below (T.setTop (mkF m (pc + 1) Ls (v :: st))) target) : Steps p.tables e below (T.setTop (mkF m pc Ls st)) target := XS.aloadN X.here hx rfl hd hl hv K
theorem sB (X : Stand p l e R s m args below meth c T locs cells slots) (hx : p.tables.exec = Jvm.exec) {k : Nat} {v : Value} (hd : decode c.code pc = .ok (.aload k, 2)) (hl : Ls[k]? = some (.val v)) (hv : v.isRef = true) (K : Steps p.tables e below (T.setTop (mkF m (pc + 2) Ls (v :: st))) target) : Steps p.tables e below (T.setTop (mkF m pc Ls st)) target := XS.aload X.here hx rfl hd hl hv K
theorem sC (X : Stand p l e R s m args below meth c T locs cells slots) (hx : p.tables.exec = Jvm.exec) {i : Int} (hd : decode c.code pc = .ok (.iconst i, 1)) (K : Steps p.tables e below (T.setTop (mkF m (pc + 1) Ls (.int (Int32.ofInt i) :: st))) target) : Steps p.tables e below (T.setTop (mkF m pc Ls st)) target := XS.iconst X.here hx rfl hd K
end Sq
abbrev vi (x : Int32) : Slot := .val (.int x)
abbrev vr (a : Addr) : Slot := .val (.ref a)
abbrev un : Slot := .unset
theorem nl {a b : Nat} (h : Nat.ble a b = true) : a ≤ b := Nat.le_of_ble_eq_true h
abbrev jS : String := "java/lang/String"
theorem mo {α : Type} {l : List α} {a : α} (i : Nat) (h : l[i]? = some a) : a ∈ l := List.mem_of_getElem? h
theorem own_nf {Z s : State} {a0 : Array Value} {C : String} {y : MethodName} (hZ : Z.Warmed39 s.vm) (w : (Cond.selects C y y).before a0 Z = true) : NotFace s y := notFace_of_selects (args := #[]) (mvT hZ w)
theorem own_m0 {a : Addr} {l : List Addr} {P : Prop} : a ∈ a :: l ∨ P := Or.inl (List.mem_cons_self ..)
/-- a body's contract, written short -/
abbrev OwnMet (l : Launch) (Z : State) (y : MethodName) (bytes : ByteArray) (maxL : Nat) (ret : Option FieldType) (ws : List Cond) (rm : Room) (as' : Array Value) (h0 : Heap) (Q : Option Value → Heap → List Loc → Prop) : Prop :=
  MetFree l y (head1 (Cond.code y bytes maxL ret :: ws) rm) (fun a U => a = as' ∧ (Z.Warmed39 U.vm ∧ Z.WarmedH U.vm) ∧ U.heap = h0) (fun _ _ _ _ _ => True) (fun _ U o U' => ∃ v L, o = .returned v ∧ Q v U'.heap L ∧ FrameEnd U o U' L rm.cells rm.slots)
theorem own_body {l : Launch} {Z : State} {y : MethodName} {bytes : ByteArray} {maxL : Nat} {ret : Option FieldType} {ws : List Cond} {rm : Room} {as' : Array Value} {h0 : Heap} {Q : Option Value → Heap → List Loc → Prop} {L0 : Array Slot} (hp : plainFor y = true) (hef : ∀ m, entryFrame m as' maxL = mkF m 0 L0 [])
    (k : ∀ (p : Program) (e : Env) (s : State) (m : MethodId) (below : List Frame) (meth : Method) (c : Code) (s₁ : State), p.tables.exec = Jvm.exec → c.code = bytes → c.maxLocals = maxL → s.vm.findClass y.cls = some m.cls → meth.name = y.name → meth.sig.returnType = ret → Z.Warmed39 s.vm → Z.WarmedH s.vm → s.methodNamed? y = some m → Stand p l e rm s m as' below meth c s₁ [] 0 0 → s₁.heap = h0 →
      ∃ (T : State) (L : List Loc) (ce sl : Nat) (v : Option Value), Stand p l e rm s m as' below meth c T L ce sl ∧ (ret = none → v = none) ∧ ce ≤ rm.cells ∧ sl ≤ rm.slots ∧ Q v T.heap L ∧
        ∀ fs, (∀ (f : JFrame) (acts : List Action), f.method = m → f.locked = none → f.entered = [] → (doReturn e (T.setTop f) acts v).1 = T.setFrames fs) → Steps p.tables e below (s₁.setTop (mkF m 0 L0 [])) (T.setFrames fs)) :
    OwnMet l Z y bytes maxL ret ws rm as' h0 Q := by
  refine MetFree.of_bodySF hp hisR ?_
  intro p e s m args below meth c s₁ Bd hml hP hK
  obtain ⟨hargs, ⟨hZ, hH⟩, hh⟩ := hP
  subst hargs
  obtain ⟨T, L, ce, sl, v, X, hv, hc, hs, hq, st⟩ := k p e s m below meth c s₁ Bd.exec Bd.bytes hml (findClass_of_methodNamed Bd.named) (name_of_methodNamed Bd.named Bd.method).1 Bd.returns hZ hH Bd.named (Stand.of_body Bd) (by rw [← hh, Bd.state]; rfl)
  obtain ⟨fs, hr, hrun, hended, hW, hsame⟩ := X.leave (v := v) (fun h => hv (Bd.returns ▸ h))
  exact ⟨_, _, castTop (hef m) (st fs hr), hrun, hended, v, L, rfl, hq, ⟨_, rfl⟩, hW, hsame.mono hc hs⟩
abbrev OwnMetW (l : Launch) (Z : State) (y : MethodName) (bytes : ByteArray) (maxL : Nat) (ret : Option FieldType) (ws : List Cond) (rm : Room) (as' : Array Value) (h0 : Heap) (Q : Option Value → Heap → List Loc → Prop) : Prop :=
  MetFree l y (head1 (Cond.code y bytes maxL ret :: ws) rm) (fun a U => a = as' ∧ (Z.Warmed39 U.vm ∧ Z.WarmedH U.vm) ∧ U.heap = h0 ∧ IB Z U.vm []) (fun _ _ _ _ _ => True) (fun _ U o U' => ∃ v L, o = .returned v ∧ Q v U'.heap L ∧ ReturnedEndW U o U' L rm.cells rm.slots)
theorem own_wide {l : Launch} {Z : State} {y : MethodName} {bytes : ByteArray} {maxL : Nat} {ret : Option FieldType} {ws : List Cond} {rm : Room} {as' : Array Value} {h0 : Heap} {Q : Option Value → Heap → List Loc → Prop} (h : OwnMet l Z y bytes maxL ret ws rm as' h0 Q) : OwnMetW l Z y bytes maxL ret ws rm as' h0 Q :=
  MetFree.mono h (fun _ _ hp => ⟨hp.1, hp.2.1, hp.2.2.1⟩) (fun _ _ _ _ _ hk => hk) (fun _ _ _ _ _ ⟨v, L, h1, h2, h3⟩ => ⟨v, L, h1, h2, ReturnedEndW.of_narrow h3.1 h3.2.1 h3.2.2⟩)
theorem own_backOf {p : Program} {l : Launch} {e : Env} {R : Room} {s : State} {args : Array Value} {below : List Frame} {Z : State} {a0 : Array Value} {h : Heap} {y : MethodName} {bytes : ByteArray} {maxL : Nat} {ret : Option FieldType} {rm : Room} {len W : Nat} {as' : Array Value} {Q : Option Value → Heap → List Loc → Prop}
    (hM : OwnMet l Z y bytes maxL ret [] rm as' h Q) (hZ : Z.Warmed39 s.vm) (hH : Z.WarmedH s.vm) (wc : (Cond.code y bytes maxL ret).before a0 Z = true) (wz : (Cond.initialized y.cls).before a0 Z = true) (hf : rm.frames + 1 ≤ R.frames) (hl : W + (maxL + 11) + rm.locals ≤ R.locals) :
    Back l R p e below s args y len W (fun A a => a = as' ∧ A.U.heap = h ∧ A.cells + rm.cells ≤ R.cells ∧ A.slots + rm.slots ≤ R.slots)
      (fun A _ v B => ∃ L, Q v B.U.heap L ∧ B.locs = A.locs ++ L ∧ B.cells = A.cells + rm.cells ∧ B.slots = A.slots + rm.slots) :=
  Back.of_free (bytes := bytes) (maxL := maxL) (ret := ret) (E := fun _ _ o t L k n => k = rm.cells ∧ n = rm.slots ∧ ∃ v, o = .returned v ∧ Q v t.heap L) hM hf hl
    (fun m meth c A a Y hp => have hU : Z.Warmed39 A.U.vm := wtrans hZ Y.warmed
      ⟨by show (Cond.and _ .tt).before a A.U = true; rw [Cond.before_and, mv hU wc]; rfl, mv hU wc, mv hU wz, hp.2.2.1, hp.2.2.2⟩)
    (fun m meth c A a g mk Y hp => ⟨hp.1, ⟨wtrans hZ Y.warmed, State.WarmedH.trans hH Y.warmed⟩, hp.2.1⟩) (fun _ _ _ _ _ _ _ _ _ => trivial)
    (fun _ _ _ _ ⟨v, L, h1, h2, h3⟩ => ⟨L, _, _, h3, rfl, rfl, v, h1, h2⟩)
    (fun m meth c A a g mk v t L k n Y hp _ _ ⟨e1, e2, v', e3, e4⟩ => by cases e3; subst e1 e2; exact ⟨L, e4, rfl, rfl, rfl⟩)
section Calls
variable {p : Program} {l : Launch} {e : Env} {R : Room} {s : State} {m : MethodId} {args : Array Value} {below : List Frame} {meth : Method} {c : Code} {T : State} {locs : List Loc} {cells slots : Nat} {Z : State} {a0 : Array Value} {h : Heap}
  {own : String} {index : Nat} {y z : MethodName} {bytes : ByteArray} {maxL : Nat} {ret : Option FieldType} {rm : Room} {as' : Array Value} {Q : Option Value → Heap → List Loc → Prop} {pc : Nat} {Ls : Array Slot} {argsL rest : List Value} {W : Nat}
/-- what a call leaves -/
abbrev OwnCame (p : Program) (l : Launch) (e : Env) (R : Room) (s : State) (m : MethodId) (args : Array Value) (below : List Frame) (meth : Method) (c : Code) (T : State) (locs : List Loc) (cells slots : Nat) (rm : Room) (Q : Option Value → Heap → List Loc → Prop) (pc pc' : Nat) (Ls : Array Slot) (st rest : List Value) : Prop :=
  ∃ (v : Option Value) (T' : State) (L : List Loc), Stand p l e R s m args below meth c T' (locs ++ L) (cells + rm.cells) (slots + rm.slots) ∧ Q v T'.heap L ∧
    ∀ target, Steps p.tables e below (T'.setTop (mkF m pc' Ls (v.toList ++ rest))) target → Steps p.tables e below (T.setTop (mkF m pc Ls st)) target
theorem own_callS (X : Stand p l e R s m args below meth c T locs cells slots) (hx : p.tables.exec = Jvm.exec) (hZ : Z.Warmed39 s.vm) (hH : Z.WarmedH s.vm) (hown : s.vm.findClass own = some m.cls)
    (w1 : (Cond.methodLink own index y).before a0 Z = true) (w2 : (Cond.static y).before a0 Z = true) (w3 : (Cond.initialized y.cls).before a0 Z = true) (w4 : (Cond.code y bytes maxL ret).before a0 Z = true)
    (hM : OwnMet l Z y bytes maxL ret [] rm as' h Q) (eT : T.heap = h) (hsize : Ls.size = c.maxLocals) (hlen : ∀ sig, parseMethodDescriptor y.desc = some sig → argsL.length = sig.parameters.length) (hd : decode c.code pc = .ok (.invokestatic index, 3))
    (has : argsL.toArray = as' := by rfl) (hW : (rest.map fun v => v.category).sum ≤ W := by exact Nat.le_of_eq rfl) (hf : rm.frames + 1 ≤ R.frames := by decide) (hl : W + (maxL + 11) + rm.locals ≤ R.locals := by decide) (hc : cells + rm.cells ≤ R.cells := by decide) (hs : slots + rm.slots ≤ R.slots := by decide) (hy : y.cls ≠ "java/lang/invoke/MethodHandle" ∧ y.cls ≠ "java/lang/invoke/VarHandle" := by decide) :
    OwnCame p l e R s m args below meth c T locs cells slots rm Q pc (pc + 3) Ls (argsL.reverse ++ rest) rest := by
  obtain ⟨v, vm1, ⟨T', L', c', n'⟩, -, XB, ⟨L, hQ, l1, y1, z1⟩, st⟩ := Jvm.LawKit.callS X hx (y := y) hown (mvT hZ w1) (mvT hZ w2) (mvT hZ w3) (mvT hZ w4) hy (own_backOf (W := W) hM hZ hH w4 w3 hf hl) (g := mkF m pc Ls (argsL.reverse ++ rest)) rfl hsize (argsL := argsL) (rest := rest) hlen rfl (by show 2 * 0 + _ ≤ _; omega) hd (fun _ _ => ⟨has, eT, hc, hs⟩)
  dsimp only at XB l1 y1 z1 st hQ
  subst l1 y1 z1
  exact ⟨v, T', L, XB, hQ, st⟩
theorem own_special (X : Stand p l e R s m args below meth c T locs cells slots) (hx : p.tables.exec = Jvm.exec) (hZ : Z.Warmed39 s.vm) (hH : Z.WarmedH s.vm) (hown : s.vm.findClass own = some m.cls) {a : Addr}
    (w1 : (Cond.methodLink own index y).before a0 Z = true) (w2 : (Cond.instanceMethod y).before a0 Z = true) (w3 : (Cond.initialized y.cls).before a0 Z = true) (w4 : (Cond.code y bytes maxL none).before a0 Z = true)
    (hM : OwnMet l Z y bytes maxL none [] rm as' h Q) (eT : T.heap = h) (hsize : Ls.size = c.maxLocals) (hlen : ∀ sig, parseMethodDescriptor y.desc = some sig → argsL.length = sig.parameters.length) (hd : decode c.code pc = .ok (.invokespecial index, 3))
    (has : (.ref a :: argsL).toArray = as' := by rfl) (hW : (rest.map fun v => v.category).sum ≤ W := by exact Nat.le_of_eq rfl) (hf : rm.frames + 1 ≤ R.frames := by decide) (hl : W + (maxL + 11) + rm.locals ≤ R.locals := by decide) (hc : cells + rm.cells ≤ R.cells := by decide) (hs : slots + rm.slots ≤ R.slots := by decide) (hy : y.cls ≠ "java/lang/invoke/MethodHandle" ∧ y.cls ≠ "java/lang/invoke/VarHandle" := by decide) (hy1 : y.name = "<init>" := by rfl) :
    OwnCame p l e R s m args below meth c T locs cells slots rm Q pc (pc + 3) Ls (argsL.reverse ++ .ref a :: rest) rest := by
  obtain ⟨v, vm1, ⟨T', L', c', n'⟩, -, XB, ⟨L, hQ, l1, y1, z1⟩, st⟩ := X.specialBack hx (y := y) hy1 hown (mvT hZ w1) (mvT hZ w2) (mvT hZ w4) hy (own_backOf (W := W) hM hZ hH w4 w3 hf hl) (g := mkF m pc Ls (argsL.reverse ++ .ref a :: rest)) rfl hsize (Steps.refl _) (a := a) (argsL := argsL) (rest := rest) hlen rfl (by show 2 * 0 + _ ≤ _; omega) hd (fun _ _ => ⟨has, eT, hc, hs⟩)
  dsimp only at XB l1 y1 z1 st hQ
  subst l1 y1 z1
  exact ⟨v, T', L, XB, hQ, fun t k => st.trans k⟩
theorem own_virtual (X : Stand p l e R s m args below meth c T locs cells slots) (hx : p.tables.exec = Jvm.exec) (hZ : Z.Warmed39 s.vm) (hH : Z.WarmedH s.vm) (hown : s.vm.findClass own = some m.cls) {a : Addr} {C : String} (E : Exa Z h a C)
    (w1 : (Cond.methodLink own index y).before a0 Z = true) (w2 : (Cond.declares y).before a0 Z = true) (nf : NotFace s y) (w5 : (Cond.selects C y z).before a0 Z = true) (w6 : (Cond.instanceMethod z).before a0 Z = true) (w3 : (Cond.initialized z.cls).before a0 Z = true) (w4 : (Cond.code z bytes maxL ret).before a0 Z = true)
    (hM : OwnMet l Z z bytes maxL ret [] rm as' h Q) (eT : T.heap = h) (hsize : Ls.size = c.maxLocals) (hlen : ∀ sig, parseMethodDescriptor y.desc = some sig → argsL.length = sig.parameters.length) (hd : decode c.code pc = .ok (.invokevirtual index, 3))
    (has : (.ref a :: argsL).toArray = as' := by rfl) (hW : (rest.map fun v => v.category).sum ≤ W := by exact Nat.le_of_eq rfl) (hf : rm.frames + 1 ≤ R.frames := by decide) (hl : W + (maxL + 11) + rm.locals ≤ R.locals := by decide) (hc : cells + rm.cells ≤ R.cells := by decide) (hs : slots + rm.slots ≤ R.slots := by decide) (hy : y.cls ≠ "java/lang/invoke/MethodHandle" ∧ y.cls ≠ "java/lang/invoke/VarHandle" := by decide) :
    OwnCame p l e R s m args below meth c T locs cells slots rm Q pc (pc + 3) Ls (argsL.reverse ++ .ref a :: rest) rest := by
  obtain ⟨cB, kB, i1, -, i3⟩ := isOf hZ eT E
  obtain ⟨v, vm1, ⟨T', L', c', n'⟩, -, XB, ⟨L, hQ, l1, y1, z1⟩, st⟩ := X.virtualBack hx (y := y) (z := z) hown (mvT hZ w1) (mvT hZ w2) nf (mvT hZ w5) (mvT hZ w6) hy (own_backOf (W := W) hM hZ hH w4 w3 hf hl) i1 i3 (g := mkF m pc Ls (argsL.reverse ++ .ref a :: rest)) rfl hsize (Steps.refl _) (argsL := argsL) (rest := rest) hlen rfl (by show 2 * 0 + _ ≤ _; omega) hd (fun _ _ => ⟨has, eT, hc, hs⟩)
  dsimp only at XB l1 y1 z1 st hQ
  subst l1 y1 z1
  exact ⟨v, T', L, XB, hQ, fun t k => st.trans k⟩
theorem own_private (X : Stand p l e R s m args below meth c T locs cells slots) (hx : p.tables.exec = Jvm.exec) (hZ : Z.Warmed39 s.vm) (hH : Z.WarmedH s.vm) (hown : s.vm.findClass own = some m.cls) {a : Addr} {C : String} (E : Exa Z h a C)
    (w1 : (Cond.methodLink own index y).before a0 Z = true) (w2 : (Cond.instanceMethod y).before a0 Z = true) (w5 : (Cond.selects y.cls y y).before args s = true) (w6 : (Cond.privateMethod y).before a0 Z = true) (w3 : (Cond.initialized y.cls).before a0 Z = true) (w4 : (Cond.code y bytes maxL ret).before a0 Z = true)
    (hM : OwnMet l Z y bytes maxL ret [] rm as' h Q) (eT : T.heap = h) (hsize : Ls.size = c.maxLocals) (hlen : ∀ sig, parseMethodDescriptor y.desc = some sig → argsL.length = sig.parameters.length) (hd : decode c.code pc = .ok (.invokevirtual index, 3))
    (has : (.ref a :: argsL).toArray = as' := by rfl) (hW : (rest.map fun v => v.category).sum ≤ W := by exact Nat.le_of_eq rfl) (hf : rm.frames + 1 ≤ R.frames := by decide) (hl : W + (maxL + 11) + rm.locals ≤ R.locals := by decide) (hc : cells + rm.cells ≤ R.cells := by decide) (hs : slots + rm.slots ≤ R.slots := by decide) (hy : y.cls ≠ "java/lang/invoke/MethodHandle" ∧ y.cls ≠ "java/lang/invoke/VarHandle" := by decide) :
    OwnCame p l e R s m args below meth c T locs cells slots rm Q pc (pc + 3) Ls (argsL.reverse ++ .ref a :: rest) rest := by
  obtain ⟨cq, q1, q2⟩ := E.cell
  obtain ⟨v, vm1, ⟨T', L', c', n'⟩, -, XB, ⟨L, hQ, l1, y1, z1⟩, st⟩ := X.privateBack hx (y := y) hown (mvT hZ w1) (mvT hZ w2) w5 (Cond.privateMethod_at (mvP hZ w6 (args := #[]))) (mvT hZ w4) hy (own_backOf (W := W) hM hZ hH w4 w3 hf hl) (g := mkF m pc Ls (argsL.reverse ++ .ref a :: rest)) rfl hsize (Steps.refl _) (a := a) (by rw [eT]; exact q1) q2 (argsL := argsL) (rest := rest) hlen rfl (by show 2 * 0 + _ ≤ _; omega) hd (fun _ _ => ⟨has, eT, hc, hs⟩)
  dsimp only at XB l1 y1 z1 st hQ
  subst l1 y1 z1
  exact ⟨v, T', L, XB, hQ, fun t k => st.trans k⟩
theorem own_iface (X : Stand p l e R s m args below meth c T locs cells slots) (hx : p.tables.exec = Jvm.exec) (hZ : Z.Warmed39 s.vm) (hH : Z.WarmedH s.vm) (hown : s.vm.findClass own = some m.cls) {a : Addr} {C : String} {count : Nat} (E : Exa Z h a C)
    (w1 : (Cond.methodLink own index y).before a0 Z = true) (w2 : (Cond.declares y).before a0 Z = true) (w7 : (Cond.interfaceMethod y.cls y.cls y.name y.desc).before a0 Z = true) (w5 : (Cond.selects C y z).before a0 Z = true) (w6 : (Cond.instanceMethod z).before a0 Z = true) (w8 : (Cond.publicMethod z).before a0 Z = true) (w9 : (Cond.unhidden C y.name y.desc).before a0 Z = true) (wc : (Cond.castable C y.cls).before a0 Z = true) (w3 : (Cond.initialized z.cls).before a0 Z = true) (w4 : (Cond.code z bytes maxL ret).before a0 Z = true)
    (hM : OwnMet l Z z bytes maxL ret [] rm as' h Q) (eT : T.heap = h) (hsize : Ls.size = c.maxLocals) (hlen : ∀ sig, parseMethodDescriptor y.desc = some sig → argsL.length = sig.parameters.length) (hd : decode c.code pc = .ok (.invokeinterface index count, 5))
    (has : (.ref a :: argsL).toArray = as' := by rfl) (hW : (rest.map fun v => v.category).sum ≤ W := by exact Nat.le_of_eq rfl) (hf : rm.frames + 1 ≤ R.frames := by decide) (hl : W + (maxL + 11) + rm.locals ≤ R.locals := by decide) (hc : cells + rm.cells ≤ R.cells := by decide) (hs : slots + rm.slots ≤ R.slots := by decide) (hy : y.cls ≠ "java/lang/invoke/MethodHandle" ∧ y.cls ≠ "java/lang/invoke/VarHandle" := by decide) :
    OwnCame p l e R s m args below meth c T locs cells slots rm Q pc (pc + 5) Ls (argsL.reverse ++ .ref a :: rest) rest := by
  obtain ⟨cB, kB, i1, i2, i3⟩ := isOf hZ eT E
  obtain ⟨v, vm1, ⟨T', L', c', n'⟩, -, XB, ⟨L, hQ, l1, y1, z1⟩, st⟩ := X.interfaceBack hx (xi := y) (y := z) hown (mvT hZ w1) (mvT hZ w2) (mvT hZ w7 (by simp [Cond.onTables, Cond.keepsFace, Cond.keeps, Cond.steady, Cond.faceAtom, hy.1, hy.2])) (mvT hZ w5) (mvT hZ w6) (mvT hZ w8) (mvT hZ w9) (mvT hZ wc) hy (own_backOf (W := W) hM hZ hH w4 w3 hf hl) i1 i2 i3 (g := mkF m pc Ls (argsL.reverse ++ .ref a :: rest)) rfl hsize (Steps.refl _) (argsL := argsL) (rest := rest) hlen rfl (by show 2 * 0 + _ ≤ _; omega) hd (fun _ _ => ⟨has, eT, hc, hs⟩)
  dsimp only at XB l1 y1 z1 st hQ
  subst l1 y1 z1
  exact ⟨v, T', L, XB, hQ, fun t k => st.trans k⟩
end Calls
theorem own_lswHit {p : Program} {l : Launch} {e : Env} {R : Room} {s : State} {m : MethodId} {args : Array Value} {below : List Frame} {meth : Method} {c : Code} {T target : State} {locs : List Loc} {cells slots pc pc' len : Nat} {Ls : Array Slot} {rest : List Value} {k : Int32} {df a off : Int} {ps : Array (Int × Int)} (X : Stand p l e R s m args below meth c T locs cells slots) (hx : p.tables.exec = Jvm.exec)
    (hd : decode c.code pc = .ok (.lookupswitch df ps, len)) (hso : (ps.toList.zip (ps.toList.drop 1)).all (fun (a, next) => a.1 < next.1) = true) (hf : ps.find? (·.1 == k.toInt) = some (a, off)) (ho : 0 ≤ (pc : Int) + off) (hp : ((pc : Int) + off).toNat = pc')
    (K : Steps p.tables e below (T.setTop (mkF m pc' Ls rest)) target) : Steps p.tables e below (T.setTop (mkF m pc Ls (.int k :: rest))) target := X.lookupswitchHit hx (g := mkF m pc Ls (.int k :: rest)) rfl rfl hd hso hf ho target (by subst hp; exact K)
theorem own_nf_inst {s : State} {args : Array Value} {y : MethodName} {n : Nat} (w : (Cond.instantiable y.cls n).before args s = true) : NotFace s y := fun r0 h0 => by
  have hc := findClass_of_methodNamed h0
  obtain ⟨c, k, g1, g2, -, g4, -⟩ := Cond.instantiable_spec w
  cases hc.symm.trans g1
  exact ⟨k, g2, by simp at g4; exact g4.1⟩
theorem own_getD_all (j : Nat) (d : Value) : ∀ n, (List.replicate n d).getD j d = d := by
  intro n
  simp only [List.getD_eq_getElem?_getD, List.getElem?_replicate]
  split <;> rfl
theorem own_c_nar_char (x : Int32) : ((nar .char x).toInt - x.toInt) % 65536 = 0 ∧ 0 ≤ (nar .char x).toInt ∧ (nar .char x).toInt < 65536 := c_i2c x
theorem own_mask (x m : Int32) (k : Nat) (hk : k ≤ 31) (hm : m.toBitVec.toNat = 2 ^ k - 1) (P : Int) (hP : ((2 ^ k : Nat) : Int) = P) : (x &&& m).toInt = x.toInt % P := by rw [← hP]; exact c_mask x m k hk hm
theorem own_ushr (x q : Int32) (k : Nat) (hk : q.toBitVec.toNat % 32 = k) (h0 : 0 < k) (P : Int) (hP : ((2 ^ k : Nat) : Int) = P) : ((x.toUInt32 >>> (q &&& 31).toUInt32).toInt32).toInt = (x.toInt % 4294967296) / P := by rw [← hP]; exact c_iushr x q k hk h0
end Jvm.RoadKit
namespace Jvm.RoadKit
open Sem ClassFile Op Lib Jvm.Stand Jvm.Free Jvm.LawKit
open Jvm.Lambda (isMade isMade_spec sameMethod resolvedOf_method resolvedOf_class resolvedOf_field)
abbrev NU : String := "com/example/informal_search/informalsearch/index/Numbering"
def own_sg : Lambda.Shape := (Jvm.Lambda.Shape.mk "java/util/function/Function" "apply" (Jvm.ClassFile.MethodDescriptor.mk ([(Jvm.ClassFile.FieldType.object "java/lang/Object")] : List Jvm.ClassFile.FieldType) (Option.some (Jvm.ClassFile.FieldType.object "java/lang/Object"))) ([(Jvm.ClassFile.FieldType.object "com/example/informal_search/informalsearch/index/Numbering")] : List Jvm.ClassFile.FieldType) (5 : Nat) "com/example/informal_search/informalsearch/index/Numbering" "newNumber" (Jvm.ClassFile.MethodDescriptor.mk ([(Jvm.ClassFile.FieldType.object "java/lang/String")] : List Jvm.ClassFile.FieldType) (Option.some Jvm.ClassFile.FieldType.int)) false (Jvm.ClassFile.MethodDescriptor.mk ([(Jvm.ClassFile.FieldType.object "java/lang/String")] : List Jvm.ClassFile.FieldType) (Option.some (Jvm.ClassFile.FieldType.object "java/lang/Integer"))))
def own_fwB : ByteArray := ⟨#[0x2a, 0xb4, 0x00, 0x0f, 0x2b, 0xc0, 0x00, 0x13, 0xb6, 0x00, 0x19, 0xb8, 0x00, 0x1f, 0xb0]⟩
theorem own_f0 : decode own_fwB 0 = .ok (.aload_n 0, 1) := by decide +kernel
theorem own_f1 : decode own_fwB 1 = .ok (.getfield 15, 3) := by decide +kernel
theorem own_f4 : decode own_fwB 4 = .ok (.aload_n 1, 1) := by decide +kernel
theorem own_f5 : decode own_fwB 5 = .ok (.checkcast 19, 3) := by decide +kernel
theorem own_f8 : decode own_fwB 8 = .ok (.invokevirtual 25, 3) := by decide +kernel
theorem own_f11 : decode own_fwB 11 = .ok (.invokestatic 31, 3) := by decide +kernel
theorem own_f14 : decode own_fwB 14 = .ok (.areturn, 1) := by decide +kernel
def own_D : ClassFile := (own_sg.file NU).getD { minorVersion := 0, majorVersion := 0, constantPool := #[], accessFlags := 0, thisClass := 0, superClass := 0, interfaces := #[], fields := #[], methods := #[], attributes := #[] }
def own_fw : Method := ((layoutMethods own_D).bind (·[1]?)).getD default
def own_laid : Array Field × Array FieldType × Array FieldType := (layoutFields own_D 0).getD (#[], #[], #[])
theorem own_file : own_sg.file NU = some own_D := by
  have h : (own_sg.file NU).isSome = true := by decide +kernel
  obtain ⟨x, hx⟩ := Option.isSome_iff_exists.mp h
  simp [own_D, hx]
theorem own_second : ∀ ms, layoutMethods own_D = some ms → ms[1]? = some own_fw := by
  intro ms hms
  have h : ((layoutMethods own_D).bind (·[1]?)).isSome = true := by decide +kernel
  obtain ⟨x, hx⟩ := Option.isSome_iff_exists.mp h
  have hf : own_fw = x := by simp [own_fw, hx]
  rw [hms] at hx
  rw [hf]
  exact hx
theorem own_laid_is : layoutFields own_D 0 = some own_laid := by
  have h : (layoutFields own_D 0).isSome = true := by decide +kernel
  obtain ⟨x, hx⟩ := Option.isSome_iff_exists.mp h
  simp [own_laid, hx]
theorem own_fcode : (own_fw.code.map fun c => (c.code.data, c.maxLocals)) = some (own_fwB.data, 2) := by decide +kernel
theorem own_fflags : (own_fw.accessFlags, own_fw.name, own_fw.sig.returnType) = (0x0001, "apply", (some (.object "java/lang/Object") : Option FieldType)) := by decide +kernel
theorem own_eM : own_D.constantPool[25]? = some (.methodref 21 24) ∧ own_D.constantPool.className? 21 = some NU ∧ own_D.constantPool.nameAndType? 24 = some ("newNumber", "(Ljava/lang/String;)I") := by decide +kernel
theorem own_eC : own_D.constantPool[21]? = some (.class_ 20) ∧ own_D.constantPool.string? 20 = some NU ∧ 21 ≠ own_D.thisClass := by decide +kernel
theorem own_eS : own_D.constantPool[19]? = some (.class_ 18) ∧ own_D.constantPool.string? 18 = some "java/lang/String" ∧ 19 ≠ own_D.thisClass := by decide +kernel
theorem own_eV : own_D.constantPool[31]? = some (.methodref 27 30) ∧ own_D.constantPool.className? 27 = some "java/lang/Integer" ∧ own_D.constantPool.nameAndType? 30 = some ("valueOf", "(I)Ljava/lang/Integer;") := by decide +kernel
theorem own_eI : own_D.constantPool[27]? = some (.class_ 26) ∧ own_D.constantPool.string? 26 = some "java/lang/Integer" ∧ 27 ≠ own_D.thisClass := by decide +kernel
theorem own_eF0 : own_D.constantPool[15]? = some (.fieldref 2 14) ∧ own_D.constantPool.nameAndType? 14 = some ("arg$1", "L" ++ NU ++ ";") ∧ own_laid.1.findIdx? (·.name == "arg$1") = some 0 ∧ (own_laid.1[0]?).map (fun f => (f.isStatic, f.slot)) = some (false, 0) := by decide +kernel
theorem own_laidT : own_laid.2.1 = #[.object NU] := by decide +kernel
theorem own_made_facts {vm : Vm} {d c : ClassId} {dk : Class} {tV : MethodId} {cI cS : ClassId} {kI : Class} (hd : vm.classes[d]? = some dk) (hname : dk.name = NU) (h : isMade { classPath := fun _ => none } vm d own_sg c = true)
    (hO : ∀ o ok, vm.findClass "java/lang/Object" = some o → vm.classes[o]? = some ok → ok.instanceTypes.size = 0)
    (hI : vm.findClass "java/lang/Integer" = some cI) (hkI : vm.classes[cI]? = some kI) (hV : ((methodIn cI "valueOf" "(I)Ljava/lang/Integer;" kI.isInterface none).ask { classPath := fun _ => none } vm).1 = .ok tV) (hS : vm.findClass "java/lang/String" = some cS) :
    ∃ (k tk : Class) (file : ClassFile) (methk : Method) (ck : Code) (toy : ClassId) (t : MethodId) (g0 : Field),
      vm.classes[c]? = some k ∧ k.name = NU ++ "$$Lambda" ∧ k.cf = some file ∧ file.constantPool = own_D.constantPool ∧
      vm.method? ⟨c, 1⟩ = some methk ∧ methk.code = some ck ∧ ck.code = own_fwB ∧ ck.maxLocals = 2 ∧ methk.locks = false ∧ methk.accessFlags = 0x0001 ∧ methk.sig.returnType = some (.object "java/lang/Object") ∧
      vm.findClass NU = some toy ∧ vm.classes[toy]? = some tk ∧ tk.isInterface = false ∧ ((methodIn toy "newNumber" "(Ljava/lang/String;)I" tk.isInterface none).ask { classPath := fun _ => none } vm).1 = .ok t ∧
      vm.methodReady c 25 t ∧ vm.classReady c 21 toy ∧ vm.fieldReady c 15 c g0 ∧ g0.isStatic = false ∧ g0.slot = 0 ∧ k.instanceTypes = #[.object NU] ∧ k.kind = .ordinary ∧ vm.methodReady c 31 tV ∧ vm.classReady c 27 cI ∧ vm.classReady c 19 cS := by
  obtain ⟨dk', k, ok, tk, file, cf, object, iface, toy, lay, methods, target, found, hd', hk, hfile, hcf, hobj, -, hok, hlay, hms, ht, htk, hg, -, hrec, -, -, -, hitf, hpool, hmeth, hfields, hty, hres, -⟩ := isMade_spec h
  cases hd.symm.trans hd'
  rw [hname, own_file] at hcf
  cases hcf
  have hok0 : ok.instanceTypes = #[] := Array.eq_empty_of_size_eq_zero (hO object ok hobj hok)
  rw [hO object ok hobj hok, own_laid_is] at hlay
  cases hlay
  obtain ⟨b, hb, hsame⟩ := hmeth 1 own_fw (own_second methods hms)
  simp only [sameMethod, Bool.and_eq_true, decide_eq_true_eq] at hsame
  obtain ⟨⟨hn, -, hsig, hfl⟩, hcode⟩ := hsame
  have fc := own_fcode
  have ff := own_fflags
  simp only [Prod.mk.injEq] at ff
  obtain ⟨g0, hg0, hp0⟩ := Option.map_eq_some_iff.mp own_eF0.2.2.2
  simp only [Prod.mk.injEq] at hp0
  cases hfc : own_fw.code with
  | none => rw [hfc] at fc; cases fc
  | some x =>
    cases hbc : b.code with
    | none => simp [hfc, hbc] at hcode
    | some y =>
      simp only [hfc, hbc, Bool.and_eq_true, decide_eq_true_eq] at hcode
      simp only [hfc, Option.map_some, Option.some.injEq, Prod.mk.injEq] at fc
      refine ⟨k, tk, file, b, y, toy, target, g0, hk, by rw [hrec.1, hname], hfile, hpool.2.1, by simp [Vm.method?, hk, hb], hbc, ?_, by rw [← hcode.1.1.1.1.2.1]; exact fc.2, ?_, by rw [← hfl]; exact ff.1, by rw [← hsig]; exact ff.2.2, ht, htk, hitf, hg,
        ⟨k, hk, hres 25 _ (resolvedOf_method own_eM.1 own_eM.2.1 ht htk own_eM.2.2 hg)⟩, ⟨k, hk, hres 21 _ (resolvedOf_class own_eC.1 own_eC.2.2 own_eC.2.1 ht)⟩,
        ⟨k, 0, k, hk, hres 15 _ (resolvedOf_field own_eF0.1 own_eF0.2.1 own_eF0.2.2.1), hk, hfields 0 _ hg0⟩, hp0.1, hp0.2, by rw [hty.1, hok0, own_laidT]; rfl, hrec.2.1,
        ⟨k, hk, hres 31 _ (resolvedOf_method own_eV.1 own_eV.2.1 hI hkI own_eV.2.2 hV)⟩, ⟨k, hk, hres 27 _ (resolvedOf_class own_eI.1 own_eI.2.2 own_eI.2.1 hI)⟩, ⟨k, hk, hres 19 _ (resolvedOf_class own_eS.1 own_eS.2.2 own_eS.2.1 hS)⟩⟩
      · rw [← hcode.1.1.1.1.2.2]
        exact ByteArray.ext fc.1
      · simp [Method.locks, Method.isSynchronized, ← hfl, ff.1, hasFlag, Acc.synchronized]
abbrev own_nu : MethodName := ⟨NU, "number", "(Ljava/lang/String;)I"⟩
abbrev own_nn : MethodName := ⟨NU, "newNumber", "(Ljava/lang/String;)I"⟩
abbrev own_vo : MethodName := ⟨"java/lang/Integer", "valueOf", "(I)Ljava/lang/Integer;"⟩
abbrev own_ap : MethodName := ⟨"java/util/function/Function", "apply", "(Ljava/lang/Object;)Ljava/lang/Object;"⟩
/-- the call site's class, at the start -/
def OwnSite (Z : State) (cK : ClassId) : Prop := ∃ (m : MethodId) (k : Class) (cf : ClassFile) (i0 p0 : Nat), Z.methodNamed? own_nu = some m ∧ Z.vm.classes[m.cls]? = some k ∧ k.cf = some cf ∧ Lambda.shapeOf? cf 23 = some own_sg ∧
  (k.callSites.find? fun y => y.1 == m.idx && y.2.1 == 6) = some (i0, p0, .makes cK) ∧ isMade { classPath := fun _ => none } Z.vm m.cls own_sg cK = true ∧ Z.lambdaCallable own_sg cK = true
theorem own_site {Z : State} {a0 : Array Value} (w : (Cond.lambdaSite own_nu 6 23 own_sg).before a0 Z = true) : ∃ cK, OwnSite Z cK := by
  obtain ⟨cK, one, hat⟩ := Cond.lambdaSite_spec w
  obtain ⟨m, k, cf, i0, p0, lk, hm, hk, hcf, hsh, -, hfind, hmade, hcan, hlk⟩ := State.lambdaAt?_spec hat
  rcases hlk with ⟨a, cell, -, -, h, -⟩ | ⟨rfl, -, -⟩
  · exact absurd h (by decide)
  · exact ⟨cK, m, k, cf, i0, p0, hm, hk, hcf, hsh, hfind, hmade, hcan⟩
/-- the function object -/
def OwnFn (h : Heap) (f : Addr) (cK : ClassId) (th : Addr) : Prop := ∃ cell : Cell, h[f]? = some cell ∧ cell.cls = cK ∧ cell.vm = .none ∧ cell.slots = #[.ref th]
theorem OwnFn.lt {h : Heap} {f th : Addr} {cK : ClassId} (F : OwnFn h f cK th) : f < h.size := by obtain ⟨c, q, -⟩ := F; exact (Array.getElem?_eq_some_iff.mp q).1
theorem OwnFn.ext {h h' : Heap} {f th : Addr} {cK : ClassId} (F : OwnFn h f cK th) (E : Ext h h') : OwnFn h' f cK th := by obtain ⟨c, q, r⟩ := F; exact ⟨c, E.2 _ _ q, r⟩
theorem OwnFn.keep {h h' : Heap} {f th : Addr} {cK : ClassId} {ws : List Addr} (F : OwnFn h f cK th) (K : Keep h h' ws) (n : f ∉ ws) : OwnFn h' f cK th := by obtain ⟨c, q, r⟩ := F; exact ⟨c, K.2.1 _ _ q n, r⟩
theorem OwnFn.other {h h' : Heap} {f th a : Addr} {cK : ClassId} {sl : Nat} {v : Value} (F : OwnFn h f cK th) (W : Wr h h' a sl v) (n : f ≠ a) : OwnFn h' f cK th := F.keep (Keep.of_wr W) (ninS n nin0)
section Lam
variable {p : Program} {l : Launch} {e : Env} {R : Room} {s : State} {m : MethodId} {args : Array Value} {below : List Frame} {meth : Method} {c : Code} {T : State} {locs : List Loc} {cells slots : Nat} {Z : State} {a0 : Array Value} {h : Heap}
theorem own_laysT : ((own_sg.file NU).bind (layoutFields · 0)).map (·.2.1) = some #[.object NU] := by decide +kernel
theorem own_lamNew (X : Stand p l e R s m args below meth c T locs cells slots) (hx : p.tables.exec = Jvm.exec) (hZ : Z.Warmed39 s.vm) (hnd : s.methodNamed? own_nu = some m) {cK : ClassId} (S : OwnSite Z cK) (wO : (Cond.instantiable "java/lang/Object" 0).before a0 Z = true) (eT : T.heap = h) {th : Addr} {Ls : Array Slot} {rest : List Value} (hsize : Ls.size = c.maxLocals)
    (hd : decode c.code 6 = .ok (.invokedynamic 23, 5)) {W : Nat} (hW : (rest.map fun v => v.category).sum ≤ W) (hl : W + 3073 ≤ R.locals) (hc : cells + 1 ≤ R.cells) (hs : slots + 1 ≤ R.slots) :
    ∃ T' h', Stand p l e R s m args below meth c T' locs (cells + 1) (slots + 1) ∧ T'.heap = h' ∧ Ext h h' ∧ OwnFn h' h.size cK th ∧
      ∀ target, Steps p.tables e below (T'.setTop (mkF m 11 Ls (.ref h.size :: rest))) target → Steps p.tables e below (T.setTop (mkF m 6 Ls (.ref th :: rest))) target := by
  obtain ⟨m', k, cf, i0, p0, hm, hk, hcf, hsh, hfind, hmade, hcan⟩ := S
  have hA := hZ.alike
  have hm2 : s.methodNamed? own_nu = some m' := by
    have := State.methodNamed?_setVm (s := Z) hA own_nu
    rw [hm] at this
    exact this
  cases hnd.symm.trans hm2
  obtain ⟨k', hk', he⟩ := hA.2.2 _ _ hk
  obtain ⟨kN, hkN, hname⟩ := className_of_methodNamed hm
  cases hk.symm.trans hkN
  obtain ⟨bsm, nt, desc, site, hcp, hnt, hsite, hpar⟩ := Lambda.shapeOf?_site hsh
  obtain ⟨kK, hkK, htyK, hkindK, -⟩ := Lambda.made_types hmade hk wO (by rw [hname]; exact own_laysT)
  obtain ⟨kK', hkK', heK⟩ := hA.2.2 _ _ hkK
  have hty' : kK'.instanceTypes = #[.object NU] := by rw [heK]; exact htyK
  have hki' : kK'.kind = .ordinary := by rw [heK]; exact hkindK
  have hslotsE : ((kK'.instanceTypes.toList.zip [Value.ref th]).map fun (t, v) => narrow t v) = [Value.ref th] := by rw [hty']; rfl
  obtain ⟨X₁, st⟩ := X.lambdaMakes hx (g := mkF m 6 Ls (.ref th :: rest)) rfl hsize hd (vals := [Value.ref th]) (rest := rest) hk' (by rw [he]; exact hfind) (by rw [he]; exact hcf) hcp hnt (parseLong_of_parse hsite) (by rw [hpar]; rfl) rfl hkK'
    (by rw [X.admits.platform]; show 2 * 0 + (1 + (rest.map fun v => v.category).sum) + 3072 ≤ _; omega) hc (by rw [hslotsE]; exact hs)
    (fun i v hv => by
      rw [hslotsE] at hv
      cases i with
      | zero => simp at hv; subst hv; simp [State.fitsSlot, State.slotType?, hkK', hki', hty', fits]
      | succ i => simp at hv)
  rw [hslotsE] at X₁ st
  subst eT
  refine ⟨_, _, X₁, rfl, ?_, ⟨_, State.heap_pushCell_size _ _, rfl, rfl, rfl⟩, st⟩
  exact ext_of (fun b hb => by simp [State.pushCell, Array.getElem?_push, Nat.ne_of_lt hb])
end Lam
section Apply
variable {p : Program} {l : Launch} {e : Env} {R : Room} {s : State} {m : MethodId} {args : Array Value} {below : List Frame} {meth : Method} {c : Code} {T : State} {locs : List Loc} {cells slots : Nat} {Z : State} {a0 : Array Value} {h : Heap}
theorem own_ask {U : State} {y : MethodName} {mm : MethodId} {k : Class} (hn : U.methodNamed? y = some mm) (hk : U.vm.classes[mm.cls]? = some k) (hy : y.cls ≠ "java/lang/invoke/MethodHandle" ∧ y.cls ≠ "java/lang/invoke/VarHandle") : ((methodIn mm.cls y.name y.desc k.isInterface none).ask { classPath := fun _ => none } U.vm).1 = .ok mm := by
  have h1 : U.methodFound? y.cls y.name y.desc = some mm := State.methodFound?_of_named hn hy
  simp only [State.methodFound?, findClass_of_methodNamed hn, hk, Option.bind_eq_bind, Option.bind_some] at h1
  cases q : ((methodIn mm.cls y.name y.desc k.isInterface none).ask { classPath := fun _ => none } U.vm).1 with
  | ok x => rw [q] at h1; exact congrArg _ (Option.some.inj h1)
  | error x => rw [q] at h1; cases h1
/-- what the made class's pool says, at any state behind the start -/
def OwnLam (e : Env) (U : State) (cK : ClassId) : Prop := ∃ (methk : Method) (ck : Code) (cS cN : ClassId), Fw.Base U cK methk ck 2 (some (.object "java/lang/Object")) ∧ ck.code = own_fwB ∧ (∃ fld : Field, U.vm.fieldReady cK 15 cK fld ∧ fld.isStatic = false ∧ fld.slot = 0) ∧ U.vm.classReady cK 19 cS ∧ U.vm.findClass "java/lang/String" = some cS ∧
  U.vm.findClass NU = some cN ∧ Fw.VirtualAt e U cK 25 own_nn cN 1 ∧ Fw.StaticAt e U cK 31 own_vo 1 ∧ HMW.FnX own_ap cK ⟨cK, 1⟩ U
theorem own_lamAt (hadm : l.admits e) {U : State} (hH : Z.WarmedH U.vm) {cK : ClassId} {b1 b2 : ByteArray} {r2 : Option FieldType} (S : OwnSite Z cK) (wO : (Cond.instantiable "java/lang/Object" 0).before a0 Z = true) (wS : (Cond.instantiable "java/lang/String" 4).before a0 Z = true)
    (wN1 : (Cond.code own_nn b1 2 (some .int)).before a0 Z = true) (wN2 : (Cond.instanceMethod own_nn).before a0 Z = true) (wN3 : (Cond.selects NU own_nn own_nn).before #[] U = true)
    (wV1 : (Cond.code own_vo b2 1 r2).before a0 Z = true) (wV2 : (Cond.static own_vo).before a0 Z = true) (wV3 : (Cond.initialized "java/lang/Integer").before a0 Z = true) (wF : (Cond.interfaceMethod own_ap.cls own_ap.cls own_ap.name own_ap.desc).before a0 Z = true) : OwnLam e U cK := by
  have hZ : Z.Warmed39 U.vm := hH.wide
  obtain ⟨m', k, cf, i0, p0, hm, hk, hcf, hsh, hfind, hmade, hcan⟩ := S
  have hA := hH.alike
  obtain ⟨k', hk', he⟩ := hA.2.2 _ _ hk
  obtain ⟨kN, hkN, hname⟩ := className_of_methodNamed hm
  cases hk.symm.trans hkN
  have hmU := Lambda.isMade_warmer hH hmade
  have hcU : U.lambdaCallable own_sg cK = true := by
    simp only [State.lambdaCallable, hA.findClass, hA.assignable, hA.superclasses, hA.declaredIn] at hcan ⊢
    exact hcan
  have vV1 : (Cond.code own_vo b2 1 r2).before #[] U = true := mvT hZ wV1
  have vN1 : (Cond.code own_nn b1 2 (some .int)).before #[] U = true := mvT hZ wN1
  obtain ⟨mV, hmV⟩ := Cond.code_named vV1
  have hI := findClass_of_methodNamed hmV
  obtain ⟨kI, hkI, -⟩ := className_of_methodNamed hmV
  have hV := own_ask hmV hkI (by decide)
  obtain ⟨mN, hmN⟩ := Cond.code_named vN1
  have hNf := findClass_of_methodNamed hmN
  obtain ⟨cS, kS, hS, -⟩ := Cond.instantiable_spec (mvT hZ wS (args := #[]))
  obtain ⟨cO, kO, hO1, hO2, -, -, -, hO3⟩ := Cond.instantiable_spec (mvT hZ wO (args := #[]))
  obtain ⟨kK, tk, file, methk, ck, toy, t, g0, f1, f2, f3, f4, f5, f6, f7, f8, f9, f10, f11, f12, f13, f14, f15, f16, f17, f18, f19, f20, f21, f22, f23, f24, f25⟩ := own_made_facts hk' (by rw [he]; exact hname) hmU
    (fun o ok q1 q2 => by cases hO1.symm.trans q1; cases hO2.symm.trans q2; exact hO3) hI hkI hV hS
  have htc : toy = mN.cls := Option.some.inj (f12.symm.trans hNf)
  subst htc
  have ht : t = mN := by
    have q := own_ask hmN f13 (by decide)
    exact Except.ok.inj (f15.symm.trans q)
  subst ht
  have hpl : U.plainMethod ⟨cK, 1⟩ := State.plainMethod.of_name (fun k2 hk2 => by cases f1.symm.trans hk2; rw [f2]; decide)
  exact ⟨methk, ck, cS, t.cls, ⟨f5, f6, f9, hpl, f8, f11⟩, f7, ⟨g0, f18, f19, f20⟩, f25, hS, hNf,
    Fw.VirtualAt.of_made hadm f1 f3 (by rw [f4]; exact own_eM.1) f16 f17 hNf f13 f14 hmN (by decide) vN1 (mvT hZ wN2) wN3 (sig := ⟨[.object "java/lang/String"], some .int⟩) (by decide +kernel) rfl,
    Fw.StaticAt.of_made f1 f3 (by rw [f4]; exact own_eV.1) (by rw [f4]; exact own_eV.2.2) f23 f24 hI hkI hV (by decide) vV1 (mvT hZ wV2) (mvT hZ wV3) (sig := ⟨[.int], some (.object "java/lang/Integer")⟩) (by decide +kernel) rfl,
    HMW.FnX.of_site hmU hcU rfl rfl (by decide +kernel) (mvT hZ wF (args := #[]) (by decide)) f1 f5 f10⟩
end Apply
section Apply2
variable {p : Program} {l : Launch} {e : Env} {R : Room} {s : State} {m : MethodId} {args : Array Value} {below : List Frame} {meth : Method} {c : Code} {T : State} {locs : List Loc} {cells slots : Nat} {Z : State} {a0 : Array Value} {h : Heap}
theorem own_asg (vm : Vm) (c : ClassId) : vm.assignable c c = true := by
  show (c == c || _) = true
  rw [beq_self_eq_true, Bool.true_or]
theorem own_apply (X : Stand p l e R s m args below meth c T locs cells slots) (hx : p.tables.exec = Jvm.exec) (hH : Z.WarmedH s.vm) {own : String} {index count : Nat} (hown : s.vm.findClass own = some m.cls) {cK : ClassId} (S : OwnSite Z cK)
    (wL : (Cond.methodLink own index own_ap).before a0 Z = true) (wD : (Cond.declares own_ap).before a0 Z = true) (wF : (Cond.interfaceMethod own_ap.cls own_ap.cls own_ap.name own_ap.desc).before a0 Z = true) (wO : (Cond.instantiable "java/lang/Object" 0).before a0 Z = true) (wS : (Cond.instantiable "java/lang/String" 4).before a0 Z = true)
    {b1 b2 : ByteArray} {rm1 rm2 Rk : Room} {Q1 : Option Value → Heap → List Loc → Prop} {Q2 : Heap → Option Value → Heap → List Loc → Prop} {th kx f rv : Addr} {v1 : Int32}
    (wN1 : (Cond.code own_nn b1 2 (some .int)).before a0 Z = true) (wN2 : (Cond.instanceMethod own_nn).before a0 Z = true) (wN3 : ∀ U : State, Z.WarmedH U.vm → (Cond.selects NU own_nn own_nn).before #[] U = true) (wN4 : (Cond.initialized NU).before a0 Z = true)
    (wV1 : (Cond.code own_vo b2 1 (some (.object "java/lang/Integer"))).before a0 Z = true) (wV2 : (Cond.static own_vo).before a0 Z = true) (wV3 : (Cond.initialized "java/lang/Integer").before a0 Z = true)
    (F : OwnFn h f cK th) (EN : Exa Z h th NU) (ES : Exa Z h kx jS)
    (hM1 : OwnMet l Z own_nn b1 2 (some .int) [] rm1 #[.ref th, .ref kx] h Q1) (hq1 : ∀ v h' L, Q1 v h' L → v = some (.int v1))
    (hM2 : ∀ h' L, Q1 (some (.int v1)) h' L → OwnMet l Z own_vo b2 1 (some (.object "java/lang/Integer")) [] rm2 #[.int v1] h' (Q2 h')) (hq2 : ∀ h' v h'' L, Q2 h' v h'' L → v = some (.ref rv) ∧ h'' = h')
    (eT : T.heap = h) {pc : Nat} {Ls : Array Slot} {rest : List Value} (hsize : Ls.size = c.maxLocals) (hd : decode c.code pc = .ok (.invokeinterface index count, 5)) {W : Nat} (hW : (rest.map fun v => v.category).sum ≤ W)
    (hf1 : rm1.frames + 1 ≤ Rk.frames) (hl1 : 0 + (2 + 11) + rm1.locals ≤ Rk.locals) (hf2 : rm2.frames + 1 ≤ Rk.frames) (hl2 : 0 + (1 + 11) + rm2.locals ≤ Rk.locals) (hck : rm1.cells + rm2.cells = Rk.cells) (hsk : rm1.slots + rm2.slots = Rk.slots)
    (hf : Rk.frames + 1 ≤ R.frames) (hl : W + (2 + 11) + Rk.locals ≤ R.locals) (hc : cells + Rk.cells ≤ R.cells) (hs : slots + Rk.slots ≤ R.slots) :
    ∃ (T' : State) (L1 L2 : List Loc), Stand p l e R s m args below meth c T' (locs ++ (L1 ++ L2)) (cells + Rk.cells) (slots + Rk.slots) ∧ Q1 (some (.int v1)) T'.heap L1 ∧ Q2 T'.heap (some (.ref rv)) T'.heap L2 ∧
      ∀ target, Steps p.tables e below (T'.setTop (mkF m (pc + 5) Ls (.ref rv :: rest))) target → Steps p.tables e below (T.setTop (mkF m pc Ls (.ref kx :: .ref f :: rest))) target := by
  have hZ : Z.Warmed39 s.vm := hH.wide
  have hLam : ∀ U : State, Z.WarmedH U.vm → OwnLam e U cK := fun U hU => own_lamAt X.admits hU S wO wS wN1 wN2 (wN3 U hU) wV1 wV2 wV3 wF
  obtain ⟨_, _, _, _, _, _, _, _, _, _, _, _, hFn⟩ := hLam s hH
  have hK : BackW l R p e below s args (fun _ m' => m' = ⟨cK, 1⟩) 5 W (fun A a => a = #[.ref f, .ref kx] ∧ A.U.heap = h ∧ A.cells + Rk.cells ≤ R.cells ∧ A.slots + Rk.slots ≤ R.slots)
      (fun A _ v B => v = some (.ref rv) ∧ ∃ L1 L2, Q1 (some (.int v1)) B.U.heap L1 ∧ Q2 B.U.heap (some (.ref rv)) B.U.heap L2 ∧ B.locs = A.locs ++ (L1 ++ L2) ∧ B.cells = A.cells + Rk.cells ∧ B.slots = A.slots + Rk.slots) := by
    intro m2 meth2 c2 A gj ig mk a Y hg hsz hdg hWj hwho hpre
    obtain ⟨U, Lc, cc, nn⟩ := A
    dsimp only [Pt.U, Pt.locs, Pt.cells, Pt.slots] at Y hpre hwho ⊢
    obtain ⟨rfl, hh, hcl, hsl⟩ := hpre
    subst hwho
    have hU : Z.WarmedH U.vm := State.WarmedH.trans hH Y.warmed
    obtain ⟨methk, ck, cS, cN, hB, hby, ⟨fld, hfa, hfb, hfc⟩, hcR, hfS, hfN, hVa, -, -⟩ := hLam U hU
    obtain ⟨cellF, hF1, hF2, hF3, hF4⟩ := F
    obtain ⟨cr, kr, hr1, hr2, hr3, hr4, -⟩ := EN
    obtain ⟨cs, ks, hs1, hs2, hs3, hs4, -⟩ := ES
    have hA := hU.alike
    obtain ⟨ks', hks', -⟩ := hA.2.2 _ _ hs3
    have hcS : cS = cs.cls := Option.some.inj (hfS.symm.trans (by rw [hA.findClass]; exact hs2))
    have hcN : cN = cr.cls := Option.some.inj (hfN.symm.trans (by rw [hA.findClass]; exact hr2))
    obtain ⟨v, T', U₂, L₂, c₂, n₂, Y', ⟨rfl, L1, L2, g1, g2, rfl, rfl, rfl⟩, hh', hv', -, steps⟩ := Y.through hg hsz hdg #[.ref f, .ref kx] (R' := Rk) hB.meth hB.code hB.locks hB.plain hf (by rw [hB.maxL]; omega) hcl hsl
      (Φ := fun v U₁ L₁ c₁ n₁ => v = some (.ref rv) ∧ ∃ L1 L2, Q1 (some (.int v1)) U₁.heap L1 ∧ Q2 U₁.heap (some (.ref rv)) U₁.heap L2 ∧ L₁ = L1 ++ L2 ∧ c₁ = Rk.cells ∧ n₁ = Rk.slots)
      (fun U₀ hU₀ Y₀ => by
        have hvm : U₀.vm = U.vm := by rw [hU₀]; rfl
        have hheap : U₀.heap = h := by rw [← hh, hU₀]; rfl
        rw [hB.maxL]
        have k0 : Steps p.tables e (.java gj :: below) (U₀.setTop (entryFrame ⟨cK, 1⟩ #[.ref f, .ref kx] 2)) (U₀.setTop { method := ⟨cK, 1⟩, pc := 0, locals := #[.val (.ref f), .val (.ref kx)], stack := [], locked := none }) := Steps.refl _
        have k1 : Steps p.tables e (.java gj :: below) (U₀.setTop (entryFrame ⟨cK, 1⟩ #[.ref f, .ref kx] 2)) (U₀.setTop { method := ⟨cK, 1⟩, pc := 1, locals := #[.val (.ref f), .val (.ref kx)], stack := [.ref f], locked := none }) := by
          refine k0.trans ?_
          jvm_step Y₀.here [hx, hby, own_f0, Value.isRef]
          exact Steps.refl _
        have k2 := Y₀.getfieldR hx (g := { method := ⟨cK, 1⟩, pc := 1, locals := #[.val (.ref f), .val (.ref kx)], stack := [.ref f], locked := none }) rfl (index := 15) (cF := cK) (a := f) (field := fld) (cell := cellF) (v := .ref th) (rest := []) (by rw [hvm]; exact hfa) hfb rfl (by rw [hheap]; exact hF1) (by rw [hF3]; simp) (by rw [hfc, hF4]; rfl) (by rw [hby]; exact own_f1) k1
        have k3 : Steps p.tables e (.java gj :: below) (U₀.setTop (entryFrame ⟨cK, 1⟩ #[.ref f, .ref kx] 2)) (U₀.setTop { method := ⟨cK, 1⟩, pc := 5, locals := #[.val (.ref f), .val (.ref kx)], stack := [.ref kx, .ref th], locked := none }) := by
          refine k2.trans ?_
          jvm_step Y₀.here [hx, hby, own_f4, Value.isRef]
          exact Steps.refl _
        have k4 := Y₀.checkcastR hx (g := { method := ⟨cK, 1⟩, pc := 5, locals := #[.val (.ref f), .val (.ref kx)], stack := [.ref kx, .ref th], locked := none }) rfl (index := 19) (cT := cS) (x := .ref kx) (rest := [.ref th]) (by rw [hvm]; exact hcR) rfl
          (Or.inr ⟨kx, cs, ks', ks', rfl, by rw [hheap]; exact hs1, (fun q hq => (by rw [hq] at hs4; cases hs4)), by rw [hvm]; exact hks', by rw [hvm, hcS]; exact hks', by rw [hvm, hcS]; exact own_asg _ _⟩) (by rw [hby]; exact own_f5) k3
        obtain ⟨r, t, kr', kt, methr, metht, q1, q2, q3, q4, q5, q6, q7, q8, q9, q10, q11, q12, q13⟩ := Fw.VirtualAt.of hvm hVa
        have hHc : Z.WarmedH (U.calling gj ⟨cK, 1⟩ #[.ref f, .ref kx]).vm := hU
        obtain ⟨w1, ⟨U₁, L₁, c₁, n₁⟩, Y₁, ⟨M1, hQ1, e1, e2, e3⟩, kE⟩ := Y₀.virtualR hx (g := { method := ⟨cK, 1⟩, pc := 8, locals := #[.val (.ref f), .val (.ref kx)], stack := [.ref kx, .ref th], locked := none }) rfl (by rw [hB.maxL]; rfl) (index := 25) (a := th) (y := own_nn) (cell := cr) (argsL := [.ref kx]) (rest := []) q1 q2 q3 q4 q5 q6 q7.symm rfl (by rw [hheap]; exact hr1)
          (fun q hq => by rw [hq] at hr4; cases hr4) (by rw [← hcN]; exact q8) q9 q10 q11 q12 q13 (own_backOf (W := 0) hM1 hHc.wide hHc wN1 wN4 hf1 hl1) (by show 2 * 0 + 0 ≤ 0; decide) ⟨rfl, hheap, by show 0 + rm1.cells ≤ _; omega, by show 0 + rm1.slots ≤ _; omega⟩ (by rw [hby]; exact own_f8) k4
        dsimp only [Pt.U, Pt.locs, Pt.cells, Pt.slots] at Y₁ kE hQ1 e1 e2 e3
        subst e1 e2 e3
        obtain rfl := hq1 _ _ _ hQ1
        have hU1 : Z.WarmedH U₁.vm := State.WarmedH.trans hHc Y₁.warmed
        obtain ⟨-, -, -, -, -, -, -, -, -, -, -, hSt, -⟩ := hLam U₁ hU1
        obtain ⟨t3, kt3, metht3, u1, u2, u3, u4, u5, u6, u7, u8, u9⟩ := hSt
        obtain ⟨w2, ⟨U₂, L₂, c₂, n₂⟩, Y₂, ⟨M2, hQ2, e1, e2, e3⟩, kF⟩ := Y₁.staticR hx (g := { method := ⟨cK, 1⟩, pc := 11, locals := #[.val (.ref f), .val (.ref kx)], stack := [.int v1], locked := none }) rfl (by rw [hB.maxL]; rfl) (index := 31) (y := own_vo) (argsL := [.int v1]) (rest := []) u1 u2 u3 u4 u5 u6 u7 u8.symm rfl u9
          (own_backOf (W := 0) (hM2 _ _ hQ1) hHc.wide hHc wV1 wV3 hf2 hl2) (by show 2 * 0 + 0 ≤ 0; decide) ⟨rfl, rfl, by show 0 + rm1.cells + rm2.cells ≤ _; omega, by show 0 + rm1.slots + rm2.slots ≤ _; omega⟩ (by rw [hby]; exact own_f11) kE
        dsimp only [Pt.U, Pt.locs, Pt.cells, Pt.slots] at Y₂ kF hQ2 e1 e2 e3
        subst e1 e2 e3
        obtain ⟨rfl, hheq⟩ := hq2 _ _ _ _ hQ2
        refine ⟨some (.ref rv), U₂, _, _, _, Y₂, (fun q => by rw [hB.ret] at q; cases q), ⟨rfl, L₁, M2, by rw [hheq]; exact hQ1, by rw [hheq]; rw [hheq] at hQ2; exact hQ2, by simp, by omega, by omega⟩, fun fs hleave => kF.trans (Y₂.areturnOut hx rfl hB.ret rfl (by rw [hby]; exact own_f14) hleave)⟩)
    exact ⟨_, ⟨T', Lc ++ (L1 ++ L2), cc + Rk.cells, nn + Rk.slots⟩, Y', ⟨rfl, L1, L2, by show Q1 _ T'.heap _; rw [hh']; exact g1, by show Q2 T'.heap _ T'.heap _; rw [hh']; exact g2, rfl, rfl, rfl⟩, steps⟩
  obtain ⟨cellF, hF1, hF2, hF3, hF4⟩ := F
  obtain ⟨v, vm1, ⟨T', L', c', n'⟩, -, XB, ⟨rfl, L1, L2, g1, g2, e1, e2, e3⟩, st⟩ := X.fnAt hx (own := own) (index := index) (count := count) (xi := own_ap) hown (fun w hw => by
      simp only [Fn.fnW, List.mem_cons, List.not_mem_nil, or_false] at hw
      rcases hw with rfl | rfl | rfl
      · exact mvT hZ wL
      · exact mvT hZ wD
      · exact mvT hZ wF (by decide)) (by decide) hFn hK (fun _ _ => rfl) (b := f) ⟨cellF, by rw [eT]; exact hF1, hF2, by rw [hF3]; rfl⟩ (g := mkF m pc Ls (.ref kx :: .ref f :: rest)) rfl hsize (Steps.refl _) (argsL := [.ref kx]) (rest := rest)
    (lenOf (by decide +kernel : parseMethodDescriptor own_ap.desc = some ⟨[.object "java/lang/Object"], some (.object "java/lang/Object")⟩) rfl) rfl (by show 2 * 0 + _ ≤ _; omega) hd (fun _ _ => ⟨rfl, eT, hc, hs⟩)
  dsimp only [Pt.U, Pt.locs, Pt.cells, Pt.slots] at XB g1 g2 e1 e2 e3 st
  subst e1 e2 e3
  exact ⟨T', L1, L2, XB, g1, g2, fun t k => st.trans k⟩
end Apply2
end Jvm.RoadKit
namespace Jvm.Pilot.@@N@@
open Jvm Jvm.ClassFile Sem Op Lib Jvm.Free Jvm.Stand Jvm.LawKit Jvm.RoadKit Bundle Jvm.Pilot.@@N@@.Jvm.D
abbrev OW (a0 : Array Value) (Z : State) : Prop := ∀ d ∈ tables_1, d.before a0 Z = true
def Q0 (n0 : Nat) (v : Option Value) (h : Heap) (L : List Loc) : Prop := v = some (.int 1) ∧ Fr n0 L
theorem own_eqI {args : Array Value} {first s : State} {o : Option Outcome} {idx : List Nat} {t : Term} {n : Int32} (h : (Jvm.Cond.eq t (.int n)).value args first o s idx = some true) : t.eval args first o idx s = some (.int n) := by
  simp only [Jvm.Cond.value, Term.eval] at h
  cases ht : t.eval args first o idx s with
  | none => simp [ht] at h
  | some x => cases x <;> simp [ht] at h ⊢; exact h
theorem own_len {args : Array Value} {s : State} {t : Term} {n : Int32} {a : Addr} {c : Cell} {ty : FieldType} (h : (Term.length t).eval args s none [] s = some (.int n)) (ev : t.eval args s none [] s = some (.ref a)) (A : Arr s s.heap a c ty) : c.slots.size < 2 ^ 31 ∧ c.slots.size.toInt32 = n := by
  have e := Arr.fin (Vm.Alike.refl _) A
  by_cases q : c.slots.size < 2 ^ 31
  · have := (len_f ev e q).symm.trans h
    exact ⟨q, by simpa using this⟩
  · simp [Term.eval, ev, e, q] at h
theorem own_fold {g : Nat → Option Bool} : ∀ (L : List Nat) (x : Option Bool), (L.foldl (fun acc i => match acc with | some true => g i | x => x) x) = some true → x = some true ∧ ∀ i ∈ L, g i = some true
  | [], x, h => ⟨h, fun i hi => nomatch hi⟩
  | i :: L, x, h => by
    have q := own_fold L _ h
    match x, q with
    | some true, q => exact ⟨rfl, fun j hj => (List.mem_cons.mp hj).elim (fun e => e ▸ q.1) (fun r => q.2 j r)⟩
    | some false, q => exact absurd q.1 (by simp)
    | none, q => exact absurd q.1 (by simp)
theorem own_all {args : Array Value} {s : State} {t : Term} {c : Cond} {a : Addr} {cl : Cell} (h : (Jvm.Cond.all t c).value args s none s [] = some true) (ev : t.eval args s none [] s = some (.ref a)) (hc : s.arrayAt? a = some cl) (i : Nat) (hi : i < cl.slots.size) : c.value args s none s [i] = some true := by
  simp only [Jvm.Cond.value, ev, hc] at h
  exact (own_fold _ _ h).2 i (List.mem_range.mpr hi)
theorem own_arvL {Z : State} {a : Addr} {cl : Cell} {ty : FieldType} {z : Int32} {dv : Value} (hf : Fit Z) (A : Arr Z Z.heap a cl ty) (q : cl.slots.size < 2 ^ 31) (e : cl.slots.size.toInt32 = z) (hz : ¬ z < 0) : cl.slots.size = z.toNatClampNeg ∧ Arv Z Z.heap a cl.cls ty z cl.slots.toList dv := by
  have S : cl.slots.size = z.toNatClampNeg := by rw [← e]; simp only [Int32.toNatClampNeg, len_toInt q]; rfl
  have H' : Has cl cl.slots.toList dv := fun j hj => by simp [hj]
  refine ⟨S, cl, A, rfl, S, hz, H', fun j hj => ?_⟩
  have e1 : (Nat.toInt32 j).toNatClampNeg = j := by simp only [Int32.toNatClampNeg, len_toInt (Nat.lt_trans hj q)]; rfl
  exact elem_fits (j := Nat.toInt32 j) hf A (idx_in hj q) (by rw [e1]; exact H' j hj)
abbrev own_tc0 : Term := .static "java/lang/Integer$IntegerCache" "cache" "[Ljava/lang/Integer;"
theorem own_cache {args : Array Value} {s : State} (hfit : Fit s) {a : Addr} (ev : own_tc0.eval args s none [] s = some (.ref a)) (pa : (Jvm.Cond.arrayOf own_tc0 (.object "java/lang/Integer")).value args s none s [] = some true) (pl : (Jvm.Cond.eq (.length own_tc0) (.int 256)).value args s none s [] = some true)
    (pall : (Jvm.Cond.all own_tc0 (.and (.exactly (.elem own_tc0 (.index 0)) "java/lang/Integer") (.eq (.field (.elem own_tc0 (.index 0)) "java/lang/Integer" "value" "I") (.sub (.index 0) (.int 128))))).value args s none s [] = some true) :
    ∃ (k : ClassId) (U : List Value) (b : Addr), Arv s s.heap a k (.object "java/lang/Integer") 256 U .null ∧ U.getD (128 : Int32).toNatClampNeg .null = .ref b ∧ Exa s s.heap b "java/lang/Integer" ∧ Fld s s.heap b "java/lang/Integer" "value" "I" (.int 0) := by
  obtain ⟨c, A⟩ := Arr.start ev pa
  have L := own_len (own_eqI pl) ev A
  have hc : s.arrayAt? a = some c := Arr.fin (Vm.Alike.refl _) A
  obtain ⟨S, V⟩ := own_arvL (dv := .null) hfit A L.1 L.2 (by decide)
  have hz : c.slots.size = 256 := S.trans (by decide)
  obtain ⟨h1, h2⟩ := and_e (own_all pall ev hc 128 (by omega))
  have h1' : (Jvm.Cond.exactly (.elem own_tc0 (.int 128)) "java/lang/Integer").value args s none s [] = some true := h1
  obtain ⟨b, eb⟩ := exa_v h1'
  have el := (elem_in eb ev (Term.int_eval 128) A.1).2
  have h2' : (Jvm.Cond.eq (.field (.elem own_tc0 (.int 128)) "java/lang/Integer" "value" "I") (.int 0)).value args s none s [] = some true := h2
  refine ⟨c.cls, c.slots.toList, b, V, ?_, Exa.start eb h1', Fld.start ((fld_at eb).symm.trans (own_eqI h2'))⟩
  rw [List.getD_eq_getElem?_getD, Array.getElem?_toList, el]
  rfl
theorem w_0 {a0 Z} (hw : OW a0 Z) : Jvm.Cond.before (.arrayClass .boolean) a0 Z := hw _ (mo 0 rfl)
theorem tn1 (l : Launch) (Z : State) {a0 : Array Value} (hw : OW a0 Z) (i1 i2 i3 i4 i5 i6 : Int32) (a7 : Addr) (h0 : Heap) (n0 : Nat) (Z0 : n0 ≤ h0.size) {p : Program} {e : Env} {s : State} {m : MethodId} {args : Array Value} {below : List Frame} {meth : Method} {c : Code} {s₁ : State} {L0 : List Loc} {ce sl : Nat} (hx : p.tables.exec = Jvm.exec) (hby : c.code = code) (hml : c.maxLocals = maxLocals) (hown : s.vm.findClass "com/example/informal_search/informalsearch/index/PostingBufferIsEmptyPinLaw" = some m.cls) (hZ : Z.Warmed39 s.vm) (X0 : Stand p l e room_1 s m args below meth c s₁ L0 ce sl) (e0 : s₁.heap = h0) (N0 : Fr n0 L0) (hce : ce ≤ room_1.cells) (hsl : sl ≤ room_1.slots) :
    ∃ (T : State) (L : List Loc), Stand p l e room_1 s m args below meth c T L ce sl ∧ T.heap = h0 ∧ Fr n0 L ∧ ∀ target, Steps p.tables e below (T.setTop (mkF m 17 #[vi i1, vi i2, vi i3, vi i4, vi i5, vi i6, un, un, un, un, un, un] [(.int (if (i6 &&& (1 : Int32)) = 0 then (0 : Int32) else (1 : Int32))), (.int 0), (.ref a7), (.ref a7)])) target → Steps p.tables e below (s₁.setTop (mkF m 5 #[vi i1, vi i2, vi i3, vi i4, vi i5, vi i6, un, un, un, un, un, un] [(.int 0), (.ref a7), (.ref a7)])) target := by
  have B := hbx hby
  by_cases cc1 : (i6 &&& (1 : Int32)) = 0
  · refine ⟨s₁, _, X0, e0, N0, fun target hr => ?_⟩
    refine sJ X0 hx (B at_5) rfl ?_
    refine sC X0 hx (B at_7) ?_
    refine XS.iand X0.here hx rfl (B at_8) rfl ?_
    refine XS.ifYes X0.here hx rfl (pc0 := 9) (pc' := 16) rfl (B at_9) rfl ((if0 _ _).trans (teq cc1).1) (by decide) (by decide) ?_
    refine sC X0 hx (B at_16) ?_
    rw [show (if (i6 &&& (1 : Int32)) = 0 then (0 : Int32) else (1 : Int32)) = (0 : Int32) from by rw [if_pos cc1]] at hr
    exact hr
  · refine ⟨s₁, _, X0, e0, N0, fun target hr => ?_⟩
    refine sJ X0 hx (B at_5) rfl ?_
    refine sC X0 hx (B at_7) ?_
    refine XS.iand X0.here hx rfl (B at_8) rfl ?_
    refine XS.ifNo X0.here hx rfl (B at_9) rfl ((if0 _ _).trans (feq cc1).1) ?_
    refine sC X0 hx (B at_12) ?_
    refine XS.goto X0.here hx rfl (pc0 := 13) (pc' := 17) rfl (B at_13) (by decide) (by decide) ?_
    rw [show (if (i6 &&& (1 : Int32)) = 0 then (0 : Int32) else (1 : Int32)) = (1 : Int32) from by rw [if_neg cc1]] at hr
    exact hr
theorem tn2 (l : Launch) (Z : State) {a0 : Array Value} (hw : OW a0 Z) (i1 i2 i3 i4 i5 i6 : Int32) (a7 : Addr) (h0 : Heap) (n0 : Nat) (Z0 : n0 ≤ h0.size) {p : Program} {e : Env} {s : State} {m : MethodId} {args : Array Value} {below : List Frame} {meth : Method} {c : Code} {s₁ : State} {L0 : List Loc} {ce sl : Nat} (hx : p.tables.exec = Jvm.exec) (hby : c.code = code) (hml : c.maxLocals = maxLocals) (hown : s.vm.findClass "com/example/informal_search/informalsearch/index/PostingBufferIsEmptyPinLaw" = some m.cls) (hZ : Z.Warmed39 s.vm) (X0 : Stand p l e room_1 s m args below meth c s₁ L0 ce sl) (e0 : s₁.heap = h0) (N0 : Fr n0 L0) (hce : ce ≤ room_1.cells) (hsl : sl ≤ room_1.slots) :
    ∃ (T : State) (L : List Loc), Stand p l e room_1 s m args below meth c T L ce sl ∧ T.heap = h0 ∧ Fr n0 L ∧ ∀ target, Steps p.tables e below (T.setTop (mkF m 32 #[vi i1, vi i2, vi i3, vi i4, vi i5, vi i6, un, un, un, un, un, un] [(.int (if (i6 &&& (2 : Int32)) = 0 then (0 : Int32) else (1 : Int32))), (.int 1), (.ref a7), (.ref a7)])) target → Steps p.tables e below (s₁.setTop (mkF m 20 #[vi i1, vi i2, vi i3, vi i4, vi i5, vi i6, un, un, un, un, un, un] [(.int 1), (.ref a7), (.ref a7)])) target := by
  have B := hbx hby
  by_cases cc1 : (i6 &&& (2 : Int32)) = 0
  · refine ⟨s₁, _, X0, e0, N0, fun target hr => ?_⟩
    refine sJ X0 hx (B at_20) rfl ?_
    refine sC X0 hx (B at_22) ?_
    refine XS.iand X0.here hx rfl (B at_23) rfl ?_
    refine XS.ifYes X0.here hx rfl (pc0 := 24) (pc' := 31) rfl (B at_24) rfl ((if0 _ _).trans (teq cc1).1) (by decide) (by decide) ?_
    refine sC X0 hx (B at_31) ?_
    rw [show (if (i6 &&& (2 : Int32)) = 0 then (0 : Int32) else (1 : Int32)) = (0 : Int32) from by rw [if_pos cc1]] at hr
    exact hr
  · refine ⟨s₁, _, X0, e0, N0, fun target hr => ?_⟩
    refine sJ X0 hx (B at_20) rfl ?_
    refine sC X0 hx (B at_22) ?_
    refine XS.iand X0.here hx rfl (B at_23) rfl ?_
    refine XS.ifNo X0.here hx rfl (B at_24) rfl ((if0 _ _).trans (feq cc1).1) ?_
    refine sC X0 hx (B at_27) ?_
    refine XS.goto X0.here hx rfl (pc0 := 28) (pc' := 32) rfl (B at_28) (by decide) (by decide) ?_
    rw [show (if (i6 &&& (2 : Int32)) = 0 then (0 : Int32) else (1 : Int32)) = (1 : Int32) from by rw [if_neg cc1]] at hr
    exact hr
theorem w_1 {a0 Z} (hw : OW a0 Z) : Jvm.Cond.before (.classLink "com/example/informal_search/informalsearch/index/PostingBufferIsEmptyPinLaw" 7 "com/example/informal_search/informalsearch/index/PostingBuffer") a0 Z := hw _ (mo 1 rfl)
theorem w_2 {a0 Z} (hw : OW a0 Z) : Jvm.Cond.before (.instantiable "com/example/informal_search/informalsearch/index/PostingBuffer" 8) a0 Z := hw _ (mo 2 rfl)
theorem w_3 {a0 Z} (hw : OW a0 Z) : Jvm.Cond.before (.initialized "com/example/informal_search/informalsearch/index/PostingBuffer") a0 Z := hw _ (mo 3 rfl)
theorem w_11 {a0 Z} (hw : OW a0 Z) : Jvm.Cond.before (.laysFinal "com/example/informal_search/informalsearch/index/PostingBuffer" "com/example/informal_search/informalsearch/index/PostingBuffer" "literal" "[Z") a0 Z := hw _ (mo 11 rfl)
theorem w_68 {a0 Z} (hw : OW a0 Z) : Jvm.Cond.before (.lays "com/example/informal_search/informalsearch/index/PostingBuffer" "com/example/informal_search/informalsearch/index/PostingBuffer" "terms" "Lcom/example/informal_search/informalsearch/index/Numbering;") a0 Z := hw _ (mo 68 rfl)
theorem w_71 {a0 Z} (hw : OW a0 Z) : Jvm.Cond.before (.lays "com/example/informal_search/informalsearch/index/PostingBuffer" "com/example/informal_search/informalsearch/index/PostingBuffer" "termOf" "[I") a0 Z := hw _ (mo 71 rfl)
theorem w_73 {a0 Z} (hw : OW a0 Z) : Jvm.Cond.before (.lays "com/example/informal_search/informalsearch/index/PostingBuffer" "com/example/informal_search/informalsearch/index/PostingBuffer" "entityOf" "[I") a0 Z := hw _ (mo 73 rfl)
theorem w_75 {a0 Z} (hw : OW a0 Z) : Jvm.Cond.before (.lays "com/example/informal_search/informalsearch/index/PostingBuffer" "com/example/informal_search/informalsearch/index/PostingBuffer" "fieldOf" "[I") a0 Z := hw _ (mo 75 rfl)
theorem w_77 {a0 Z} (hw : OW a0 Z) : Jvm.Cond.before (.lays "com/example/informal_search/informalsearch/index/PostingBuffer" "com/example/informal_search/informalsearch/index/PostingBuffer" "countOf" "[I") a0 Z := hw _ (mo 77 rfl)
theorem w_79 {a0 Z} (hw : OW a0 Z) : Jvm.Cond.before (.lays "com/example/informal_search/informalsearch/index/PostingBuffer" "com/example/informal_search/informalsearch/index/PostingBuffer" "size" "I") a0 Z := hw _ (mo 79 rfl)
theorem w_82 {a0 Z} (hw : OW a0 Z) : Jvm.Cond.before (.lays "com/example/informal_search/informalsearch/index/PostingBuffer" "com/example/informal_search/informalsearch/index/PostingBuffer" "bytes" "J") a0 Z := hw _ (mo 82 rfl)
abbrev Kc1 := prog_42_method_1_code
theorem d1_0 : decode Kc1 0 = .ok (.aload_n 0, 1) := by decide +kernel
theorem d1_1 : decode Kc1 1 = .ok (.invokespecial 3, 3) := by decide +kernel
abbrev y_0 : MethodName := ⟨"java/lang/Object", "<init>", "()V"⟩
theorem w_7 {a0 Z} (hw : OW a0 Z) : Jvm.Cond.before (.methodLink "com/example/informal_search/informalsearch/index/PostingBuffer" 3 y_0) a0 Z := hw _ (mo 7 rfl)
theorem w_8 {a0 Z} (hw : OW a0 Z) : Jvm.Cond.before (.instanceMethod y_0) a0 Z := hw _ (mo 8 rfl)
theorem w_9 {a0 Z} (hw : OW a0 Z) : Jvm.Cond.before (.code y_0 object_method_1_code 1 none) a0 Z := hw _ (mo 9 rfl)
theorem d1_4 : decode Kc1 4 = .ok (.aload_n 0, 1) := by decide +kernel
theorem d1_5 : decode Kc1 5 = .ok (.aload_n 1, 1) := by decide +kernel
theorem d1_6 : decode Kc1 6 = .ok (.putfield 9, 3) := by decide +kernel
theorem w_10 {a0 Z} (hw : OW a0 Z) : Jvm.Cond.before (.fieldLink "com/example/informal_search/informalsearch/index/PostingBuffer" 9 "com/example/informal_search/informalsearch/index/PostingBuffer" "literal" "[Z") a0 Z := hw _ (mo 10 rfl)
theorem d1_9 : decode Kc1 9 = .ok (.aload_n 0, 1) := by decide +kernel
theorem d1_10 : decode Kc1 10 = .ok (.invokevirtual 15, 3) := by decide +kernel
abbrev Kc3 := prog_42_method_9_code
theorem d3_0 : decode Kc3 0 = .ok (.aload_n 0, 1) := by decide +kernel
theorem d3_1 : decode Kc3 1 = .ok (.new 23, 3) := by decide +kernel
theorem w_16 {a0 Z} (hw : OW a0 Z) : Jvm.Cond.before (.classLink "com/example/informal_search/informalsearch/index/PostingBuffer" 23 "com/example/informal_search/informalsearch/index/Numbering") a0 Z := hw _ (mo 16 rfl)
theorem w_17 {a0 Z} (hw : OW a0 Z) : Jvm.Cond.before (.instantiable "com/example/informal_search/informalsearch/index/Numbering" 3) a0 Z := hw _ (mo 17 rfl)
theorem w_18 {a0 Z} (hw : OW a0 Z) : Jvm.Cond.before (.initialized "com/example/informal_search/informalsearch/index/Numbering") a0 Z := hw _ (mo 18 rfl)
theorem w_40 {a0 Z} (hw : OW a0 Z) : Jvm.Cond.before (.laysFinal "com/example/informal_search/informalsearch/index/Numbering" "com/example/informal_search/informalsearch/index/Numbering" "numbers" "Ljava/util/Map;") a0 Z := hw _ (mo 40 rfl)
theorem w_66 {a0 Z} (hw : OW a0 Z) : Jvm.Cond.before (.laysFinal "com/example/informal_search/informalsearch/index/Numbering" "com/example/informal_search/informalsearch/index/Numbering" "strings" "Ljava/util/List;") a0 Z := hw _ (mo 66 rfl)
theorem w_218 {a0 Z} (hw : OW a0 Z) : Jvm.Cond.before (.lays "com/example/informal_search/informalsearch/index/Numbering" "com/example/informal_search/informalsearch/index/Numbering" "bytes" "J") a0 Z := hw _ (mo 218 rfl)
theorem d3_4 : decode Kc3 4 = .ok (.dup, 1) := by decide +kernel
theorem d3_5 : decode Kc3 5 = .ok (.invokespecial 98, 3) := by decide +kernel
abbrev Kc4 := prog_38_method_1_code
theorem d4_0 : decode Kc4 0 = .ok (.aload_n 0, 1) := by decide +kernel
theorem d4_1 : decode Kc4 1 = .ok (.invokespecial 1, 3) := by decide +kernel
theorem w_22 {a0 Z} (hw : OW a0 Z) : Jvm.Cond.before (.methodLink "com/example/informal_search/informalsearch/index/Numbering" 1 y_0) a0 Z := hw _ (mo 22 rfl)
theorem d4_4 : decode Kc4 4 = .ok (.aload_n 0, 1) := by decide +kernel
theorem d4_5 : decode Kc4 5 = .ok (.new 7, 3) := by decide +kernel
theorem w_23 {a0 Z} (hw : OW a0 Z) : Jvm.Cond.before (.classLink "com/example/informal_search/informalsearch/index/Numbering" 7 "java/util/HashMap") a0 Z := hw _ (mo 23 rfl)
theorem w_24 {a0 Z} (hw : OW a0 Z) : Jvm.Cond.before (.instantiable "java/util/HashMap" 8) a0 Z := hw _ (mo 24 rfl)
theorem w_25 {a0 Z} (hw : OW a0 Z) : Jvm.Cond.before (.initialized "java/util/HashMap") a0 Z := hw _ (mo 25 rfl)
theorem w_38 {a0 Z} (hw : OW a0 Z) : Jvm.Cond.before (.laysFinal "java/util/HashMap" "java/util/HashMap" "loadFactor" "F") a0 Z := hw _ (mo 38 rfl)
theorem w_162 {a0 Z} (hw : OW a0 Z) : Jvm.Cond.before (.lays "java/util/HashMap" "java/util/HashMap" "size" "I") a0 Z := hw _ (mo 162 rfl)
theorem w_164 {a0 Z} (hw : OW a0 Z) : Jvm.Cond.before (.lays "java/util/HashMap" "java/util/HashMap" "threshold" "I") a0 Z := hw _ (mo 164 rfl)
theorem w_166 {a0 Z} (hw : OW a0 Z) : Jvm.Cond.before (.lays "java/util/HashMap" "java/util/HashMap" "table" "[Ljava/util/HashMap$Node;") a0 Z := hw _ (mo 166 rfl)
theorem w_175 {a0 Z} (hw : OW a0 Z) : Jvm.Cond.before (.lays "java/util/HashMap" "java/util/HashMap" "modCount" "I") a0 Z := hw _ (mo 175 rfl)
theorem d4_8 : decode Kc4 8 = .ok (.dup, 1) := by decide +kernel
theorem d4_9 : decode Kc4 9 = .ok (.invokespecial 9, 3) := by decide +kernel
abbrev Kc5 := jdk_69_method_7_code
theorem d5_0 : decode Kc5 0 = .ok (.aload_n 0, 1) := by decide +kernel
theorem d5_1 : decode Kc5 1 = .ok (.invokespecial 43, 3) := by decide +kernel
abbrev Kc6 := jdk_71_method_1_code
theorem d6_0 : decode Kc6 0 = .ok (.aload_n 0, 1) := by decide +kernel
theorem d6_1 : decode Kc6 1 = .ok (.invokespecial 1, 3) := by decide +kernel
theorem w_35 {a0 Z} (hw : OW a0 Z) : Jvm.Cond.before (.methodLink "java/util/AbstractMap" 1 y_0) a0 Z := hw _ (mo 35 rfl)
theorem d6_4 : decode Kc6 4 = .ok (.return_, 1) := by decide +kernel
theorem ef_26f21a (a1 : Addr) (m : MethodId) : entryFrame m #[(.ref a1)] 1 = mkF m 0 #[.val (.ref a1)] [] := by first | (simp [entryFrame, mkF, argsToLocals, Value.category]; done) | rfl
abbrev y_1 : MethodName := ⟨"java/util/AbstractMap", "<init>", "()V"⟩
theorem pn_0 : plainName "java/util/AbstractMap" = true := by first | (simp [plainName, overriddenIn]; done) | decide +kernel
abbrev Rm3 : Room := rmk 1 0 0 12
def Q3 (Z : State) (a1 : Addr) (h0 : Heap) (n0 : Nat) (v : Option Value) (h : Heap) (L : List Loc) : Prop := v = none ∧ Fr n0 L ∧ h = h0
theorem rm3 (l : Launch) (Z : State) {a0 : Array Value} (hw : OW a0 Z) (a1 : Addr) (h0 : Heap) (n0 : Nat) (Z0 : n0 ≤ h0.size) :
    OwnMet l Z y_1 jdk_71_method_1_code 1 none [] Rm3 #[(.ref a1)] h0 (Q3 Z a1 h0 n0) := by
  refine own_body (plainFor_of_name pn_0) (ef_26f21a a1) ?_
  intro p e s m below meth c s₁ hx hby hml hown hnm hret hZ hH hnd X0 e0
  have N0 := Fr.nil n0
  have B := hbx hby
  obtain ⟨T1, X1, e1, st1⟩ := initO X0 hx hZ hown (w_35 hw) (w_8 hw) (w_9 hw) e0 (g := (mkF m 1 #[vr a1] [(.ref a1)])) rfl hml.symm rfl (B d6_1) (by decide) (W := 0) (by show 2 * 0 + _ ≤ _; exact Nat.le_of_eq rfl) (by decide)
  refine ⟨T1, _, _, _, none, X1, (fun _ => rfl), by decide, by decide, ?_, fun fs hr => ?_⟩
  · rw [e1]
    exact ⟨rfl, N0, rfl⟩
  · refine sA X0 hx (B d6_0) rfl rfl ?_
    refine st1 _ ?_
    exact X1.returnOut hx hret (B d6_4) hr
theorem pd_0 : parseMethodDescriptor "()V" = some ⟨[], none⟩ := by decide +kernel
theorem w_33 {a0 Z} (hw : OW a0 Z) : Jvm.Cond.before (.initialized "java/util/AbstractMap") a0 Z := hw _ (mo 33 rfl)
theorem w_34 {a0 Z} (hw : OW a0 Z) : Jvm.Cond.before (.code y_1 jdk_71_method_1_code 1 none) a0 Z := hw _ (mo 34 rfl)
theorem w_29 {a0 Z} (hw : OW a0 Z) : Jvm.Cond.before (.methodLink "java/util/HashMap" 43 y_1) a0 Z := hw _ (mo 29 rfl)
theorem w_30 {a0 Z} (hw : OW a0 Z) : Jvm.Cond.before (.instanceMethod y_1) a0 Z := hw _ (mo 30 rfl)
theorem d5_4 : decode Kc5 4 = .ok (.aload_n 0, 1) := by decide +kernel
theorem d5_5 : decode Kc5 5 = .ok (.ldc 92, 2) := by decide +kernel
theorem w_36 {a0 Z} (hw : OW a0 Z) : Jvm.Cond.before (.constantFloat "java/util/HashMap" 92 (1061158912 : UInt32)) a0 Z := hw _ (mo 36 rfl)
theorem d5_7 : decode Kc5 7 = .ok (.putfield 81, 3) := by decide +kernel
theorem w_37 {a0 Z} (hw : OW a0 Z) : Jvm.Cond.before (.fieldLink "java/util/HashMap" 81 "java/util/HashMap" "loadFactor" "F") a0 Z := hw _ (mo 37 rfl)
theorem d5_10 : decode Kc5 10 = .ok (.return_, 1) := by decide +kernel
abbrev y_2 : MethodName := ⟨"java/util/HashMap", "<init>", "()V"⟩
theorem pn_1 : plainName "java/util/HashMap" = true := by first | (simp [plainName, overriddenIn]; done) | decide +kernel
abbrev Rm4 : Room := rmk 2 0 0 24
def Q4 (Z : State) (a1 : Addr) (h0 : Heap) (n0 : Nat) (v : Option Value) (h : Heap) (L : List Loc) : Prop := v = none ∧ Fr n0 L ∧ Keep h0 h [a1] ∧ Exa Z h a1 "java/util/HashMap" ∧ Fld Z h a1 "java/util/HashMap" "loadFactor" "F" (.float 1061158912) ∧ Fld Z h a1 "java/util/HashMap" "modCount" "I" (.int 0) ∧ Fld Z h a1 "java/util/HashMap" "size" "I" (.int 0) ∧ Fld Z h a1 "java/util/HashMap" "table" "[Ljava/util/HashMap$Node;" .null ∧ Fld Z h a1 "java/util/HashMap" "threshold" "I" (.int 0)
theorem rm4 (l : Launch) (Z : State) {a0 : Array Value} (hw : OW a0 Z) (a1 : Addr) (h0 : Heap) (n0 : Nat) (Z0 : n0 ≤ h0.size) (F_loadFactor_a1 : Fld Z h0 a1 "java/util/HashMap" "loadFactor" "F" (.float 0)) (E_a1 : Exa Z h0 a1 "java/util/HashMap") (g_a1 : n0 ≤ a1) (F_modCount_a1 : Fld Z h0 a1 "java/util/HashMap" "modCount" "I" (.int 0)) (F_size_a1 : Fld Z h0 a1 "java/util/HashMap" "size" "I" (.int 0)) (F_table_a1 : Fld Z h0 a1 "java/util/HashMap" "table" "[Ljava/util/HashMap$Node;" .null) (F_threshold_a1 : Fld Z h0 a1 "java/util/HashMap" "threshold" "I" (.int 0)) :
    OwnMet l Z y_2 jdk_69_method_7_code 1 none [] Rm4 #[(.ref a1)] h0 (Q4 Z a1 h0 n0) := by
  refine own_body (plainFor_of_name pn_1) (ef_26f21a a1) ?_
  intro p e s m below meth c s₁ hx hby hml hown hnm hret hZ hH hnd X0 e0
  have N0 := Fr.nil n0
  have B := hbx hby
  obtain ⟨_, T1, L1, X1, hQ1, st1⟩ := own_special X0 hx hZ hH hown (y := y_1) (a := a1) (w_29 hw) (w_30 hw) (w_33 hw) (w_34 hw) (rm3 l Z hw a1 h0 n0 Z0) e0 (Ls := #[vr a1]) hml.symm (argsL := []) (rest := []) (lenOf pd_0 rfl) (B d5_1) (W := 0)
  obtain ⟨rfl, Nq1, e1⟩ := hQ1
  have N1 := Fr.app N0 Nq1
  obtain ⟨T2, h2, X2, e2, W2, st2⟩ := putF X1 hx hZ hown (host := "") (Or.inl (w_37 hw)) Via.refl e1 F_loadFactor_a1 E_a1 (Or.inr ⟨(w_38 hw), rfl, hnm⟩) (w_24 hw) (ty := .float) (by decide) rfl rfl (g := (mkF m 7 #[vr a1] [(.float 1061158912), (.ref a1)])) rfl rfl (B d5_7)
  have s0 := (Keep.of_wr W2).1
  have N2 := Fr.snoc X2 N1 g_a1
  have Fw2 : Fld Z h2 a1 "java/util/HashMap" "loadFactor" "F" (.float 1061158912) := F_loadFactor_a1.same W2
  have Ex3 := (E_a1.wr W2)
  have Fl4 := (F_modCount_a1.other W2 (Or.inr (slot_ne (Or.inl (w_175 hw)) (Or.inr (w_38 hw)) (by decide) (t := .int) (t' := .float) (by decide) (by decide))))
  have Fl5 := (F_size_a1.other W2 (Or.inr (slot_ne (Or.inl (w_162 hw)) (Or.inr (w_38 hw)) (by decide) (t := .int) (t' := .float) (by decide) (by decide))))
  have Fl6 := (F_table_a1.other W2 (Or.inr (slot_ne (Or.inl (w_166 hw)) (Or.inr (w_38 hw)) (by decide) (t := (.array (.object "java/util/HashMap$Node"))) (t' := .float) (by decide) (by decide))))
  have Fl7 := (F_threshold_a1.other W2 (Or.inr (slot_ne (Or.inl (w_164 hw)) (Or.inr (w_38 hw)) (by decide) (t := .int) (t' := .float) (by decide) (by decide))))
  have Kp0 := (Keep.refl h0 [a1]).wr W2 own_m0
  refine ⟨T2, _, _, _, none, X2, (fun _ => rfl), by decide, by decide, ?_, fun fs hr => ?_⟩
  · rw [e2]
    exact ⟨rfl, N2, Kp0, Ex3, Fw2, Fl4, Fl5, Fl6, Fl7⟩
  · refine sA X0 hx (B d5_0) rfl rfl ?_
    refine st1 _ ?_
    refine sA X1 hx (B d5_4) rfl rfl ?_
    refine X1.ldcFloatC hx hown (mvT hZ (w_36 hw)) (g := (mkF m 5 #[vr a1] [(.ref a1)])) rfl (B d5_5) _ ?_
    refine st2 _ ?_
    exact X2.returnOut hx hret (B d5_10) hr
theorem w_28 {a0 Z} (hw : OW a0 Z) : Jvm.Cond.before (.code y_2 jdk_69_method_7_code 1 none) a0 Z := hw _ (mo 28 rfl)
theorem w_26 {a0 Z} (hw : OW a0 Z) : Jvm.Cond.before (.methodLink "com/example/informal_search/informalsearch/index/Numbering" 9 y_2) a0 Z := hw _ (mo 26 rfl)
theorem w_27 {a0 Z} (hw : OW a0 Z) : Jvm.Cond.before (.instanceMethod y_2) a0 Z := hw _ (mo 27 rfl)
theorem d4_12 : decode Kc4 12 = .ok (.putfield 10, 3) := by decide +kernel
theorem w_39 {a0 Z} (hw : OW a0 Z) : Jvm.Cond.before (.fieldLink "com/example/informal_search/informalsearch/index/Numbering" 10 "com/example/informal_search/informalsearch/index/Numbering" "numbers" "Ljava/util/Map;") a0 Z := hw _ (mo 39 rfl)
theorem d4_15 : decode Kc4 15 = .ok (.aload_n 0, 1) := by decide +kernel
theorem d4_16 : decode Kc4 16 = .ok (.new 16, 3) := by decide +kernel
theorem w_41 {a0 Z} (hw : OW a0 Z) : Jvm.Cond.before (.classLink "com/example/informal_search/informalsearch/index/Numbering" 16 "java/util/ArrayList") a0 Z := hw _ (mo 41 rfl)
theorem w_42 {a0 Z} (hw : OW a0 Z) : Jvm.Cond.before (.instantiable "java/util/ArrayList" 3) a0 Z := hw _ (mo 42 rfl)
theorem w_43 {a0 Z} (hw : OW a0 Z) : Jvm.Cond.before (.initialized "java/util/ArrayList") a0 Z := hw _ (mo 43 rfl)
theorem w_61 {a0 Z} (hw : OW a0 Z) : Jvm.Cond.before (.lays "java/util/ArrayList" "java/util/AbstractList" "modCount" "I") a0 Z := hw _ (mo 61 rfl)
theorem w_64 {a0 Z} (hw : OW a0 Z) : Jvm.Cond.before (.lays "java/util/ArrayList" "java/util/ArrayList" "elementData" "[Ljava/lang/Object;") a0 Z := hw _ (mo 64 rfl)
theorem w_194 {a0 Z} (hw : OW a0 Z) : Jvm.Cond.before (.lays "java/util/ArrayList" "java/util/ArrayList" "size" "I") a0 Z := hw _ (mo 194 rfl)
theorem d4_19 : decode Kc4 19 = .ok (.dup, 1) := by decide +kernel
theorem d4_20 : decode Kc4 20 = .ok (.invokespecial 18, 3) := by decide +kernel
abbrev Kc7 := jdk_38_method_2_code
theorem d7_0 : decode Kc7 0 = .ok (.aload_n 0, 1) := by decide +kernel
theorem d7_1 : decode Kc7 1 = .ok (.invokespecial 1, 3) := by decide +kernel
abbrev Kc8 := jdk_39_method_1_code
theorem d8_0 : decode Kc8 0 = .ok (.aload_n 0, 1) := by decide +kernel
theorem d8_1 : decode Kc8 1 = .ok (.invokespecial 1, 3) := by decide +kernel
abbrev Kc9 := jdk_22_method_1_code
theorem d9_0 : decode Kc9 0 = .ok (.aload_n 0, 1) := by decide +kernel
theorem d9_1 : decode Kc9 1 = .ok (.invokespecial 1, 3) := by decide +kernel
theorem w_59 {a0 Z} (hw : OW a0 Z) : Jvm.Cond.before (.methodLink "java/util/AbstractCollection" 1 y_0) a0 Z := hw _ (mo 59 rfl)
theorem d9_4 : decode Kc9 4 = .ok (.return_, 1) := by decide +kernel
abbrev y_3 : MethodName := ⟨"java/util/AbstractCollection", "<init>", "()V"⟩
theorem pn_2 : plainName "java/util/AbstractCollection" = true := by first | (simp [plainName, overriddenIn]; done) | decide +kernel
abbrev Rm5 : Room := rmk 1 0 0 12
def Q5 (Z : State) (a1 : Addr) (h0 : Heap) (n0 : Nat) (v : Option Value) (h : Heap) (L : List Loc) : Prop := v = none ∧ Fr n0 L ∧ h = h0
theorem rm5 (l : Launch) (Z : State) {a0 : Array Value} (hw : OW a0 Z) (a1 : Addr) (h0 : Heap) (n0 : Nat) (Z0 : n0 ≤ h0.size) :
    OwnMet l Z y_3 jdk_22_method_1_code 1 none [] Rm5 #[(.ref a1)] h0 (Q5 Z a1 h0 n0) := by
  refine own_body (plainFor_of_name pn_2) (ef_26f21a a1) ?_
  intro p e s m below meth c s₁ hx hby hml hown hnm hret hZ hH hnd X0 e0
  have N0 := Fr.nil n0
  have B := hbx hby
  obtain ⟨T1, X1, e1, st1⟩ := initO X0 hx hZ hown (w_59 hw) (w_8 hw) (w_9 hw) e0 (g := (mkF m 1 #[vr a1] [(.ref a1)])) rfl hml.symm rfl (B d9_1) (by decide) (W := 0) (by show 2 * 0 + _ ≤ _; exact Nat.le_of_eq rfl) (by decide)
  refine ⟨T1, _, _, _, none, X1, (fun _ => rfl), by decide, by decide, ?_, fun fs hr => ?_⟩
  · rw [e1]
    exact ⟨rfl, N0, rfl⟩
  · refine sA X0 hx (B d9_0) rfl rfl ?_
    refine st1 _ ?_
    exact X1.returnOut hx hret (B d9_4) hr
theorem w_57 {a0 Z} (hw : OW a0 Z) : Jvm.Cond.before (.initialized "java/util/AbstractCollection") a0 Z := hw _ (mo 57 rfl)
theorem w_58 {a0 Z} (hw : OW a0 Z) : Jvm.Cond.before (.code y_3 jdk_22_method_1_code 1 none) a0 Z := hw _ (mo 58 rfl)
theorem w_53 {a0 Z} (hw : OW a0 Z) : Jvm.Cond.before (.methodLink "java/util/AbstractList" 1 y_3) a0 Z := hw _ (mo 53 rfl)
theorem w_54 {a0 Z} (hw : OW a0 Z) : Jvm.Cond.before (.instanceMethod y_3) a0 Z := hw _ (mo 54 rfl)
theorem d8_4 : decode Kc8 4 = .ok (.aload_n 0, 1) := by decide +kernel
theorem d8_5 : decode Kc8 5 = .ok (.iconst 0, 1) := by decide +kernel
theorem d8_6 : decode Kc8 6 = .ok (.putfield 7, 3) := by decide +kernel
theorem w_60 {a0 Z} (hw : OW a0 Z) : Jvm.Cond.before (.fieldLink "java/util/AbstractList" 7 "java/util/AbstractList" "modCount" "I") a0 Z := hw _ (mo 60 rfl)
theorem d8_9 : decode Kc8 9 = .ok (.return_, 1) := by decide +kernel
abbrev y_4 : MethodName := ⟨"java/util/AbstractList", "<init>", "()V"⟩
theorem pn_3 : plainName "java/util/AbstractList" = true := by first | (simp [plainName, overriddenIn]; done) | decide +kernel
abbrev Rm6 : Room := rmk 2 0 0 24
def Q6 (Z : State) (a1 : Addr) (h0 : Heap) (n0 : Nat) (v : Option Value) (h : Heap) (L : List Loc) : Prop := v = none ∧ Fr n0 L ∧ Keep h0 h [a1] ∧ Exa Z h a1 "java/util/ArrayList" ∧ Fld Z h a1 "java/util/AbstractList" "modCount" "I" (.int 0) ∧ Fld Z h a1 "java/util/ArrayList" "elementData" "[Ljava/lang/Object;" .null ∧ Fld Z h a1 "java/util/ArrayList" "size" "I" (.int 0)
theorem rm6 (l : Launch) (Z : State) {a0 : Array Value} (hw : OW a0 Z) (a1 : Addr) (h0 : Heap) (n0 : Nat) (Z0 : n0 ≤ h0.size) (F_modCount_a1 : Fld Z h0 a1 "java/util/AbstractList" "modCount" "I" (.int 0)) (E_a1 : Exa Z h0 a1 "java/util/ArrayList") (g_a1 : n0 ≤ a1) (F_elementData_a1 : Fld Z h0 a1 "java/util/ArrayList" "elementData" "[Ljava/lang/Object;" .null) (F_size_a1 : Fld Z h0 a1 "java/util/ArrayList" "size" "I" (.int 0)) :
    OwnMet l Z y_4 jdk_39_method_1_code 1 none [] Rm6 #[(.ref a1)] h0 (Q6 Z a1 h0 n0) := by
  refine own_body (plainFor_of_name pn_3) (ef_26f21a a1) ?_
  intro p e s m below meth c s₁ hx hby hml hown hnm hret hZ hH hnd X0 e0
  have N0 := Fr.nil n0
  have B := hbx hby
  obtain ⟨_, T1, L1, X1, hQ1, st1⟩ := own_special X0 hx hZ hH hown (y := y_3) (a := a1) (w_53 hw) (w_54 hw) (w_57 hw) (w_58 hw) (rm5 l Z hw a1 h0 n0 Z0) e0 (Ls := #[vr a1]) hml.symm (argsL := []) (rest := []) (lenOf pd_0 rfl) (B d8_1) (W := 0)
  obtain ⟨rfl, Nq1, e1⟩ := hQ1
  have N1 := Fr.app N0 Nq1
  obtain ⟨T2, h2, X2, e2, W2, st2⟩ := putF X1 hx hZ hown (host := "") (Or.inl (w_60 hw)) Via.refl e1 F_modCount_a1 E_a1 (Or.inl (w_61 hw)) (w_42 hw) (ty := .int) (by decide) rfl rfl (g := (mkF m 6 #[vr a1] [(.int 0), (.ref a1)])) rfl rfl (B d8_6)
  have s0 := (Keep.of_wr W2).1
  have N2 := Fr.snoc X2 N1 g_a1
  have Fw2 : Fld Z h2 a1 "java/util/AbstractList" "modCount" "I" (.int 0) := F_modCount_a1.same W2
  have Ex3 := (E_a1.wr W2)
  have Fl4 := (F_elementData_a1.other W2 (Or.inr (slot_ne (Or.inl (w_64 hw)) (Or.inl (w_61 hw)) (by decide) (t := (.array (.object "java/lang/Object"))) (t' := .int) (by decide) (by decide))))
  have Fl5 := (F_size_a1.other W2 (Or.inr (slot_ne (Or.inl (w_194 hw)) (Or.inl (w_61 hw)) (by decide) (t := .int) (t' := .int) (by decide) (by decide))))
  have Kp0 := (Keep.refl h0 [a1]).wr W2 own_m0
  refine ⟨T2, _, _, _, none, X2, (fun _ => rfl), by decide, by decide, ?_, fun fs hr => ?_⟩
  · rw [e2]
    exact ⟨rfl, N2, Kp0, Ex3, Fw2, Fl4, Fl5⟩
  · refine sA X0 hx (B d8_0) rfl rfl ?_
    refine st1 _ ?_
    refine sA X1 hx (B d8_4) rfl rfl ?_
    refine sC X1 hx (B d8_5) ?_
    refine st2 _ ?_
    exact X2.returnOut hx hret (B d8_9) hr
theorem w_51 {a0 Z} (hw : OW a0 Z) : Jvm.Cond.before (.initialized "java/util/AbstractList") a0 Z := hw _ (mo 51 rfl)
theorem w_52 {a0 Z} (hw : OW a0 Z) : Jvm.Cond.before (.code y_4 jdk_39_method_1_code 1 none) a0 Z := hw _ (mo 52 rfl)
theorem w_47 {a0 Z} (hw : OW a0 Z) : Jvm.Cond.before (.methodLink "java/util/ArrayList" 1 y_4) a0 Z := hw _ (mo 47 rfl)
theorem w_48 {a0 Z} (hw : OW a0 Z) : Jvm.Cond.before (.instanceMethod y_4) a0 Z := hw _ (mo 48 rfl)
theorem d7_4 : decode Kc7 4 = .ok (.aload_n 0, 1) := by decide +kernel
theorem d7_5 : decode Kc7 5 = .ok (.getstatic 39, 3) := by decide +kernel
theorem w_62 {a0 Z} (hw : OW a0 Z) : Jvm.Cond.before (.fieldLink "java/util/ArrayList" 39 "java/util/ArrayList" "DEFAULTCAPACITY_EMPTY_ELEMENTDATA" "[Ljava/lang/Object;") a0 Z := hw _ (mo 62 rfl)
theorem d7_8 : decode Kc7 8 = .ok (.putfield 9, 3) := by decide +kernel
theorem w_63 {a0 Z} (hw : OW a0 Z) : Jvm.Cond.before (.fieldLink "java/util/ArrayList" 9 "java/util/ArrayList" "elementData" "[Ljava/lang/Object;") a0 Z := hw _ (mo 63 rfl)
theorem d7_11 : decode Kc7 11 = .ok (.return_, 1) := by decide +kernel
abbrev y_5 : MethodName := ⟨"java/util/ArrayList", "<init>", "()V"⟩
theorem pn_4 : plainName "java/util/ArrayList" = true := by first | (simp [plainName, overriddenIn]; done) | decide +kernel
abbrev Rm7 : Room := rmk 3 0 0 36
def Q7 (Z : State) (a1 a2 : Addr) (h0 : Heap) (n0 : Nat) (v : Option Value) (h : Heap) (L : List Loc) : Prop := v = none ∧ Fr n0 L ∧ Keep h0 h [a1] ∧ Exa Z h a1 "java/util/ArrayList" ∧ Fld Z h a1 "java/util/AbstractList" "modCount" "I" (.int 0) ∧ Fld Z h a1 "java/util/ArrayList" "elementData" "[Ljava/lang/Object;" (.ref a2) ∧ Fld Z h a1 "java/util/ArrayList" "size" "I" (.int 0)
theorem rm7 (l : Launch) (Z : State) {a0 : Array Value} (hw : OW a0 Z) (a1 a2 : Addr) (h0 : Heap) (n0 : Nat) (Z0 : n0 ≤ h0.size) (F_modCount_a1 : Fld Z h0 a1 "java/util/AbstractList" "modCount" "I" (.int 0)) (E_a1 : Exa Z h0 a1 "java/util/ArrayList") (g_a1 : n0 ≤ a1) (F_elementData_a1 : Fld Z h0 a1 "java/util/ArrayList" "elementData" "[Ljava/lang/Object;" .null) (F_size_a1 : Fld Z h0 a1 "java/util/ArrayList" "size" "I" (.int 0)) (S_DEFAULTCAPACITY_EMPTY_ELEMENTDATA : Sta Z Z.heap "java/util/ArrayList" "DEFAULTCAPACITY_EMPTY_ELEMENTDATA" "[Ljava/lang/Object;" (.ref a2)) (Od0 : Old Z n0 h0) :
    OwnMet l Z y_5 jdk_38_method_2_code 1 none [] Rm7 #[(.ref a1)] h0 (Q7 Z a1 a2 h0 n0) := by
  refine own_body (plainFor_of_name pn_4) (ef_26f21a a1) ?_
  intro p e s m below meth c s₁ hx hby hml hown hnm hret hZ hH hnd X0 e0
  have N0 := Fr.nil n0
  have B := hbx hby
  obtain ⟨_, T1, L1, X1, hQ1, st1⟩ := own_special X0 hx hZ hH hown (y := y_4) (a := a1) (w_47 hw) (w_48 hw) (w_51 hw) (w_52 hw) (rm6 l Z hw a1 h0 n0 Z0 F_modCount_a1 E_a1 g_a1 F_elementData_a1 F_size_a1) e0 (Ls := #[vr a1]) hml.symm (argsL := []) (rest := []) (lenOf pd_0 rfl) (B d7_1) (W := 0)
  obtain ⟨rfl, Nq1, K1, o1_0, o1_1, o1_2, o1_3⟩ := hQ1
  have N1 := Fr.app N0 Nq1
  have s0 := K1.1
  have Od1 := Od0.keep K1 (allS g_a1 all0)
  obtain ⟨T2, X2, e2, st2⟩ := getS2 X1 hx hZ hown (host := "") (Or.inl (w_62 hw)) Via.refl rfl (S_DEFAULTCAPACITY_EMPTY_ELEMENTDATA.ext Od1.2) (g := (mkF m 5 #[vr a1] [(.ref a1)])) rfl (B d7_5)
  obtain ⟨T3, h3, X3, e3, W3, st3⟩ := putF X2 hx hZ hown (host := "") (Or.inl (w_63 hw)) Via.refl e2 o1_2 o1_0 (Or.inl (w_64 hw)) (w_42 hw) (ty := (.array (.object "java/lang/Object"))) (by decide) rfl rfl (g := (mkF m 8 #[vr a1] [(.ref a2), (.ref a1)])) rfl rfl (B d7_8)
  have s1 := (Keep.of_wr W3).1
  have N3 := Fr.snoc X3 N1 g_a1
  have Fw3 : Fld Z h3 a1 "java/util/ArrayList" "elementData" "[Ljava/lang/Object;" (.ref a2) := o1_2.same W3
  have Ex4 := (o1_0.wr W3)
  have Fl5 := (o1_1.other W3 (Or.inr (slot_ne (Or.inl (w_61 hw)) (Or.inl (w_64 hw)) (by decide) (t := .int) (t' := (.array (.object "java/lang/Object"))) (by decide) (by decide))))
  have Fl6 := (o1_3.other W3 (Or.inr (slot_ne (Or.inl (w_194 hw)) (Or.inl (w_64 hw)) (by decide) (t := .int) (t' := (.array (.object "java/lang/Object"))) (by decide) (by decide))))
  have Kp0 := (Keep.refl h0 [a1]).trans K1 (allS own_m0 all0)
  have Kp1 := Kp0.wr W3 own_m0
  refine ⟨T3, _, _, _, none, X3, (fun _ => rfl), by decide, by decide, ?_, fun fs hr => ?_⟩
  · rw [e3]
    exact ⟨rfl, N3, Kp1, Ex4, Fl5, Fw3, Fl6⟩
  · refine sA X0 hx (B d7_0) rfl rfl ?_
    refine st1 _ ?_
    refine sA X1 hx (B d7_4) rfl rfl ?_
    refine st2 _ ?_
    refine st3 _ ?_
    exact X3.returnOut hx hret (B d7_11) hr
theorem w_46 {a0 Z} (hw : OW a0 Z) : Jvm.Cond.before (.code y_5 jdk_38_method_2_code 1 none) a0 Z := hw _ (mo 46 rfl)
theorem w_44 {a0 Z} (hw : OW a0 Z) : Jvm.Cond.before (.methodLink "com/example/informal_search/informalsearch/index/Numbering" 18 y_5) a0 Z := hw _ (mo 44 rfl)
theorem w_45 {a0 Z} (hw : OW a0 Z) : Jvm.Cond.before (.instanceMethod y_5) a0 Z := hw _ (mo 45 rfl)
theorem d4_23 : decode Kc4 23 = .ok (.putfield 19, 3) := by decide +kernel
theorem w_65 {a0 Z} (hw : OW a0 Z) : Jvm.Cond.before (.fieldLink "com/example/informal_search/informalsearch/index/Numbering" 19 "com/example/informal_search/informalsearch/index/Numbering" "strings" "Ljava/util/List;") a0 Z := hw _ (mo 65 rfl)
theorem d4_26 : decode Kc4 26 = .ok (.return_, 1) := by decide +kernel
abbrev y_6 : MethodName := ⟨"com/example/informal_search/informalsearch/index/Numbering", "<init>", "()V"⟩
theorem pn_5 : plainName "com/example/informal_search/informalsearch/index/Numbering" = true := by first | (simp [plainName, overriddenIn]; done) | decide +kernel
abbrev Rm8 : Room := rmk 4 2 11 50
def Q8 (Z : State) (a1 a2 : Addr) (h0 : Heap) (n0 : Nat) (v : Option Value) (h : Heap) (L : List Loc) : Prop := ∃ b2 : Addr, ∃ b7 : Addr, v = none ∧ Fr n0 L ∧ Keep h0 h [a1] ∧ Exa Z h a1 "com/example/informal_search/informalsearch/index/Numbering" ∧ Fld Z h a1 "com/example/informal_search/informalsearch/index/Numbering" "bytes" "J" (.long 0) ∧ Fld Z h a1 "com/example/informal_search/informalsearch/index/Numbering" "numbers" "Ljava/util/Map;" (.ref b2) ∧ Fld Z h a1 "com/example/informal_search/informalsearch/index/Numbering" "strings" "Ljava/util/List;" (.ref b7) ∧ h0.size ≤ b2 ∧ Exa Z h b2 "java/util/HashMap" ∧ Fld Z h b2 "java/util/HashMap" "loadFactor" "F" (.float 1061158912) ∧ Fld Z h b2 "java/util/HashMap" "modCount" "I" (.int 0) ∧ Fld Z h b2 "java/util/HashMap" "size" "I" (.int 0) ∧ Fld Z h b2 "java/util/HashMap" "table" "[Ljava/util/HashMap$Node;" .null ∧ Fld Z h b2 "java/util/HashMap" "threshold" "I" (.int 0) ∧ h0.size ≤ b7 ∧ Exa Z h b7 "java/util/ArrayList" ∧ Fld Z h b7 "java/util/AbstractList" "modCount" "I" (.int 0) ∧ Fld Z h b7 "java/util/ArrayList" "elementData" "[Ljava/lang/Object;" (.ref a2) ∧ Fld Z h b7 "java/util/ArrayList" "size" "I" (.int 0) ∧ b2 ≠ b7
theorem rm8 (l : Launch) (Z : State) {a0 : Array Value} (hw : OW a0 Z) (a1 a2 : Addr) (h0 : Heap) (n0 : Nat) (Z0 : n0 ≤ h0.size) (F_numbers_a1 : Fld Z h0 a1 "com/example/informal_search/informalsearch/index/Numbering" "numbers" "Ljava/util/Map;" .null) (E_a1 : Exa Z h0 a1 "com/example/informal_search/informalsearch/index/Numbering") (g_a1 : n0 ≤ a1) (S_DEFAULTCAPACITY_EMPTY_ELEMENTDATA : Sta Z Z.heap "java/util/ArrayList" "DEFAULTCAPACITY_EMPTY_ELEMENTDATA" "[Ljava/lang/Object;" (.ref a2)) (Od0 : Old Z n0 h0) (F_strings_a1 : Fld Z h0 a1 "com/example/informal_search/informalsearch/index/Numbering" "strings" "Ljava/util/List;" .null) (F_bytes_a1 : Fld Z h0 a1 "com/example/informal_search/informalsearch/index/Numbering" "bytes" "J" (.long 0)) :
    OwnMet l Z y_6 prog_38_method_1_code 1 none [] Rm8 #[(.ref a1)] h0 (Q8 Z a1 a2 h0 n0) := by
  refine own_body (plainFor_of_name pn_5) (ef_26f21a a1) ?_
  intro p e s m below meth c s₁ hx hby hml hown hnm hret hZ hH hnd X0 e0
  have N0 := Fr.nil n0
  have B := hbx hby
  obtain ⟨T1, X1, e1, st1⟩ := initO X0 hx hZ hown (w_22 hw) (w_8 hw) (w_9 hw) e0 (g := (mkF m 1 #[vr a1] [(.ref a1)])) rfl hml.symm rfl (B d4_1) (by decide) (W := 0) (by show 2 * 0 + _ ≤ _; exact Nat.le_of_eq rfl) (by decide)
  obtain ⟨T2, h2, X2, e2, E2, A2, D2, -, st2⟩ := newO X1 hx hZ hown (w_23 hw) (w_24 hw) (w_25 hw) e1 (g := (mkF m 5 #[vr a1] [(.ref a1)])) rfl (B d4_5) (by decide) (by decide)
  obtain ⟨b2, g2⟩ : ∃ z, z = h0.size := ⟨_, rfl⟩
  rw [← g2] at A2 D2 st2
  have s0 := E2.1
  have Fn2_loadFactor : Fld Z h2 b2 "java/util/HashMap" "loadFactor" "F" (.float 0) := D2 (Or.inr (w_38 hw)) (ty := .float) (by decide)
  have Fn2_size : Fld Z h2 b2 "java/util/HashMap" "size" "I" (.int 0) := D2 (Or.inl (w_162 hw)) (ty := .int) (by decide)
  have Fn2_threshold : Fld Z h2 b2 "java/util/HashMap" "threshold" "I" (.int 0) := D2 (Or.inl (w_164 hw)) (ty := .int) (by decide)
  have Fn2_table : Fld Z h2 b2 "java/util/HashMap" "table" "[Ljava/util/HashMap$Node;" .null := D2 (Or.inl (w_166 hw)) (ty := (.array (.object "java/util/HashMap$Node"))) (by decide)
  have Fn2_modCount : Fld Z h2 b2 "java/util/HashMap" "modCount" "I" (.int 0) := D2 (Or.inl (w_175 hw)) (ty := .int) (by decide)
  have g_b2 : n0 ≤ b2 := Nat.le_trans Z0 (Nat.le_of_eq g2.symm)
  have z1 := Nat.le_trans Z0 s0
  obtain ⟨_, T3, L3, X3, hQ3, st3⟩ := own_special X2 hx hZ hH hown (y := y_2) (a := b2) (w_26 hw) (w_27 hw) (w_25 hw) (w_28 hw) (rm4 l Z hw b2 h2 n0 z1 Fn2_loadFactor A2 g_b2 Fn2_modCount Fn2_size Fn2_table Fn2_threshold) e2 (Ls := #[vr a1]) hml.symm (argsL := []) (rest := [(.ref b2), (.ref a1)]) (lenOf pd_0 rfl) (B d4_9) (W := 2)
  obtain ⟨rfl, Nq3, K3, o3_0, o3_1, o3_2, o3_3, o3_4, o3_5⟩ := hQ3
  have N3 := Fr.app N0 Nq3
  have s1 := K3.1
  have ne_a1_b2 := Nat.ne_of_lt (Nat.lt_of_lt_of_le F_numbers_a1.lt (Nat.le_of_eq g2.symm))
  have Fl4 := ((F_numbers_a1.ext E2).keep K3 (ninS ne_a1_b2 nin0))
  have Ex5 := ((E_a1.ext E2).keep K3)
  obtain ⟨T6, h6, X6, e6, W6, st6⟩ := putF X3 hx hZ hown (host := "") (Or.inl (w_39 hw)) Via.refl rfl Fl4 Ex5 (Or.inr ⟨(w_40 hw), rfl, hnm⟩) (w_17 hw) (ty := (.object "java/util/Map")) (by decide) rfl rfl (g := (mkF m 12 #[vr a1] [(.ref b2), (.ref a1)])) rfl rfl (B d4_12)
  have s2 := (Keep.of_wr W6).1
  have N6 := Fr.snoc X6 N3 g_a1
  have Fw6 : Fld Z h6 a1 "com/example/informal_search/informalsearch/index/Numbering" "numbers" "Ljava/util/Map;" (.ref b2) := Fl4.same W6
  obtain ⟨T7, h7, X7, e7, E7, A7, D7, -, st7⟩ := newO X6 hx hZ hown (w_41 hw) (w_42 hw) (w_43 hw) e6 (g := (mkF m 16 #[vr a1] [(.ref a1)])) rfl (B d4_16) (by decide) (by decide)
  obtain ⟨b7, g7⟩ : ∃ z, z = h6.size := ⟨_, rfl⟩
  rw [← g7] at A7 D7 st7
  have s3 := E7.1
  have Fn7_modCount : Fld Z h7 b7 "java/util/AbstractList" "modCount" "I" (.int 0) := D7 (Or.inl (w_61 hw)) (ty := .int) (by decide)
  have Fn7_elementData : Fld Z h7 b7 "java/util/ArrayList" "elementData" "[Ljava/lang/Object;" .null := D7 (Or.inl (w_64 hw)) (ty := (.array (.object "java/lang/Object"))) (by decide)
  have Fn7_size : Fld Z h7 b7 "java/util/ArrayList" "size" "I" (.int 0) := D7 (Or.inl (w_194 hw)) (ty := .int) (by decide)
  have z3 := Nat.le_trans Z0 (Nat.le_trans (Nat.le_trans s0 s1) s2)
  have g_b7 : n0 ≤ b7 := Nat.le_trans z3 (Nat.le_of_eq g7.symm)
  have Od1 := Od0.ext E2
  have Od2 := Od1.keep K3 (allS g_b2 all0)
  have Od3 := Od2.wr W6 g_a1
  have Od4 := Od3.ext E7
  have z4 := Nat.le_trans Z0 (Nat.le_trans (Nat.le_trans (Nat.le_trans s0 s1) s2) s3)
  obtain ⟨_, T8, L8, X8, hQ8, st8⟩ := own_special X7 hx hZ hH hown (y := y_5) (a := b7) (w_44 hw) (w_45 hw) (w_43 hw) (w_46 hw) (rm7 l Z hw b7 a2 h7 n0 z4 Fn7_modCount A7 g_b7 Fn7_elementData Fn7_size S_DEFAULTCAPACITY_EMPTY_ELEMENTDATA Od4) e7 (Ls := #[vr a1]) hml.symm (argsL := []) (rest := [(.ref b7), (.ref a1)]) (lenOf pd_0 rfl) (B d4_20) (W := 2)
  obtain ⟨rfl, Nq8, K8, o8_0, o8_1, o8_2, o8_3⟩ := hQ8
  have N8 := Fr.app N6 Nq8
  have s4 := K8.1
  have Ex9 := (((Ex5.wr W6).ext E7).keep K8)
  have ne_a1_b7 := Nat.ne_of_lt (Nat.lt_of_lt_of_le Fw6.lt (Nat.le_of_eq g7.symm))
  have Fl10 := (((((F_strings_a1.ext E2).keep K3 (ninS ne_a1_b2 nin0)).other W6 (Or.inr (slot_ne (Or.inr (w_66 hw)) (Or.inr (w_40 hw)) (by decide) (t := (.object "java/util/List")) (t' := (.object "java/util/Map")) (by decide) (by decide)))).ext E7).keep K8 (ninS ne_a1_b7 nin0))
  obtain ⟨T11, h11, X11, e11, W11, st11⟩ := putF X8 hx hZ hown (host := "") (Or.inl (w_65 hw)) Via.refl rfl Fl10 Ex9 (Or.inr ⟨(w_66 hw), rfl, hnm⟩) (w_17 hw) (ty := (.object "java/util/List")) (by decide) rfl rfl (g := (mkF m 23 #[vr a1] [(.ref b7), (.ref a1)])) rfl rfl (B d4_23)
  have s5 := (Keep.of_wr W11).1
  have N11 := Fr.snoc X11 N8 g_a1
  have Fw11 : Fld Z h11 a1 "com/example/informal_search/informalsearch/index/Numbering" "strings" "Ljava/util/List;" (.ref b7) := Fl10.same W11
  have Ex12 := (Ex9.wr W11)
  have Fl13 := ((((((F_bytes_a1.ext E2).keep K3 (ninS ne_a1_b2 nin0)).other W6 (Or.inr (slot_ne (Or.inl (w_218 hw)) (Or.inr (w_40 hw)) (by decide) (t := .long) (t' := (.object "java/util/Map")) (by decide) (by decide)))).ext E7).keep K8 (ninS ne_a1_b7 nin0)).other W11 (Or.inr (slot_ne (Or.inl (w_218 hw)) (Or.inr (w_66 hw)) (by decide) (t := .long) (t' := (.object "java/util/List")) (by decide) (by decide))))
  have Fl14 := (((Fw6.ext E7).keep K8 (ninS ne_a1_b7 nin0)).other W11 (Or.inr (slot_ne (Or.inr (w_40 hw)) (Or.inr (w_66 hw)) (by decide) (t := (.object "java/util/Map")) (t' := (.object "java/util/List")) (by decide) (by decide))))
  have sz_b2 : h0.size ≤ b2 := (Nat.le_of_eq g2.symm)
  have Ex15 := ((((o3_0.wr W6).ext E7).keep K8).wr W11)
  have ne_b2_b7 := Nat.ne_of_lt (Nat.lt_of_lt_of_le (Nat.lt_of_lt_of_le o3_5.lt s2) (Nat.le_of_eq g7.symm))
  have Fl16 := ((((o3_1.other W6 (Or.inl (Ne.symm ne_a1_b2))).ext E7).keep K8 (ninS ne_b2_b7 nin0)).other W11 (Or.inl (Ne.symm ne_a1_b2)))
  have Fl17 := ((((o3_2.other W6 (Or.inl (Ne.symm ne_a1_b2))).ext E7).keep K8 (ninS ne_b2_b7 nin0)).other W11 (Or.inl (Ne.symm ne_a1_b2)))
  have Fl18 := ((((o3_3.other W6 (Or.inl (Ne.symm ne_a1_b2))).ext E7).keep K8 (ninS ne_b2_b7 nin0)).other W11 (Or.inl (Ne.symm ne_a1_b2)))
  have Fl19 := ((((o3_4.other W6 (Or.inl (Ne.symm ne_a1_b2))).ext E7).keep K8 (ninS ne_b2_b7 nin0)).other W11 (Or.inl (Ne.symm ne_a1_b2)))
  have Fl20 := ((((o3_5.other W6 (Or.inl (Ne.symm ne_a1_b2))).ext E7).keep K8 (ninS ne_b2_b7 nin0)).other W11 (Or.inl (Ne.symm ne_a1_b2)))
  have sz_b7 : h0.size ≤ b7 := Nat.le_trans (Nat.le_trans (Nat.le_trans s0 s1) s2) (Nat.le_of_eq g7.symm)
  have Ex21 := (o8_0.wr W11)
  have Fl22 := (o8_1.other W11 (Or.inl (Ne.symm ne_a1_b7)))
  have Fl23 := (o8_2.other W11 (Or.inl (Ne.symm ne_a1_b7)))
  have Fl24 := (o8_3.other W11 (Or.inl (Ne.symm ne_a1_b7)))
  have Kp0 := (Keep.refl h0 [a1]).ext E2
  have Kp1 := Kp0.trans K3 (allS (Or.inr sz_b2) all0)
  have Kp2 := Kp1.wr W6 own_m0
  have Kp3 := Kp2.ext E7
  have Kp4 := Kp3.trans K8 (allS (Or.inr sz_b7) all0)
  have Kp5 := Kp4.wr W11 own_m0
  refine ⟨T11, _, _, _, none, X11, (fun _ => rfl), by decide, by decide, ?_, fun fs hr => ?_⟩
  · rw [e11]
    exact ⟨b2, b7, rfl, N11, Kp5, Ex12, Fl13, Fl14, Fw11, sz_b2, Ex15, Fl16, Fl17, Fl18, Fl19, Fl20, sz_b7, Ex21, Fl22, Fl23, Fl24, ne_b2_b7⟩
  · refine sA X0 hx (B d4_0) rfl rfl ?_
    refine st1 _ ?_
    refine sA X1 hx (B d4_4) rfl rfl ?_
    refine st2 _ ?_
    refine XS.dup X2.here hx rfl (B d4_8) rfl rfl ?_
    refine st3 _ ?_
    refine st6 _ ?_
    refine sA X6 hx (B d4_15) rfl rfl ?_
    refine st7 _ ?_
    refine XS.dup X7.here hx rfl (B d4_19) rfl rfl ?_
    refine st8 _ ?_
    refine st11 _ ?_
    exact X11.returnOut hx hret (B d4_26) hr
theorem w_21 {a0 Z} (hw : OW a0 Z) : Jvm.Cond.before (.code y_6 prog_38_method_1_code 1 none) a0 Z := hw _ (mo 21 rfl)
theorem w_19 {a0 Z} (hw : OW a0 Z) : Jvm.Cond.before (.methodLink "com/example/informal_search/informalsearch/index/PostingBuffer" 98 y_6) a0 Z := hw _ (mo 19 rfl)
theorem w_20 {a0 Z} (hw : OW a0 Z) : Jvm.Cond.before (.instanceMethod y_6) a0 Z := hw _ (mo 20 rfl)
theorem d3_8 : decode Kc3 8 = .ok (.putfield 18, 3) := by decide +kernel
theorem w_67 {a0 Z} (hw : OW a0 Z) : Jvm.Cond.before (.fieldLink "com/example/informal_search/informalsearch/index/PostingBuffer" 18 "com/example/informal_search/informalsearch/index/PostingBuffer" "terms" "Lcom/example/informal_search/informalsearch/index/Numbering;") a0 Z := hw _ (mo 67 rfl)
theorem d3_11 : decode Kc3 11 = .ok (.aload_n 0, 1) := by decide +kernel
theorem d3_12 : decode Kc3 12 = .ok (.sipush 1024, 3) := by decide +kernel
theorem d3_15 : decode Kc3 15 = .ok (.newarray .int, 2) := by decide +kernel
theorem w_69 {a0 Z} (hw : OW a0 Z) : Jvm.Cond.before (.arrayClass .int) a0 Z := hw _ (mo 69 rfl)
theorem d3_17 : decode Kc3 17 = .ok (.putfield 32, 3) := by decide +kernel
theorem w_70 {a0 Z} (hw : OW a0 Z) : Jvm.Cond.before (.fieldLink "com/example/informal_search/informalsearch/index/PostingBuffer" 32 "com/example/informal_search/informalsearch/index/PostingBuffer" "termOf" "[I") a0 Z := hw _ (mo 70 rfl)
theorem d3_20 : decode Kc3 20 = .ok (.aload_n 0, 1) := by decide +kernel
theorem d3_21 : decode Kc3 21 = .ok (.sipush 1024, 3) := by decide +kernel
theorem d3_24 : decode Kc3 24 = .ok (.newarray .int, 2) := by decide +kernel
theorem d3_26 : decode Kc3 26 = .ok (.putfield 42, 3) := by decide +kernel
theorem w_72 {a0 Z} (hw : OW a0 Z) : Jvm.Cond.before (.fieldLink "com/example/informal_search/informalsearch/index/PostingBuffer" 42 "com/example/informal_search/informalsearch/index/PostingBuffer" "entityOf" "[I") a0 Z := hw _ (mo 72 rfl)
theorem d3_29 : decode Kc3 29 = .ok (.aload_n 0, 1) := by decide +kernel
theorem d3_30 : decode Kc3 30 = .ok (.sipush 1024, 3) := by decide +kernel
theorem d3_33 : decode Kc3 33 = .ok (.newarray .int, 2) := by decide +kernel
theorem d3_35 : decode Kc3 35 = .ok (.putfield 45, 3) := by decide +kernel
theorem w_74 {a0 Z} (hw : OW a0 Z) : Jvm.Cond.before (.fieldLink "com/example/informal_search/informalsearch/index/PostingBuffer" 45 "com/example/informal_search/informalsearch/index/PostingBuffer" "fieldOf" "[I") a0 Z := hw _ (mo 74 rfl)
theorem d3_38 : decode Kc3 38 = .ok (.aload_n 0, 1) := by decide +kernel
theorem d3_39 : decode Kc3 39 = .ok (.sipush 1024, 3) := by decide +kernel
theorem d3_42 : decode Kc3 42 = .ok (.newarray .int, 2) := by decide +kernel
theorem d3_44 : decode Kc3 44 = .ok (.putfield 48, 3) := by decide +kernel
theorem w_76 {a0 Z} (hw : OW a0 Z) : Jvm.Cond.before (.fieldLink "com/example/informal_search/informalsearch/index/PostingBuffer" 48 "com/example/informal_search/informalsearch/index/PostingBuffer" "countOf" "[I") a0 Z := hw _ (mo 76 rfl)
theorem d3_47 : decode Kc3 47 = .ok (.aload_n 0, 1) := by decide +kernel
theorem d3_48 : decode Kc3 48 = .ok (.iconst 0, 1) := by decide +kernel
theorem d3_49 : decode Kc3 49 = .ok (.putfield 28, 3) := by decide +kernel
theorem w_78 {a0 Z} (hw : OW a0 Z) : Jvm.Cond.before (.fieldLink "com/example/informal_search/informalsearch/index/PostingBuffer" 28 "com/example/informal_search/informalsearch/index/PostingBuffer" "size" "I") a0 Z := hw _ (mo 78 rfl)
theorem d3_52 : decode Kc3 52 = .ok (.aload_n 0, 1) := by decide +kernel
theorem d3_53 : decode Kc3 53 = .ok (.ldc2_w 99, 3) := by decide +kernel
theorem w_80 {a0 Z} (hw : OW a0 Z) : Jvm.Cond.before (.constantLong "com/example/informal_search/informalsearch/index/PostingBuffer" 99 (20480 : Int64)) a0 Z := hw _ (mo 80 rfl)
theorem d3_56 : decode Kc3 56 = .ok (.putfield 51, 3) := by decide +kernel
theorem w_81 {a0 Z} (hw : OW a0 Z) : Jvm.Cond.before (.fieldLink "com/example/informal_search/informalsearch/index/PostingBuffer" 51 "com/example/informal_search/informalsearch/index/PostingBuffer" "bytes" "J") a0 Z := hw _ (mo 81 rfl)
theorem d3_59 : decode Kc3 59 = .ok (.return_, 1) := by decide +kernel
abbrev y_7 : MethodName := ⟨"com/example/informal_search/informalsearch/index/PostingBuffer", "clear", "()V"⟩
theorem pn_6 : plainName "com/example/informal_search/informalsearch/index/PostingBuffer" = true := by first | (simp [plainName, overriddenIn]; done) | decide +kernel
abbrev Rm9 : Room := rmk 5 7 4110 64
def Q9 (Z : State) (a1 a2 a3 : Addr) (h0 : Heap) (n0 : Nat) (v : Option Value) (h : Heap) (L : List Loc) : Prop := ∃ b18 : Addr, ∃ k18 : ClassId, ∃ b10 : Addr, ∃ k10 : ClassId, ∃ b14 : Addr, ∃ k14 : ClassId, ∃ b6 : Addr, ∃ k6 : ClassId, ∃ b1 : Addr, ∃ b2_0 : Addr, ∃ b2_1 : Addr, v = none ∧ Fr n0 L ∧ Keep h0 h [a1] ∧ Exa Z h a1 "com/example/informal_search/informalsearch/index/PostingBuffer" ∧ Fld Z h a1 "com/example/informal_search/informalsearch/index/PostingBuffer" "bytes" "J" (.long 20480) ∧ Fld Z h a1 "com/example/informal_search/informalsearch/index/PostingBuffer" "countOf" "[I" (.ref b18) ∧ Fld Z h a1 "com/example/informal_search/informalsearch/index/PostingBuffer" "entityOf" "[I" (.ref b10) ∧ Fld Z h a1 "com/example/informal_search/informalsearch/index/PostingBuffer" "fieldOf" "[I" (.ref b14) ∧ Fld Z h a1 "com/example/informal_search/informalsearch/index/PostingBuffer" "literal" "[Z" (.ref a3) ∧ Fld Z h a1 "com/example/informal_search/informalsearch/index/PostingBuffer" "size" "I" (.int 0) ∧ Fld Z h a1 "com/example/informal_search/informalsearch/index/PostingBuffer" "termOf" "[I" (.ref b6) ∧ Fld Z h a1 "com/example/informal_search/informalsearch/index/PostingBuffer" "terms" "Lcom/example/informal_search/informalsearch/index/Numbering;" (.ref b1) ∧ h0.size ≤ b18 ∧ Exa Z h b18 "[I" ∧ Arv Z h b18 k18 .int 1024 [] (.int 0) ∧ h0.size ≤ b10 ∧ Exa Z h b10 "[I" ∧ Arv Z h b10 k10 .int 1024 [] (.int 0) ∧ h0.size ≤ b14 ∧ Exa Z h b14 "[I" ∧ Arv Z h b14 k14 .int 1024 [] (.int 0) ∧ h0.size ≤ b6 ∧ Exa Z h b6 "[I" ∧ Arv Z h b6 k6 .int 1024 [] (.int 0) ∧ h0.size ≤ b1 ∧ Exa Z h b1 "com/example/informal_search/informalsearch/index/Numbering" ∧ Fld Z h b1 "com/example/informal_search/informalsearch/index/Numbering" "bytes" "J" (.long 0) ∧ Fld Z h b1 "com/example/informal_search/informalsearch/index/Numbering" "numbers" "Ljava/util/Map;" (.ref b2_0) ∧ Fld Z h b1 "com/example/informal_search/informalsearch/index/Numbering" "strings" "Ljava/util/List;" (.ref b2_1) ∧ h0.size ≤ b2_0 ∧ Exa Z h b2_0 "java/util/HashMap" ∧ Fld Z h b2_0 "java/util/HashMap" "loadFactor" "F" (.float 1061158912) ∧ Fld Z h b2_0 "java/util/HashMap" "modCount" "I" (.int 0) ∧ Fld Z h b2_0 "java/util/HashMap" "size" "I" (.int 0) ∧ Fld Z h b2_0 "java/util/HashMap" "table" "[Ljava/util/HashMap$Node;" .null ∧ Fld Z h b2_0 "java/util/HashMap" "threshold" "I" (.int 0) ∧ h0.size ≤ b2_1 ∧ Exa Z h b2_1 "java/util/ArrayList" ∧ Fld Z h b2_1 "java/util/AbstractList" "modCount" "I" (.int 0) ∧ Fld Z h b2_1 "java/util/ArrayList" "elementData" "[Ljava/lang/Object;" (.ref a2) ∧ Fld Z h b2_1 "java/util/ArrayList" "size" "I" (.int 0) ∧ b18 ≠ b10 ∧ b18 ≠ b14 ∧ b18 ≠ b6 ∧ b18 ≠ b1 ∧ b18 ≠ b2_0 ∧ b18 ≠ b2_1 ∧ b10 ≠ b14 ∧ b10 ≠ b6 ∧ b10 ≠ b1 ∧ b10 ≠ b2_0 ∧ b10 ≠ b2_1 ∧ b14 ≠ b6 ∧ b14 ≠ b1 ∧ b14 ≠ b2_0 ∧ b14 ≠ b2_1 ∧ b6 ≠ b1 ∧ b6 ≠ b2_0 ∧ b6 ≠ b2_1 ∧ b1 ≠ b2_0 ∧ b1 ≠ b2_1 ∧ b2_0 ≠ b2_1
theorem rm9 (l : Launch) (Z : State) {a0 : Array Value} (hw : OW a0 Z) (a1 a2 a3 : Addr) (h0 : Heap) (n0 : Nat) (Z0 : n0 ≤ h0.size) (S_DEFAULTCAPACITY_EMPTY_ELEMENTDATA : Sta Z Z.heap "java/util/ArrayList" "DEFAULTCAPACITY_EMPTY_ELEMENTDATA" "[Ljava/lang/Object;" (.ref a2)) (Od0 : Old Z n0 h0) (F_terms_a1 : Fld Z h0 a1 "com/example/informal_search/informalsearch/index/PostingBuffer" "terms" "Lcom/example/informal_search/informalsearch/index/Numbering;" .null) (E_a1 : Exa Z h0 a1 "com/example/informal_search/informalsearch/index/PostingBuffer") (g_a1 : n0 ≤ a1) (F_termOf_a1 : Fld Z h0 a1 "com/example/informal_search/informalsearch/index/PostingBuffer" "termOf" "[I" .null) (F_entityOf_a1 : Fld Z h0 a1 "com/example/informal_search/informalsearch/index/PostingBuffer" "entityOf" "[I" .null) (F_fieldOf_a1 : Fld Z h0 a1 "com/example/informal_search/informalsearch/index/PostingBuffer" "fieldOf" "[I" .null) (F_countOf_a1 : Fld Z h0 a1 "com/example/informal_search/informalsearch/index/PostingBuffer" "countOf" "[I" .null) (F_size_a1 : Fld Z h0 a1 "com/example/informal_search/informalsearch/index/PostingBuffer" "size" "I" (.int 0)) (F_bytes_a1 : Fld Z h0 a1 "com/example/informal_search/informalsearch/index/PostingBuffer" "bytes" "J" (.long 0)) (F_literal_a1 : Fld Z h0 a1 "com/example/informal_search/informalsearch/index/PostingBuffer" "literal" "[Z" (.ref a3)) :
    OwnMet l Z y_7 prog_42_method_9_code 1 none [] Rm9 #[(.ref a1)] h0 (Q9 Z a1 a2 a3 h0 n0) := by
  refine own_body (plainFor_of_name pn_6) (ef_26f21a a1) ?_
  intro p e s m below meth c s₁ hx hby hml hown hnm hret hZ hH hnd X0 e0
  have N0 := Fr.nil n0
  have B := hbx hby
  obtain ⟨T1, h1, X1, e1, E1, A1, D1, -, st1⟩ := newO X0 hx hZ hown (w_16 hw) (w_17 hw) (w_18 hw) e0 (g := (mkF m 1 #[vr a1] [(.ref a1)])) rfl (B d3_1) (by decide) (by decide)
  obtain ⟨b1, g1⟩ : ∃ z, z = h0.size := ⟨_, rfl⟩
  rw [← g1] at A1 D1 st1
  have s0 := E1.1
  have Fn1_numbers : Fld Z h1 b1 "com/example/informal_search/informalsearch/index/Numbering" "numbers" "Ljava/util/Map;" .null := D1 (Or.inr (w_40 hw)) (ty := (.object "java/util/Map")) (by decide)
  have Fn1_strings : Fld Z h1 b1 "com/example/informal_search/informalsearch/index/Numbering" "strings" "Ljava/util/List;" .null := D1 (Or.inr (w_66 hw)) (ty := (.object "java/util/List")) (by decide)
  have Fn1_bytes : Fld Z h1 b1 "com/example/informal_search/informalsearch/index/Numbering" "bytes" "J" (.long 0) := D1 (Or.inl (w_218 hw)) (ty := .long) (by decide)
  have g_b1 : n0 ≤ b1 := Nat.le_trans Z0 (Nat.le_of_eq g1.symm)
  have Od1 := Od0.ext E1
  have z1 := Nat.le_trans Z0 s0
  obtain ⟨_, T2, L2, X2, hQ2, st2⟩ := own_special X1 hx hZ hH hown (y := y_6) (a := b1) (w_19 hw) (w_20 hw) (w_18 hw) (w_21 hw) (rm8 l Z hw b1 a2 h1 n0 z1 Fn1_numbers A1 g_b1 S_DEFAULTCAPACITY_EMPTY_ELEMENTDATA Od1 Fn1_strings Fn1_bytes) e1 (Ls := #[vr a1]) hml.symm (argsL := []) (rest := [(.ref b1), (.ref a1)]) (lenOf pd_0 rfl) (B d3_5) (W := 2)
  obtain ⟨b2_0, b2_1, rfl, Nq2, K2, o2_0, o2_1, o2_2, o2_3, o2_4, o2_5, o2_6, o2_7, o2_8, o2_9, o2_10, o2_11, o2_12, o2_13, o2_14, o2_15, o2_16⟩ := hQ2
  have N2 := Fr.app N0 Nq2
  have s1 := K2.1
  have ne_a1_b1 := Nat.ne_of_lt (Nat.lt_of_lt_of_le F_terms_a1.lt (Nat.le_of_eq g1.symm))
  have Fl3 := ((F_terms_a1.ext E1).keep K2 (ninS ne_a1_b1 nin0))
  have Ex4 := ((E_a1.ext E1).keep K2)
  obtain ⟨T5, h5, X5, e5, W5, st5⟩ := putF X2 hx hZ hown (host := "") (Or.inl (w_67 hw)) Via.refl rfl Fl3 Ex4 (Or.inl (w_68 hw)) (w_2 hw) (ty := (.object "com/example/informal_search/informalsearch/index/Numbering")) (by decide) rfl rfl (g := (mkF m 8 #[vr a1] [(.ref b1), (.ref a1)])) rfl rfl (B d3_8)
  have s2 := (Keep.of_wr W5).1
  have N5 := Fr.snoc X5 N2 g_a1
  have Fw5 : Fld Z h5 a1 "com/example/informal_search/informalsearch/index/PostingBuffer" "terms" "Lcom/example/informal_search/informalsearch/index/Numbering;" (.ref b1) := Fl3.same W5
  obtain ⟨T6, h6, k6, X6, e6, E6, A6, B6, st6⟩ := newPE (aty := .int) X5 hx hZ (w_69 hw) e5 (g := (mkF m 15 #[vr a1] [(.int 1024), (.ref a1)])) rfl (B d3_15) rfl (by decide) (cap := 1024) (by decide) (by decide) (by decide) (by decide) (ad := "[I") (by decide)
  obtain ⟨b6, g6⟩ : ∃ z, z = h5.size := ⟨_, rfl⟩
  rw [← g6] at A6 B6 st6
  have s3 := E6.1
  have Vn6 : Arv Z h6 b6 k6 .int 1024 [] (.int 0) := Arv.new A6 (by decide)
  have Ex7 := ((Ex4.wr W5).ext E6)
  have Fl8 := ((((F_termOf_a1.ext E1).keep K2 (ninS ne_a1_b1 nin0)).other W5 (Or.inr (slot_ne (Or.inl (w_71 hw)) (Or.inl (w_68 hw)) (by decide) (t := (.array .int)) (t' := (.object "com/example/informal_search/informalsearch/index/Numbering")) (by decide) (by decide)))).ext E6)
  obtain ⟨T9, h9, X9, e9, W9, st9⟩ := putF X6 hx hZ hown (host := "") (Or.inl (w_70 hw)) Via.refl e6 Fl8 Ex7 (Or.inl (w_71 hw)) (w_2 hw) (ty := (.array .int)) (by decide) rfl rfl (g := (mkF m 17 #[vr a1] [(.ref b6), (.ref a1)])) rfl rfl (B d3_17)
  have s4 := (Keep.of_wr W9).1
  have N9 := Fr.snoc X9 N5 g_a1
  have Fw9 : Fld Z h9 a1 "com/example/informal_search/informalsearch/index/PostingBuffer" "termOf" "[I" (.ref b6) := Fl8.same W9
  obtain ⟨T10, h10, k10, X10, e10, E10, A10, B10, st10⟩ := newPE (aty := .int) X9 hx hZ (w_69 hw) e9 (g := (mkF m 24 #[vr a1] [(.int 1024), (.ref a1)])) rfl (B d3_24) rfl (by decide) (cap := 1024) (by decide) (by decide) (by decide) (by decide) (ad := "[I") (by decide)
  obtain ⟨b10, g10⟩ : ∃ z, z = h9.size := ⟨_, rfl⟩
  rw [← g10] at A10 B10 st10
  have s5 := E10.1
  have Vn10 : Arv Z h10 b10 k10 .int 1024 [] (.int 0) := Arv.new A10 (by decide)
  have Ex11 := ((Ex7.wr W9).ext E10)
  have Fl12 := ((((((F_entityOf_a1.ext E1).keep K2 (ninS ne_a1_b1 nin0)).other W5 (Or.inr (slot_ne (Or.inl (w_73 hw)) (Or.inl (w_68 hw)) (by decide) (t := (.array .int)) (t' := (.object "com/example/informal_search/informalsearch/index/Numbering")) (by decide) (by decide)))).ext E6).other W9 (Or.inr (slot_ne (Or.inl (w_73 hw)) (Or.inl (w_71 hw)) (by decide) (t := (.array .int)) (t' := (.array .int)) (by decide) (by decide)))).ext E10)
  obtain ⟨T13, h13, X13, e13, W13, st13⟩ := putF X10 hx hZ hown (host := "") (Or.inl (w_72 hw)) Via.refl e10 Fl12 Ex11 (Or.inl (w_73 hw)) (w_2 hw) (ty := (.array .int)) (by decide) rfl rfl (g := (mkF m 26 #[vr a1] [(.ref b10), (.ref a1)])) rfl rfl (B d3_26)
  have s6 := (Keep.of_wr W13).1
  have N13 := Fr.snoc X13 N9 g_a1
  have Fw13 : Fld Z h13 a1 "com/example/informal_search/informalsearch/index/PostingBuffer" "entityOf" "[I" (.ref b10) := Fl12.same W13
  obtain ⟨T14, h14, k14, X14, e14, E14, A14, B14, st14⟩ := newPE (aty := .int) X13 hx hZ (w_69 hw) e13 (g := (mkF m 33 #[vr a1] [(.int 1024), (.ref a1)])) rfl (B d3_33) rfl (by decide) (cap := 1024) (by decide) (by decide) (by decide) (by decide) (ad := "[I") (by decide)
  obtain ⟨b14, g14⟩ : ∃ z, z = h13.size := ⟨_, rfl⟩
  rw [← g14] at A14 B14 st14
  have s7 := E14.1
  have Vn14 : Arv Z h14 b14 k14 .int 1024 [] (.int 0) := Arv.new A14 (by decide)
  have Ex15 := ((Ex11.wr W13).ext E14)
  have Fl16 := ((((((((F_fieldOf_a1.ext E1).keep K2 (ninS ne_a1_b1 nin0)).other W5 (Or.inr (slot_ne (Or.inl (w_75 hw)) (Or.inl (w_68 hw)) (by decide) (t := (.array .int)) (t' := (.object "com/example/informal_search/informalsearch/index/Numbering")) (by decide) (by decide)))).ext E6).other W9 (Or.inr (slot_ne (Or.inl (w_75 hw)) (Or.inl (w_71 hw)) (by decide) (t := (.array .int)) (t' := (.array .int)) (by decide) (by decide)))).ext E10).other W13 (Or.inr (slot_ne (Or.inl (w_75 hw)) (Or.inl (w_73 hw)) (by decide) (t := (.array .int)) (t' := (.array .int)) (by decide) (by decide)))).ext E14)
  obtain ⟨T17, h17, X17, e17, W17, st17⟩ := putF X14 hx hZ hown (host := "") (Or.inl (w_74 hw)) Via.refl e14 Fl16 Ex15 (Or.inl (w_75 hw)) (w_2 hw) (ty := (.array .int)) (by decide) rfl rfl (g := (mkF m 35 #[vr a1] [(.ref b14), (.ref a1)])) rfl rfl (B d3_35)
  have s8 := (Keep.of_wr W17).1
  have N17 := Fr.snoc X17 N13 g_a1
  have Fw17 : Fld Z h17 a1 "com/example/informal_search/informalsearch/index/PostingBuffer" "fieldOf" "[I" (.ref b14) := Fl16.same W17
  obtain ⟨T18, h18, k18, X18, e18, E18, A18, B18, st18⟩ := newPE (aty := .int) X17 hx hZ (w_69 hw) e17 (g := (mkF m 42 #[vr a1] [(.int 1024), (.ref a1)])) rfl (B d3_42) rfl (by decide) (cap := 1024) (by decide) (by decide) (by decide) (by decide) (ad := "[I") (by decide)
  obtain ⟨b18, g18⟩ : ∃ z, z = h17.size := ⟨_, rfl⟩
  rw [← g18] at A18 B18 st18
  have s9 := E18.1
  have Vn18 : Arv Z h18 b18 k18 .int 1024 [] (.int 0) := Arv.new A18 (by decide)
  have Ex19 := ((Ex15.wr W17).ext E18)
  have Fl20 := ((((((((((F_countOf_a1.ext E1).keep K2 (ninS ne_a1_b1 nin0)).other W5 (Or.inr (slot_ne (Or.inl (w_77 hw)) (Or.inl (w_68 hw)) (by decide) (t := (.array .int)) (t' := (.object "com/example/informal_search/informalsearch/index/Numbering")) (by decide) (by decide)))).ext E6).other W9 (Or.inr (slot_ne (Or.inl (w_77 hw)) (Or.inl (w_71 hw)) (by decide) (t := (.array .int)) (t' := (.array .int)) (by decide) (by decide)))).ext E10).other W13 (Or.inr (slot_ne (Or.inl (w_77 hw)) (Or.inl (w_73 hw)) (by decide) (t := (.array .int)) (t' := (.array .int)) (by decide) (by decide)))).ext E14).other W17 (Or.inr (slot_ne (Or.inl (w_77 hw)) (Or.inl (w_75 hw)) (by decide) (t := (.array .int)) (t' := (.array .int)) (by decide) (by decide)))).ext E18)
  obtain ⟨T21, h21, X21, e21, W21, st21⟩ := putF X18 hx hZ hown (host := "") (Or.inl (w_76 hw)) Via.refl e18 Fl20 Ex19 (Or.inl (w_77 hw)) (w_2 hw) (ty := (.array .int)) (by decide) rfl rfl (g := (mkF m 44 #[vr a1] [(.ref b18), (.ref a1)])) rfl rfl (B d3_44)
  have s10 := (Keep.of_wr W21).1
  have N21 := Fr.snoc X21 N17 g_a1
  have Fw21 : Fld Z h21 a1 "com/example/informal_search/informalsearch/index/PostingBuffer" "countOf" "[I" (.ref b18) := Fl20.same W21
  have Ex22 := (Ex19.wr W21)
  have Fl23 := (((((((((((F_size_a1.ext E1).keep K2 (ninS ne_a1_b1 nin0)).other W5 (Or.inr (slot_ne (Or.inl (w_79 hw)) (Or.inl (w_68 hw)) (by decide) (t := .int) (t' := (.object "com/example/informal_search/informalsearch/index/Numbering")) (by decide) (by decide)))).ext E6).other W9 (Or.inr (slot_ne (Or.inl (w_79 hw)) (Or.inl (w_71 hw)) (by decide) (t := .int) (t' := (.array .int)) (by decide) (by decide)))).ext E10).other W13 (Or.inr (slot_ne (Or.inl (w_79 hw)) (Or.inl (w_73 hw)) (by decide) (t := .int) (t' := (.array .int)) (by decide) (by decide)))).ext E14).other W17 (Or.inr (slot_ne (Or.inl (w_79 hw)) (Or.inl (w_75 hw)) (by decide) (t := .int) (t' := (.array .int)) (by decide) (by decide)))).ext E18).other W21 (Or.inr (slot_ne (Or.inl (w_79 hw)) (Or.inl (w_77 hw)) (by decide) (t := .int) (t' := (.array .int)) (by decide) (by decide))))
  obtain ⟨T24, h24, X24, e24, W24, st24⟩ := putF X21 hx hZ hown (host := "") (Or.inl (w_78 hw)) Via.refl e21 Fl23 Ex22 (Or.inl (w_79 hw)) (w_2 hw) (ty := .int) (by decide) rfl rfl (g := (mkF m 49 #[vr a1] [(.int 0), (.ref a1)])) rfl rfl (B d3_49)
  have s11 := (Keep.of_wr W24).1
  have N24 := Fr.snoc X24 N21 g_a1
  have Fw24 : Fld Z h24 a1 "com/example/informal_search/informalsearch/index/PostingBuffer" "size" "I" (.int 0) := Fl23.same W24
  have Ex25 := (Ex22.wr W24)
  have Fl26 := ((((((((((((F_bytes_a1.ext E1).keep K2 (ninS ne_a1_b1 nin0)).other W5 (Or.inr (slot_ne (Or.inl (w_82 hw)) (Or.inl (w_68 hw)) (by decide) (t := .long) (t' := (.object "com/example/informal_search/informalsearch/index/Numbering")) (by decide) (by decide)))).ext E6).other W9 (Or.inr (slot_ne (Or.inl (w_82 hw)) (Or.inl (w_71 hw)) (by decide) (t := .long) (t' := (.array .int)) (by decide) (by decide)))).ext E10).other W13 (Or.inr (slot_ne (Or.inl (w_82 hw)) (Or.inl (w_73 hw)) (by decide) (t := .long) (t' := (.array .int)) (by decide) (by decide)))).ext E14).other W17 (Or.inr (slot_ne (Or.inl (w_82 hw)) (Or.inl (w_75 hw)) (by decide) (t := .long) (t' := (.array .int)) (by decide) (by decide)))).ext E18).other W21 (Or.inr (slot_ne (Or.inl (w_82 hw)) (Or.inl (w_77 hw)) (by decide) (t := .long) (t' := (.array .int)) (by decide) (by decide)))).other W24 (Or.inr (slot_ne (Or.inl (w_82 hw)) (Or.inl (w_79 hw)) (by decide) (t := .long) (t' := .int) (by decide) (by decide))))
  obtain ⟨T27, h27, X27, e27, W27, st27⟩ := putF X24 hx hZ hown (host := "") (Or.inl (w_81 hw)) Via.refl e24 Fl26 Ex25 (Or.inl (w_82 hw)) (w_2 hw) (ty := .long) (by decide) rfl rfl (g := (mkF m 56 #[vr a1] [(.long 20480), (.ref a1)])) rfl rfl (B d3_56)
  have s12 := (Keep.of_wr W27).1
  have N27 := Fr.snoc X27 N24 g_a1
  have Fw27 : Fld Z h27 a1 "com/example/informal_search/informalsearch/index/PostingBuffer" "bytes" "J" (.long 20480) := Fl26.same W27
  have Ex28 := (Ex25.wr W27)
  have Fl29 := ((Fw21.other W24 (Or.inr (slot_ne (Or.inl (w_77 hw)) (Or.inl (w_79 hw)) (by decide) (t := (.array .int)) (t' := .int) (by decide) (by decide)))).other W27 (Or.inr (slot_ne (Or.inl (w_77 hw)) (Or.inl (w_82 hw)) (by decide) (t := (.array .int)) (t' := .long) (by decide) (by decide))))
  have Fl30 := ((((((Fw13.ext E14).other W17 (Or.inr (slot_ne (Or.inl (w_73 hw)) (Or.inl (w_75 hw)) (by decide) (t := (.array .int)) (t' := (.array .int)) (by decide) (by decide)))).ext E18).other W21 (Or.inr (slot_ne (Or.inl (w_73 hw)) (Or.inl (w_77 hw)) (by decide) (t := (.array .int)) (t' := (.array .int)) (by decide) (by decide)))).other W24 (Or.inr (slot_ne (Or.inl (w_73 hw)) (Or.inl (w_79 hw)) (by decide) (t := (.array .int)) (t' := .int) (by decide) (by decide)))).other W27 (Or.inr (slot_ne (Or.inl (w_73 hw)) (Or.inl (w_82 hw)) (by decide) (t := (.array .int)) (t' := .long) (by decide) (by decide))))
  have Fl31 := ((((Fw17.ext E18).other W21 (Or.inr (slot_ne (Or.inl (w_75 hw)) (Or.inl (w_77 hw)) (by decide) (t := (.array .int)) (t' := (.array .int)) (by decide) (by decide)))).other W24 (Or.inr (slot_ne (Or.inl (w_75 hw)) (Or.inl (w_79 hw)) (by decide) (t := (.array .int)) (t' := .int) (by decide) (by decide)))).other W27 (Or.inr (slot_ne (Or.inl (w_75 hw)) (Or.inl (w_82 hw)) (by decide) (t := (.array .int)) (t' := .long) (by decide) (by decide))))
  have Fl32 := (((((((((((((F_literal_a1.ext E1).keep K2 (ninS ne_a1_b1 nin0)).other W5 (Or.inr (slot_ne (Or.inr (w_11 hw)) (Or.inl (w_68 hw)) (by decide) (t := (.array .boolean)) (t' := (.object "com/example/informal_search/informalsearch/index/Numbering")) (by decide) (by decide)))).ext E6).other W9 (Or.inr (slot_ne (Or.inr (w_11 hw)) (Or.inl (w_71 hw)) (by decide) (t := (.array .boolean)) (t' := (.array .int)) (by decide) (by decide)))).ext E10).other W13 (Or.inr (slot_ne (Or.inr (w_11 hw)) (Or.inl (w_73 hw)) (by decide) (t := (.array .boolean)) (t' := (.array .int)) (by decide) (by decide)))).ext E14).other W17 (Or.inr (slot_ne (Or.inr (w_11 hw)) (Or.inl (w_75 hw)) (by decide) (t := (.array .boolean)) (t' := (.array .int)) (by decide) (by decide)))).ext E18).other W21 (Or.inr (slot_ne (Or.inr (w_11 hw)) (Or.inl (w_77 hw)) (by decide) (t := (.array .boolean)) (t' := (.array .int)) (by decide) (by decide)))).other W24 (Or.inr (slot_ne (Or.inr (w_11 hw)) (Or.inl (w_79 hw)) (by decide) (t := (.array .boolean)) (t' := .int) (by decide) (by decide)))).other W27 (Or.inr (slot_ne (Or.inr (w_11 hw)) (Or.inl (w_82 hw)) (by decide) (t := (.array .boolean)) (t' := .long) (by decide) (by decide))))
  have Fl33 := (Fw24.other W27 (Or.inr (slot_ne (Or.inl (w_79 hw)) (Or.inl (w_82 hw)) (by decide) (t := .int) (t' := .long) (by decide) (by decide))))
  have Fl34 := ((((((((Fw9.ext E10).other W13 (Or.inr (slot_ne (Or.inl (w_71 hw)) (Or.inl (w_73 hw)) (by decide) (t := (.array .int)) (t' := (.array .int)) (by decide) (by decide)))).ext E14).other W17 (Or.inr (slot_ne (Or.inl (w_71 hw)) (Or.inl (w_75 hw)) (by decide) (t := (.array .int)) (t' := (.array .int)) (by decide) (by decide)))).ext E18).other W21 (Or.inr (slot_ne (Or.inl (w_71 hw)) (Or.inl (w_77 hw)) (by decide) (t := (.array .int)) (t' := (.array .int)) (by decide) (by decide)))).other W24 (Or.inr (slot_ne (Or.inl (w_71 hw)) (Or.inl (w_79 hw)) (by decide) (t := (.array .int)) (t' := .int) (by decide) (by decide)))).other W27 (Or.inr (slot_ne (Or.inl (w_71 hw)) (Or.inl (w_82 hw)) (by decide) (t := (.array .int)) (t' := .long) (by decide) (by decide))))
  have Fl35 := ((((((((((Fw5.ext E6).other W9 (Or.inr (slot_ne (Or.inl (w_68 hw)) (Or.inl (w_71 hw)) (by decide) (t := (.object "com/example/informal_search/informalsearch/index/Numbering")) (t' := (.array .int)) (by decide) (by decide)))).ext E10).other W13 (Or.inr (slot_ne (Or.inl (w_68 hw)) (Or.inl (w_73 hw)) (by decide) (t := (.object "com/example/informal_search/informalsearch/index/Numbering")) (t' := (.array .int)) (by decide) (by decide)))).ext E14).other W17 (Or.inr (slot_ne (Or.inl (w_68 hw)) (Or.inl (w_75 hw)) (by decide) (t := (.object "com/example/informal_search/informalsearch/index/Numbering")) (t' := (.array .int)) (by decide) (by decide)))).ext E18).other W21 (Or.inr (slot_ne (Or.inl (w_68 hw)) (Or.inl (w_77 hw)) (by decide) (t := (.object "com/example/informal_search/informalsearch/index/Numbering")) (t' := (.array .int)) (by decide) (by decide)))).other W24 (Or.inr (slot_ne (Or.inl (w_68 hw)) (Or.inl (w_79 hw)) (by decide) (t := (.object "com/example/informal_search/informalsearch/index/Numbering")) (t' := .int) (by decide) (by decide)))).other W27 (Or.inr (slot_ne (Or.inl (w_68 hw)) (Or.inl (w_82 hw)) (by decide) (t := (.object "com/example/informal_search/informalsearch/index/Numbering")) (t' := .long) (by decide) (by decide))))
  have sz_b18 : h0.size ≤ b18 := Nat.le_trans (Nat.le_trans (Nat.le_trans (Nat.le_trans (Nat.le_trans (Nat.le_trans (Nat.le_trans (Nat.le_trans (Nat.le_trans s0 s1) s2) s3) s4) s5) s6) s7) s8) (Nat.le_of_eq g18.symm)
  have Ex36 := (((B18.wr W21).wr W24).wr W27)
  have ne_a1_b18 := Nat.ne_of_lt (Nat.lt_of_lt_of_le Fw17.lt (Nat.le_of_eq g18.symm))
  have Va37 := (((Vn18.other W21 (Ne.symm ne_a1_b18)).other W24 (Ne.symm ne_a1_b18)).other W27 (Ne.symm ne_a1_b18))
  have sz_b10 : h0.size ≤ b10 := Nat.le_trans (Nat.le_trans (Nat.le_trans (Nat.le_trans (Nat.le_trans s0 s1) s2) s3) s4) (Nat.le_of_eq g10.symm)
  have Ex38 := (((((((B10.wr W13).ext E14).wr W17).ext E18).wr W21).wr W24).wr W27)
  have ne_a1_b10 := Nat.ne_of_lt (Nat.lt_of_lt_of_le Fw9.lt (Nat.le_of_eq g10.symm))
  have Va39 := (((((((Vn10.other W13 (Ne.symm ne_a1_b10)).ext E14).other W17 (Ne.symm ne_a1_b10)).ext E18).other W21 (Ne.symm ne_a1_b10)).other W24 (Ne.symm ne_a1_b10)).other W27 (Ne.symm ne_a1_b10))
  have sz_b14 : h0.size ≤ b14 := Nat.le_trans (Nat.le_trans (Nat.le_trans (Nat.le_trans (Nat.le_trans (Nat.le_trans (Nat.le_trans s0 s1) s2) s3) s4) s5) s6) (Nat.le_of_eq g14.symm)
  have Ex40 := (((((B14.wr W17).ext E18).wr W21).wr W24).wr W27)
  have ne_a1_b14 := Nat.ne_of_lt (Nat.lt_of_lt_of_le Fw13.lt (Nat.le_of_eq g14.symm))
  have Va41 := (((((Vn14.other W17 (Ne.symm ne_a1_b14)).ext E18).other W21 (Ne.symm ne_a1_b14)).other W24 (Ne.symm ne_a1_b14)).other W27 (Ne.symm ne_a1_b14))
  have sz_b6 : h0.size ≤ b6 := Nat.le_trans (Nat.le_trans (Nat.le_trans s0 s1) s2) (Nat.le_of_eq g6.symm)
  have Ex42 := (((((((((B6.wr W9).ext E10).wr W13).ext E14).wr W17).ext E18).wr W21).wr W24).wr W27)
  have ne_a1_b6 := Nat.ne_of_lt (Nat.lt_of_lt_of_le Fw5.lt (Nat.le_of_eq g6.symm))
  have Va43 := (((((((((Vn6.other W9 (Ne.symm ne_a1_b6)).ext E10).other W13 (Ne.symm ne_a1_b6)).ext E14).other W17 (Ne.symm ne_a1_b6)).ext E18).other W21 (Ne.symm ne_a1_b6)).other W24 (Ne.symm ne_a1_b6)).other W27 (Ne.symm ne_a1_b6))
  have sz_b1 : h0.size ≤ b1 := (Nat.le_of_eq g1.symm)
  have Ex44 := (((((((((((o2_0.wr W5).ext E6).wr W9).ext E10).wr W13).ext E14).wr W17).ext E18).wr W21).wr W24).wr W27)
  have Fl45 := (((((((((((o2_1.other W5 (Or.inl (Ne.symm ne_a1_b1))).ext E6).other W9 (Or.inl (Ne.symm ne_a1_b1))).ext E10).other W13 (Or.inl (Ne.symm ne_a1_b1))).ext E14).other W17 (Or.inl (Ne.symm ne_a1_b1))).ext E18).other W21 (Or.inl (Ne.symm ne_a1_b1))).other W24 (Or.inl (Ne.symm ne_a1_b1))).other W27 (Or.inl (Ne.symm ne_a1_b1)))
  have Fl46 := (((((((((((o2_2.other W5 (Or.inl (Ne.symm ne_a1_b1))).ext E6).other W9 (Or.inl (Ne.symm ne_a1_b1))).ext E10).other W13 (Or.inl (Ne.symm ne_a1_b1))).ext E14).other W17 (Or.inl (Ne.symm ne_a1_b1))).ext E18).other W21 (Or.inl (Ne.symm ne_a1_b1))).other W24 (Or.inl (Ne.symm ne_a1_b1))).other W27 (Or.inl (Ne.symm ne_a1_b1)))
  have Fl47 := (((((((((((o2_3.other W5 (Or.inl (Ne.symm ne_a1_b1))).ext E6).other W9 (Or.inl (Ne.symm ne_a1_b1))).ext E10).other W13 (Or.inl (Ne.symm ne_a1_b1))).ext E14).other W17 (Or.inl (Ne.symm ne_a1_b1))).ext E18).other W21 (Or.inl (Ne.symm ne_a1_b1))).other W24 (Or.inl (Ne.symm ne_a1_b1))).other W27 (Or.inl (Ne.symm ne_a1_b1)))
  have sz_b2_0 : h0.size ≤ b2_0 := Nat.le_trans s0 o2_4
  have Ex48 := (((((((((((o2_5.wr W5).ext E6).wr W9).ext E10).wr W13).ext E14).wr W17).ext E18).wr W21).wr W24).wr W27)
  have ne_a1_b2_0 := Nat.ne_of_lt (Nat.lt_of_lt_of_le (Nat.lt_of_lt_of_le F_terms_a1.lt s0) o2_4)
  have Fl49 := (((((((((((o2_6.other W5 (Or.inl (Ne.symm ne_a1_b2_0))).ext E6).other W9 (Or.inl (Ne.symm ne_a1_b2_0))).ext E10).other W13 (Or.inl (Ne.symm ne_a1_b2_0))).ext E14).other W17 (Or.inl (Ne.symm ne_a1_b2_0))).ext E18).other W21 (Or.inl (Ne.symm ne_a1_b2_0))).other W24 (Or.inl (Ne.symm ne_a1_b2_0))).other W27 (Or.inl (Ne.symm ne_a1_b2_0)))
  have Fl50 := (((((((((((o2_7.other W5 (Or.inl (Ne.symm ne_a1_b2_0))).ext E6).other W9 (Or.inl (Ne.symm ne_a1_b2_0))).ext E10).other W13 (Or.inl (Ne.symm ne_a1_b2_0))).ext E14).other W17 (Or.inl (Ne.symm ne_a1_b2_0))).ext E18).other W21 (Or.inl (Ne.symm ne_a1_b2_0))).other W24 (Or.inl (Ne.symm ne_a1_b2_0))).other W27 (Or.inl (Ne.symm ne_a1_b2_0)))
  have Fl51 := (((((((((((o2_8.other W5 (Or.inl (Ne.symm ne_a1_b2_0))).ext E6).other W9 (Or.inl (Ne.symm ne_a1_b2_0))).ext E10).other W13 (Or.inl (Ne.symm ne_a1_b2_0))).ext E14).other W17 (Or.inl (Ne.symm ne_a1_b2_0))).ext E18).other W21 (Or.inl (Ne.symm ne_a1_b2_0))).other W24 (Or.inl (Ne.symm ne_a1_b2_0))).other W27 (Or.inl (Ne.symm ne_a1_b2_0)))
  have Fl52 := (((((((((((o2_9.other W5 (Or.inl (Ne.symm ne_a1_b2_0))).ext E6).other W9 (Or.inl (Ne.symm ne_a1_b2_0))).ext E10).other W13 (Or.inl (Ne.symm ne_a1_b2_0))).ext E14).other W17 (Or.inl (Ne.symm ne_a1_b2_0))).ext E18).other W21 (Or.inl (Ne.symm ne_a1_b2_0))).other W24 (Or.inl (Ne.symm ne_a1_b2_0))).other W27 (Or.inl (Ne.symm ne_a1_b2_0)))
  have Fl53 := (((((((((((o2_10.other W5 (Or.inl (Ne.symm ne_a1_b2_0))).ext E6).other W9 (Or.inl (Ne.symm ne_a1_b2_0))).ext E10).other W13 (Or.inl (Ne.symm ne_a1_b2_0))).ext E14).other W17 (Or.inl (Ne.symm ne_a1_b2_0))).ext E18).other W21 (Or.inl (Ne.symm ne_a1_b2_0))).other W24 (Or.inl (Ne.symm ne_a1_b2_0))).other W27 (Or.inl (Ne.symm ne_a1_b2_0)))
  have sz_b2_1 : h0.size ≤ b2_1 := Nat.le_trans s0 o2_11
  have Ex54 := (((((((((((o2_12.wr W5).ext E6).wr W9).ext E10).wr W13).ext E14).wr W17).ext E18).wr W21).wr W24).wr W27)
  have ne_a1_b2_1 := Nat.ne_of_lt (Nat.lt_of_lt_of_le (Nat.lt_of_lt_of_le F_terms_a1.lt s0) o2_11)
  have Fl55 := (((((((((((o2_13.other W5 (Or.inl (Ne.symm ne_a1_b2_1))).ext E6).other W9 (Or.inl (Ne.symm ne_a1_b2_1))).ext E10).other W13 (Or.inl (Ne.symm ne_a1_b2_1))).ext E14).other W17 (Or.inl (Ne.symm ne_a1_b2_1))).ext E18).other W21 (Or.inl (Ne.symm ne_a1_b2_1))).other W24 (Or.inl (Ne.symm ne_a1_b2_1))).other W27 (Or.inl (Ne.symm ne_a1_b2_1)))
  have Fl56 := (((((((((((o2_14.other W5 (Or.inl (Ne.symm ne_a1_b2_1))).ext E6).other W9 (Or.inl (Ne.symm ne_a1_b2_1))).ext E10).other W13 (Or.inl (Ne.symm ne_a1_b2_1))).ext E14).other W17 (Or.inl (Ne.symm ne_a1_b2_1))).ext E18).other W21 (Or.inl (Ne.symm ne_a1_b2_1))).other W24 (Or.inl (Ne.symm ne_a1_b2_1))).other W27 (Or.inl (Ne.symm ne_a1_b2_1)))
  have Fl57 := (((((((((((o2_15.other W5 (Or.inl (Ne.symm ne_a1_b2_1))).ext E6).other W9 (Or.inl (Ne.symm ne_a1_b2_1))).ext E10).other W13 (Or.inl (Ne.symm ne_a1_b2_1))).ext E14).other W17 (Or.inl (Ne.symm ne_a1_b2_1))).ext E18).other W21 (Or.inl (Ne.symm ne_a1_b2_1))).other W24 (Or.inl (Ne.symm ne_a1_b2_1))).other W27 (Or.inl (Ne.symm ne_a1_b2_1)))
  have ne_b10_b18 := Nat.ne_of_lt (Nat.lt_of_lt_of_le (Nat.lt_of_lt_of_le Vn10.lt (Nat.le_trans (Nat.le_trans s6 s7) s8)) (Nat.le_of_eq g18.symm))
  have ne_b14_b18 := Nat.ne_of_lt (Nat.lt_of_lt_of_le (Nat.lt_of_lt_of_le Vn14.lt s8) (Nat.le_of_eq g18.symm))
  have ne_b6_b18 := Nat.ne_of_lt (Nat.lt_of_lt_of_le (Nat.lt_of_lt_of_le Vn6.lt (Nat.le_trans (Nat.le_trans (Nat.le_trans (Nat.le_trans s4 s5) s6) s7) s8)) (Nat.le_of_eq g18.symm))
  have ne_b1_b18 := Nat.ne_of_lt (Nat.lt_of_lt_of_le (Nat.lt_of_lt_of_le o2_3.lt (Nat.le_trans (Nat.le_trans (Nat.le_trans (Nat.le_trans (Nat.le_trans (Nat.le_trans s2 s3) s4) s5) s6) s7) s8)) (Nat.le_of_eq g18.symm))
  have ne_b2_0_b18 := Nat.ne_of_lt (Nat.lt_of_lt_of_le (Nat.lt_of_lt_of_le o2_9.lt (Nat.le_trans (Nat.le_trans (Nat.le_trans (Nat.le_trans (Nat.le_trans (Nat.le_trans s2 s3) s4) s5) s6) s7) s8)) (Nat.le_of_eq g18.symm))
  have ne_b2_1_b18 := Nat.ne_of_lt (Nat.lt_of_lt_of_le (Nat.lt_of_lt_of_le o2_15.lt (Nat.le_trans (Nat.le_trans (Nat.le_trans (Nat.le_trans (Nat.le_trans (Nat.le_trans s2 s3) s4) s5) s6) s7) s8)) (Nat.le_of_eq g18.symm))
  have ne_b10_b14 := Nat.ne_of_lt (Nat.lt_of_lt_of_le (Nat.lt_of_lt_of_le Vn10.lt s6) (Nat.le_of_eq g14.symm))
  have ne_b6_b10 := Nat.ne_of_lt (Nat.lt_of_lt_of_le (Nat.lt_of_lt_of_le Vn6.lt s4) (Nat.le_of_eq g10.symm))
  have ne_b1_b10 := Nat.ne_of_lt (Nat.lt_of_lt_of_le (Nat.lt_of_lt_of_le o2_3.lt (Nat.le_trans (Nat.le_trans s2 s3) s4)) (Nat.le_of_eq g10.symm))
  have ne_b2_0_b10 := Nat.ne_of_lt (Nat.lt_of_lt_of_le (Nat.lt_of_lt_of_le o2_9.lt (Nat.le_trans (Nat.le_trans s2 s3) s4)) (Nat.le_of_eq g10.symm))
  have ne_b2_1_b10 := Nat.ne_of_lt (Nat.lt_of_lt_of_le (Nat.lt_of_lt_of_le o2_15.lt (Nat.le_trans (Nat.le_trans s2 s3) s4)) (Nat.le_of_eq g10.symm))
  have ne_b6_b14 := Nat.ne_of_lt (Nat.lt_of_lt_of_le (Nat.lt_of_lt_of_le Vn6.lt (Nat.le_trans (Nat.le_trans s4 s5) s6)) (Nat.le_of_eq g14.symm))
  have ne_b1_b14 := Nat.ne_of_lt (Nat.lt_of_lt_of_le (Nat.lt_of_lt_of_le o2_3.lt (Nat.le_trans (Nat.le_trans (Nat.le_trans (Nat.le_trans s2 s3) s4) s5) s6)) (Nat.le_of_eq g14.symm))
  have ne_b2_0_b14 := Nat.ne_of_lt (Nat.lt_of_lt_of_le (Nat.lt_of_lt_of_le o2_9.lt (Nat.le_trans (Nat.le_trans (Nat.le_trans (Nat.le_trans s2 s3) s4) s5) s6)) (Nat.le_of_eq g14.symm))
  have ne_b2_1_b14 := Nat.ne_of_lt (Nat.lt_of_lt_of_le (Nat.lt_of_lt_of_le o2_15.lt (Nat.le_trans (Nat.le_trans (Nat.le_trans (Nat.le_trans s2 s3) s4) s5) s6)) (Nat.le_of_eq g14.symm))
  have ne_b1_b6 := Nat.ne_of_lt (Nat.lt_of_lt_of_le (Nat.lt_of_lt_of_le o2_3.lt s2) (Nat.le_of_eq g6.symm))
  have ne_b2_0_b6 := Nat.ne_of_lt (Nat.lt_of_lt_of_le (Nat.lt_of_lt_of_le o2_9.lt s2) (Nat.le_of_eq g6.symm))
  have ne_b2_1_b6 := Nat.ne_of_lt (Nat.lt_of_lt_of_le (Nat.lt_of_lt_of_le o2_15.lt s2) (Nat.le_of_eq g6.symm))
  have ne_b1_b2_0 := Nat.ne_of_lt (Nat.lt_of_lt_of_le Fn1_strings.lt o2_4)
  have ne_b1_b2_1 := Nat.ne_of_lt (Nat.lt_of_lt_of_le Fn1_strings.lt o2_11)
  have Kp0 := (Keep.refl h0 [a1]).ext E1
  have Kp1 := Kp0.trans K2 (allS (Or.inr sz_b1) all0)
  have Kp2 := Kp1.wr W5 own_m0
  have Kp3 := Kp2.ext E6
  have Kp4 := Kp3.wr W9 own_m0
  have Kp5 := Kp4.ext E10
  have Kp6 := Kp5.wr W13 own_m0
  have Kp7 := Kp6.ext E14
  have Kp8 := Kp7.wr W17 own_m0
  have Kp9 := Kp8.ext E18
  have Kp10 := Kp9.wr W21 own_m0
  have Kp11 := Kp10.wr W24 own_m0
  have Kp12 := Kp11.wr W27 own_m0
  refine ⟨T27, _, _, _, none, X27, (fun _ => rfl), by decide, by decide, ?_, fun fs hr => ?_⟩
  · rw [e27]
    exact ⟨b18, k18, b10, k10, b14, k14, b6, k6, b1, b2_0, b2_1, rfl, N27, Kp12, Ex28, Fw27, Fl29, Fl30, Fl31, Fl32, Fl33, Fl34, Fl35, sz_b18, Ex36, Va37, sz_b10, Ex38, Va39, sz_b14, Ex40, Va41, sz_b6, Ex42, Va43, sz_b1, Ex44, Fl45, Fl46, Fl47, sz_b2_0, Ex48, Fl49, Fl50, Fl51, Fl52, Fl53, sz_b2_1, Ex54, Fl55, Fl56, Fl57, (Ne.symm ne_b10_b18), (Ne.symm ne_b14_b18), (Ne.symm ne_b6_b18), (Ne.symm ne_b1_b18), (Ne.symm ne_b2_0_b18), (Ne.symm ne_b2_1_b18), ne_b10_b14, (Ne.symm ne_b6_b10), (Ne.symm ne_b1_b10), (Ne.symm ne_b2_0_b10), (Ne.symm ne_b2_1_b10), (Ne.symm ne_b6_b14), (Ne.symm ne_b1_b14), (Ne.symm ne_b2_0_b14), (Ne.symm ne_b2_1_b14), (Ne.symm ne_b1_b6), (Ne.symm ne_b2_0_b6), (Ne.symm ne_b2_1_b6), ne_b1_b2_0, ne_b1_b2_1, o2_16⟩
  · refine sA X0 hx (B d3_0) rfl rfl ?_
    refine st1 _ ?_
    refine XS.dup X1.here hx rfl (B d3_4) rfl rfl ?_
    refine st2 _ ?_
    refine st5 _ ?_
    refine sA X5 hx (B d3_11) rfl rfl ?_
    refine XS.sipush X5.here hx rfl (B d3_12) ?_
    refine st6 _ ?_
    refine st9 _ ?_
    refine sA X9 hx (B d3_20) rfl rfl ?_
    refine XS.sipush X9.here hx rfl (B d3_21) ?_
    refine st10 _ ?_
    refine st13 _ ?_
    refine sA X13 hx (B d3_29) rfl rfl ?_
    refine XS.sipush X13.here hx rfl (B d3_30) ?_
    refine st14 _ ?_
    refine st17 _ ?_
    refine sA X17 hx (B d3_38) rfl rfl ?_
    refine XS.sipush X17.here hx rfl (B d3_39) ?_
    refine st18 _ ?_
    refine st21 _ ?_
    refine sA X21 hx (B d3_47) rfl rfl ?_
    refine sC X21 hx (B d3_48) ?_
    refine st24 _ ?_
    refine sA X24 hx (B d3_52) rfl rfl ?_
    refine X24.ldc2Long hx hown (mvT hZ (w_80 hw)) (g := (mkF m 53 #[vr a1] [(.ref a1)])) rfl (B d3_53) _ ?_
    refine st27 _ ?_
    exact X27.returnOut hx hret (B d3_59) hr
theorem w_15 {a0 Z} (hw : OW a0 Z) : Jvm.Cond.before (.code y_7 prog_42_method_9_code 1 none) a0 Z := hw _ (mo 15 rfl)
theorem w_12 {a0 Z} (hw : OW a0 Z) : Jvm.Cond.before (.methodLink "com/example/informal_search/informalsearch/index/PostingBuffer" 15 y_7) a0 Z := hw _ (mo 12 rfl)
theorem w_13 {a0 Z} (hw : OW a0 Z) : Jvm.Cond.before (.instanceMethod y_7) a0 Z := hw _ (mo 13 rfl)
theorem w_14 {a0 Z} (hw : OW a0 Z) : Jvm.Cond.before (.privateMethod y_7) a0 Z := hw _ (mo 14 rfl)
theorem d1_13 : decode Kc1 13 = .ok (.return_, 1) := by decide +kernel
theorem ef_463e93 (a1 : Addr) (a2 : Addr) (m : MethodId) : entryFrame m #[(.ref a1), (.ref a2)] 2 = mkF m 0 #[.val (.ref a1), .val (.ref a2)] [] := by first | (simp [entryFrame, mkF, argsToLocals, Value.category]; done) | rfl
abbrev y_8 : MethodName := ⟨"com/example/informal_search/informalsearch/index/PostingBuffer", "<init>", "([Z)V"⟩
abbrev Rm10 : Room := rmk 6 7 4110 76
def Q10 (Z : State) (a1 a2 a3 : Addr) (h0 : Heap) (n0 : Nat) (v : Option Value) (h : Heap) (L : List Loc) : Prop := ∃ b11_0 : Addr, ∃ k11_1 : ClassId, ∃ b11_2 : Addr, ∃ k11_3 : ClassId, ∃ b11_4 : Addr, ∃ k11_5 : ClassId, ∃ b11_6 : Addr, ∃ k11_7 : ClassId, ∃ b11_8 : Addr, ∃ b11_9 : Addr, ∃ b11_10 : Addr, v = none ∧ Fr n0 L ∧ Keep h0 h [a1] ∧ Exa Z h a1 "com/example/informal_search/informalsearch/index/PostingBuffer" ∧ Fld Z h a1 "com/example/informal_search/informalsearch/index/PostingBuffer" "bytes" "J" (.long 20480) ∧ Fld Z h a1 "com/example/informal_search/informalsearch/index/PostingBuffer" "countOf" "[I" (.ref b11_0) ∧ Fld Z h a1 "com/example/informal_search/informalsearch/index/PostingBuffer" "entityOf" "[I" (.ref b11_2) ∧ Fld Z h a1 "com/example/informal_search/informalsearch/index/PostingBuffer" "fieldOf" "[I" (.ref b11_4) ∧ Fld Z h a1 "com/example/informal_search/informalsearch/index/PostingBuffer" "literal" "[Z" (.ref a2) ∧ Fld Z h a1 "com/example/informal_search/informalsearch/index/PostingBuffer" "size" "I" (.int 0) ∧ Fld Z h a1 "com/example/informal_search/informalsearch/index/PostingBuffer" "termOf" "[I" (.ref b11_6) ∧ Fld Z h a1 "com/example/informal_search/informalsearch/index/PostingBuffer" "terms" "Lcom/example/informal_search/informalsearch/index/Numbering;" (.ref b11_8) ∧ h0.size ≤ b11_0 ∧ Exa Z h b11_0 "[I" ∧ Arv Z h b11_0 k11_1 .int 1024 [] (.int 0) ∧ h0.size ≤ b11_2 ∧ Exa Z h b11_2 "[I" ∧ Arv Z h b11_2 k11_3 .int 1024 [] (.int 0) ∧ h0.size ≤ b11_4 ∧ Exa Z h b11_4 "[I" ∧ Arv Z h b11_4 k11_5 .int 1024 [] (.int 0) ∧ h0.size ≤ b11_6 ∧ Exa Z h b11_6 "[I" ∧ Arv Z h b11_6 k11_7 .int 1024 [] (.int 0) ∧ h0.size ≤ b11_8 ∧ Exa Z h b11_8 "com/example/informal_search/informalsearch/index/Numbering" ∧ Fld Z h b11_8 "com/example/informal_search/informalsearch/index/Numbering" "bytes" "J" (.long 0) ∧ Fld Z h b11_8 "com/example/informal_search/informalsearch/index/Numbering" "numbers" "Ljava/util/Map;" (.ref b11_9) ∧ Fld Z h b11_8 "com/example/informal_search/informalsearch/index/Numbering" "strings" "Ljava/util/List;" (.ref b11_10) ∧ h0.size ≤ b11_9 ∧ Exa Z h b11_9 "java/util/HashMap" ∧ Fld Z h b11_9 "java/util/HashMap" "loadFactor" "F" (.float 1061158912) ∧ Fld Z h b11_9 "java/util/HashMap" "modCount" "I" (.int 0) ∧ Fld Z h b11_9 "java/util/HashMap" "size" "I" (.int 0) ∧ Fld Z h b11_9 "java/util/HashMap" "table" "[Ljava/util/HashMap$Node;" .null ∧ Fld Z h b11_9 "java/util/HashMap" "threshold" "I" (.int 0) ∧ h0.size ≤ b11_10 ∧ Exa Z h b11_10 "java/util/ArrayList" ∧ Fld Z h b11_10 "java/util/AbstractList" "modCount" "I" (.int 0) ∧ Fld Z h b11_10 "java/util/ArrayList" "elementData" "[Ljava/lang/Object;" (.ref a3) ∧ Fld Z h b11_10 "java/util/ArrayList" "size" "I" (.int 0) ∧ b11_0 ≠ b11_2 ∧ b11_0 ≠ b11_4 ∧ b11_0 ≠ b11_6 ∧ b11_0 ≠ b11_8 ∧ b11_0 ≠ b11_9 ∧ b11_0 ≠ b11_10 ∧ b11_2 ≠ b11_4 ∧ b11_2 ≠ b11_6 ∧ b11_2 ≠ b11_8 ∧ b11_2 ≠ b11_9 ∧ b11_2 ≠ b11_10 ∧ b11_4 ≠ b11_6 ∧ b11_4 ≠ b11_8 ∧ b11_4 ≠ b11_9 ∧ b11_4 ≠ b11_10 ∧ b11_6 ≠ b11_8 ∧ b11_6 ≠ b11_9 ∧ b11_6 ≠ b11_10 ∧ b11_8 ≠ b11_9 ∧ b11_8 ≠ b11_10 ∧ b11_9 ≠ b11_10
theorem rm10 (l : Launch) (Z : State) {a0 : Array Value} (hw : OW a0 Z) (a1 a2 a3 : Addr) (h0 : Heap) (n0 : Nat) (Z0 : n0 ≤ h0.size) (F_literal_a1 : Fld Z h0 a1 "com/example/informal_search/informalsearch/index/PostingBuffer" "literal" "[Z" .null) (E_a1 : Exa Z h0 a1 "com/example/informal_search/informalsearch/index/PostingBuffer") (g_a1 : n0 ≤ a1) (S_DEFAULTCAPACITY_EMPTY_ELEMENTDATA : Sta Z Z.heap "java/util/ArrayList" "DEFAULTCAPACITY_EMPTY_ELEMENTDATA" "[Ljava/lang/Object;" (.ref a3)) (Od0 : Old Z n0 h0) (F_terms_a1 : Fld Z h0 a1 "com/example/informal_search/informalsearch/index/PostingBuffer" "terms" "Lcom/example/informal_search/informalsearch/index/Numbering;" .null) (F_termOf_a1 : Fld Z h0 a1 "com/example/informal_search/informalsearch/index/PostingBuffer" "termOf" "[I" .null) (F_entityOf_a1 : Fld Z h0 a1 "com/example/informal_search/informalsearch/index/PostingBuffer" "entityOf" "[I" .null) (F_fieldOf_a1 : Fld Z h0 a1 "com/example/informal_search/informalsearch/index/PostingBuffer" "fieldOf" "[I" .null) (F_countOf_a1 : Fld Z h0 a1 "com/example/informal_search/informalsearch/index/PostingBuffer" "countOf" "[I" .null) (F_size_a1 : Fld Z h0 a1 "com/example/informal_search/informalsearch/index/PostingBuffer" "size" "I" (.int 0)) (F_bytes_a1 : Fld Z h0 a1 "com/example/informal_search/informalsearch/index/PostingBuffer" "bytes" "J" (.long 0)) :
    OwnMet l Z y_8 prog_42_method_1_code 2 none [] Rm10 #[(.ref a1), (.ref a2)] h0 (Q10 Z a1 a2 a3 h0 n0) := by
  refine own_body (plainFor_of_name pn_6) (ef_463e93 a1 a2) ?_
  intro p e s m below meth c s₁ hx hby hml hown hnm hret hZ hH hnd X0 e0
  have N0 := Fr.nil n0
  have B := hbx hby
  obtain ⟨T1, X1, e1, st1⟩ := initO X0 hx hZ hown (w_7 hw) (w_8 hw) (w_9 hw) e0 (g := (mkF m 1 #[vr a1, vr a2] [(.ref a1)])) rfl hml.symm rfl (B d1_1) (by decide) (W := 0) (by show 2 * 0 + _ ≤ _; exact Nat.le_of_eq rfl) (by decide)
  obtain ⟨T2, h2, X2, e2, W2, st2⟩ := putF X1 hx hZ hown (host := "") (Or.inl (w_10 hw)) Via.refl e1 F_literal_a1 E_a1 (Or.inr ⟨(w_11 hw), rfl, hnm⟩) (w_2 hw) (ty := (.array .boolean)) (by decide) rfl rfl (g := (mkF m 6 #[vr a1, vr a2] [(.ref a2), (.ref a1)])) rfl rfl (B d1_6)
  have s0 := (Keep.of_wr W2).1
  have N2 := Fr.snoc X2 N0 g_a1
  have Fw2 : Fld Z h2 a1 "com/example/informal_search/informalsearch/index/PostingBuffer" "literal" "[Z" (.ref a2) := F_literal_a1.same W2
  have Od1 := Od0.wr W2 g_a1
  have Ex3 := (E_a1.wr W2)
  have Fl4 := (F_terms_a1.other W2 (Or.inr (slot_ne (Or.inl (w_68 hw)) (Or.inr (w_11 hw)) (by decide) (t := (.object "com/example/informal_search/informalsearch/index/Numbering")) (t' := (.array .boolean)) (by decide) (by decide))))
  have Fl5 := (F_termOf_a1.other W2 (Or.inr (slot_ne (Or.inl (w_71 hw)) (Or.inr (w_11 hw)) (by decide) (t := (.array .int)) (t' := (.array .boolean)) (by decide) (by decide))))
  have Fl6 := (F_entityOf_a1.other W2 (Or.inr (slot_ne (Or.inl (w_73 hw)) (Or.inr (w_11 hw)) (by decide) (t := (.array .int)) (t' := (.array .boolean)) (by decide) (by decide))))
  have Fl7 := (F_fieldOf_a1.other W2 (Or.inr (slot_ne (Or.inl (w_75 hw)) (Or.inr (w_11 hw)) (by decide) (t := (.array .int)) (t' := (.array .boolean)) (by decide) (by decide))))
  have Fl8 := (F_countOf_a1.other W2 (Or.inr (slot_ne (Or.inl (w_77 hw)) (Or.inr (w_11 hw)) (by decide) (t := (.array .int)) (t' := (.array .boolean)) (by decide) (by decide))))
  have Fl9 := (F_size_a1.other W2 (Or.inr (slot_ne (Or.inl (w_79 hw)) (Or.inr (w_11 hw)) (by decide) (t := .int) (t' := (.array .boolean)) (by decide) (by decide))))
  have Fl10 := (F_bytes_a1.other W2 (Or.inr (slot_ne (Or.inl (w_82 hw)) (Or.inr (w_11 hw)) (by decide) (t := .long) (t' := (.array .boolean)) (by decide) (by decide))))
  have z1 := Nat.le_trans Z0 s0
  obtain ⟨_, T11, L11, X11, hQ11, st11⟩ := own_private X2 hx hZ hH hown (y := y_7) Ex3 (w_12 hw) (w_13 hw) (Jvm.Kit.selects_private (by decide) (mvT hZ (w_2 hw)) (mvP hZ (w_14 hw)) (mvT hZ (w_13 hw))) (w_14 hw) (w_3 hw) (w_15 hw) (rm9 l Z hw a1 a3 a2 h2 n0 z1 S_DEFAULTCAPACITY_EMPTY_ELEMENTDATA Od1 Fl4 Ex3 g_a1 Fl5 Fl6 Fl7 Fl8 Fl9 Fl10 Fw2) e2 (Ls := #[vr a1, vr a2]) hml.symm (argsL := []) (rest := []) (lenOf pd_0 rfl) (B d1_10) (W := 0)
  obtain ⟨b11_0, k11_1, b11_2, k11_3, b11_4, k11_5, b11_6, k11_7, b11_8, b11_9, b11_10, rfl, Nq11, K11, o11_0, o11_1, o11_2, o11_3, o11_4, o11_5, o11_6, o11_7, o11_8, o11_9, o11_10, o11_11, o11_12, o11_13, o11_14, o11_15, o11_16, o11_17, o11_18, o11_19, o11_20, o11_21, o11_22, o11_23, o11_24, o11_25, o11_26, o11_27, o11_28, o11_29, o11_30, o11_31, o11_32, o11_33, o11_34, o11_35, o11_36, o11_37, o11_38, o11_39, o11_40, o11_41, o11_42, o11_43, o11_44, o11_45, o11_46, o11_47, o11_48, o11_49, o11_50, o11_51, o11_52, o11_53, o11_54, o11_55, o11_56, o11_57, o11_58⟩ := hQ11
  have N11 := Fr.app N2 Nq11
  have s1 := K11.1
  have sz_b11_0 : h0.size ≤ b11_0 := Nat.le_trans s0 o11_9
  have sz_b11_2 : h0.size ≤ b11_2 := Nat.le_trans s0 o11_12
  have sz_b11_4 : h0.size ≤ b11_4 := Nat.le_trans s0 o11_15
  have sz_b11_6 : h0.size ≤ b11_6 := Nat.le_trans s0 o11_18
  have sz_b11_8 : h0.size ≤ b11_8 := Nat.le_trans s0 o11_21
  have sz_b11_9 : h0.size ≤ b11_9 := Nat.le_trans s0 o11_26
  have sz_b11_10 : h0.size ≤ b11_10 := Nat.le_trans s0 o11_33
  have Kp0 := (Keep.refl h0 [a1]).wr W2 own_m0
  have Kp1 := Kp0.trans K11 (allS own_m0 all0)
  refine ⟨T11, _, _, _, none, X11, (fun _ => rfl), by decide, by decide, ?_, fun fs hr => ?_⟩
  · exact ⟨b11_0, k11_1, b11_2, k11_3, b11_4, k11_5, b11_6, k11_7, b11_8, b11_9, b11_10, rfl, N11, Kp1, o11_0, o11_1, o11_2, o11_3, o11_4, o11_5, o11_6, o11_7, o11_8, sz_b11_0, o11_10, o11_11, sz_b11_2, o11_13, o11_14, sz_b11_4, o11_16, o11_17, sz_b11_6, o11_19, o11_20, sz_b11_8, o11_22, o11_23, o11_24, o11_25, sz_b11_9, o11_27, o11_28, o11_29, o11_30, o11_31, o11_32, sz_b11_10, o11_34, o11_35, o11_36, o11_37, o11_38, o11_39, o11_40, o11_41, o11_42, o11_43, o11_44, o11_45, o11_46, o11_47, o11_48, o11_49, o11_50, o11_51, o11_52, o11_53, o11_54, o11_55, o11_56, o11_57, o11_58⟩
  · refine sA X0 hx (B d1_0) rfl rfl ?_
    refine st1 _ ?_
    refine sA X1 hx (B d1_4) rfl rfl ?_
    refine sA X1 hx (B d1_5) rfl rfl ?_
    refine st2 _ ?_
    refine sA X2 hx (B d1_9) rfl rfl ?_
    refine st11 _ ?_
    exact X11.returnOut hx hret (B d1_13) hr
theorem pd_1 : parseMethodDescriptor "([Z)V" = some ⟨[(.array .boolean)], none⟩ := by decide +kernel
theorem w_6 {a0 Z} (hw : OW a0 Z) : Jvm.Cond.before (.code y_8 prog_42_method_1_code 2 none) a0 Z := hw _ (mo 6 rfl)
theorem w_4 {a0 Z} (hw : OW a0 Z) : Jvm.Cond.before (.methodLink "com/example/informal_search/informalsearch/index/PostingBufferIsEmptyPinLaw" 9 y_8) a0 Z := hw _ (mo 4 rfl)
theorem w_5 {a0 Z} (hw : OW a0 Z) : Jvm.Cond.before (.instanceMethod y_8) a0 Z := hw _ (mo 5 rfl)
abbrev Kc10 := prog_42_method_5_code
theorem d10_0 : decode Kc10 0 = .ok (.aload_n 0, 1) := by decide +kernel
theorem d10_1 : decode Kc10 1 = .ok (.getfield 28, 3) := by decide +kernel
theorem d10_4 : decode Kc10 4 = .ok (.ifCond .ne 7, 3) := by decide +kernel
theorem d10_7 : decode Kc10 7 = .ok (.iconst 1, 1) := by decide +kernel
theorem d10_8 : decode Kc10 8 = .ok (.goto 4, 3) := by decide +kernel
theorem d10_12 : decode Kc10 12 = .ok (.ireturn, 1) := by decide +kernel
abbrev y_9 : MethodName := ⟨"com/example/informal_search/informalsearch/index/PostingBuffer", "isEmpty", "()Z"⟩
abbrev Rm11 : Room := rmk 0 0 0 0
def Q11 (Z : State) (a1 : Addr) (h0 : Heap) (n0 : Nat) (v : Option Value) (h : Heap) (L : List Loc) : Prop := v = some (.int 1) ∧ Fr n0 L ∧ h = h0
theorem rm11 (l : Launch) (Z : State) {a0 : Array Value} (hw : OW a0 Z) (a1 : Addr) (h0 : Heap) (n0 : Nat) (Z0 : n0 ≤ h0.size) (F_size_a1 : Fld Z h0 a1 "com/example/informal_search/informalsearch/index/PostingBuffer" "size" "I" (.int 0)) :
    OwnMet l Z y_9 prog_42_method_5_code 1 (some .boolean) [] Rm11 #[(.ref a1)] h0 (Q11 Z a1 h0 n0) := by
  refine own_body (plainFor_of_name pn_6) (ef_26f21a a1) ?_
  intro p e s m below meth c s₁ hx hby hml hown hnm hret hZ hH hnd X0 e0
  have N0 := Fr.nil n0
  have B := hbx hby
  obtain ⟨T1, X1, e1, st1⟩ := getF X0 hx hZ hown (host := "") (Or.inl (w_78 hw)) Via.refl e0 F_size_a1 (g := (mkF m 1 #[vr a1] [(.ref a1)])) rfl rfl (B d10_1)
  refine ⟨T1, _, _, _, (some (.int 1)), X1, nofun, by decide, by decide, ?_, fun fs hr => ?_⟩
  · rw [e1]
    exact ⟨rfl, N0, rfl⟩
  · refine sA X0 hx (B d10_0) rfl rfl ?_
    refine st1 _ ?_
    refine XS.ifNo X1.here hx rfl (B d10_4) rfl ((if0 _ _).trans (teq (by decide : (0 : Int32) = (0 : Int32))).2) ?_
    refine sC X1 hx (B d10_7) ?_
    refine XS.goto X1.here hx rfl (pc0 := 8) (pc' := 12) rfl (B d10_8) (by decide) (by decide) ?_
    exact retN X1 hx (t := .boolean) hret (by simp) (B d10_12) hr
theorem pd_2 : parseMethodDescriptor "()Z" = some ⟨[], some .boolean⟩ := by decide +kernel
theorem w_87 {a0 Z} (hw : OW a0 Z) : Jvm.Cond.before (.code y_9 prog_42_method_5_code 1 (some .boolean)) a0 Z := hw _ (mo 87 rfl)
theorem w_83 {a0 Z} (hw : OW a0 Z) : Jvm.Cond.before (.methodLink "com/example/informal_search/informalsearch/index/PostingBufferIsEmptyPinLaw" 12 y_9) a0 Z := hw _ (mo 83 rfl)
theorem w_86 {a0 Z} (hw : OW a0 Z) : Jvm.Cond.before (.selects "com/example/informal_search/informalsearch/index/PostingBuffer" y_9 y_9) a0 Z := hw _ (mo 86 rfl)
theorem w_84 {a0 Z} (hw : OW a0 Z) : Jvm.Cond.before (.declares y_9) a0 Z := hw _ (mo 84 rfl)
theorem w_85 {a0 Z} (hw : OW a0 Z) : Jvm.Cond.before (.instanceMethod y_9) a0 Z := hw _ (mo 85 rfl)
theorem ef0 (p1 : Int32) (p2 : Int32) (p3 : Int32) (p4 : Int32) (p5 : Int32) (p6 : Int32) (m : MethodId) : entryFrame m #[(.int p1), (.int p2), (.int p3), (.int p4), (.int p5), (.int p6)] maxLocals = mkF m 0 #[.val (.int p1), .val (.int p2), .val (.int p3), .val (.int p4), .val (.int p5), .val (.int p6), .unset, .unset, .unset, .unset, .unset, .unset] [] := by first | (simp [entryFrame, mkF, argsToLocals, Value.category, maxLocals]; done) | rfl
theorem w_88 {a0 Z} (hw : OW a0 Z) : Jvm.Cond.before (.arrayClass .char) a0 Z := hw _ (mo 88 rfl)
theorem w_89 {a0 Z} (hw : OW a0 Z) : Jvm.Cond.before (.classLink "com/example/informal_search/informalsearch/index/PostingBufferIsEmptyPinLaw" 16 "java/lang/String") a0 Z := hw _ (mo 89 rfl)
theorem w_90 {a0 Z} (hw : OW a0 Z) : Jvm.Cond.before (.instantiable "java/lang/String" 4) a0 Z := hw _ (mo 90 rfl)
theorem w_91 {a0 Z} (hw : OW a0 Z) : Jvm.Cond.before (.initialized "java/lang/String") a0 Z := hw _ (mo 91 rfl)
theorem w_113 {a0 Z} (hw : OW a0 Z) : Jvm.Cond.before (.laysFinal "java/lang/String" "java/lang/String" "coder" "B") a0 Z := hw _ (mo 113 rfl)
theorem w_115 {a0 Z} (hw : OW a0 Z) : Jvm.Cond.before (.laysFinal "java/lang/String" "java/lang/String" "value" "[B") a0 Z := hw _ (mo 115 rfl)
theorem w_149 {a0 Z} (hw : OW a0 Z) : Jvm.Cond.before (.lays "java/lang/String" "java/lang/String" "hash" "I") a0 Z := hw _ (mo 149 rfl)
theorem w_151 {a0 Z} (hw : OW a0 Z) : Jvm.Cond.before (.lays "java/lang/String" "java/lang/String" "hashIsZero" "Z") a0 Z := hw _ (mo 151 rfl)
abbrev Kc11 := jdk_42_method_3_code
theorem d11_0 : decode Kc11 0 = .ok (.aload_n 0, 1) := by decide +kernel
theorem d11_1 : decode Kc11 1 = .ok (.aload_n 1, 1) := by decide +kernel
theorem d11_2 : decode Kc11 2 = .ok (.iconst 0, 1) := by decide +kernel
theorem d11_3 : decode Kc11 3 = .ok (.aload_n 1, 1) := by decide +kernel
theorem d11_4 : decode Kc11 4 = .ok (.arraylength, 1) := by decide +kernel
theorem d11_5 : decode Kc11 5 = .ok (.aconst_null, 1) := by decide +kernel
theorem d11_6 : decode Kc11 6 = .ok (.invokespecial 27, 3) := by decide +kernel
abbrev Kc12 := jdk_42_method_149_code
theorem d12_0 : decode Kc12 0 = .ok (.aload_n 0, 1) := by decide +kernel
theorem d12_1 : decode Kc12 1 = .ok (.invokespecial 1, 3) := by decide +kernel
theorem w_99 {a0 Z} (hw : OW a0 Z) : Jvm.Cond.before (.methodLink "java/lang/String" 1 y_0) a0 Z := hw _ (mo 99 rfl)
theorem d12_4 : decode Kc12 4 = .ok (.iload_n 3, 1) := by decide +kernel
theorem d12_5 : decode Kc12 5 = .ok (.ifCond .ne 22, 3) := by decide +kernel
theorem d12_27 : decode Kc12 27 = .ok (.getstatic 38, 3) := by decide +kernel
theorem w_100 {a0 Z} (hw : OW a0 Z) : Jvm.Cond.before (.fieldLink "java/lang/String" 38 "java/lang/String" "COMPACT_STRINGS" "Z") a0 Z := hw _ (mo 100 rfl)
theorem d12_30 : decode Kc12 30 = .ok (.ifCond .eq 28, 3) := by decide +kernel
theorem d12_33 : decode Kc12 33 = .ok (.aload_n 1, 1) := by decide +kernel
theorem d12_34 : decode Kc12 34 = .ok (.iload_n 2, 1) := by decide +kernel
theorem d12_35 : decode Kc12 35 = .ok (.iload_n 3, 1) := by decide +kernel
theorem d12_36 : decode Kc12 36 = .ok (.invokestatic 177, 3) := by decide +kernel
abbrev Kc13 := jdk_52_method_16_code
theorem d13_0 : decode Kc13 0 = .ok (.iload_n 2, 1) := by decide +kernel
theorem d13_1 : decode Kc13 1 = .ok (.newarray .byte, 2) := by decide +kernel
theorem w_105 {a0 Z} (hw : OW a0 Z) : Jvm.Cond.before (.arrayClass .byte) a0 Z := hw _ (mo 105 rfl)
theorem d13_3 : decode Kc13 3 = .ok (.astore_n 3, 1) := by decide +kernel
theorem d13_4 : decode Kc13 4 = .ok (.aload_n 0, 1) := by decide +kernel
theorem d13_5 : decode Kc13 5 = .ok (.iload_n 1, 1) := by decide +kernel
theorem d13_6 : decode Kc13 6 = .ok (.aload_n 3, 1) := by decide +kernel
theorem d13_7 : decode Kc13 7 = .ok (.iconst 0, 1) := by decide +kernel
theorem d13_8 : decode Kc13 8 = .ok (.iload_n 2, 1) := by decide +kernel
theorem d13_9 : decode Kc13 9 = .ok (.invokestatic 115, 3) := by decide +kernel
abbrev Kc14 := jdk_52_method_21_code
theorem d14_0 : decode Kc14 0 = .ok (.iconst 0, 1) := by decide +kernel
theorem d14_1 : decode Kc14 1 = .ok (.istore 5, 2) := by decide +kernel
theorem d14_3 : decode Kc14 3 = .ok (.iload 5, 2) := by decide +kernel
theorem d14_5 : decode Kc14 5 = .ok (.iload 4, 2) := by decide +kernel
theorem d14_7 : decode Kc14 7 = .ok (.if_icmp .ge 37, 3) := by decide +kernel
theorem d14_10 : decode Kc14 10 = .ok (.aload_n 0, 1) := by decide +kernel
theorem d14_11 : decode Kc14 11 = .ok (.iload_n 1, 1) := by decide +kernel
theorem d14_12 : decode Kc14 12 = .ok (.caload, 1) := by decide +kernel
theorem d14_13 : decode Kc14 13 = .ok (.istore 6, 2) := by decide +kernel
theorem d14_15 : decode Kc14 15 = .ok (.iload 6, 2) := by decide +kernel
theorem d14_17 : decode Kc14 17 = .ok (.sipush 255, 3) := by decide +kernel
theorem d14_20 : decode Kc14 20 = .ok (.if_icmp .le 6, 3) := by decide +kernel
theorem d14_26 : decode Kc14 26 = .ok (.aload_n 2, 1) := by decide +kernel
theorem d14_27 : decode Kc14 27 = .ok (.iload_n 3, 1) := by decide +kernel
theorem d14_28 : decode Kc14 28 = .ok (.iload 6, 2) := by decide +kernel
theorem d14_30 : decode Kc14 30 = .ok (.i2b, 1) := by decide +kernel
theorem d14_31 : decode Kc14 31 = .ok (.bastore, 1) := by decide +kernel
theorem d14_32 : decode Kc14 32 = .ok (.iinc 1 1, 3) := by decide +kernel
theorem d14_35 : decode Kc14 35 = .ok (.iinc 3 1, 3) := by decide +kernel
theorem d14_38 : decode Kc14 38 = .ok (.iinc 5 1, 3) := by decide +kernel
theorem d14_41 : decode Kc14 41 = .ok (.goto (-38), 3) := by decide +kernel
theorem d14_44 : decode Kc14 44 = .ok (.iload 4, 2) := by decide +kernel
theorem d14_46 : decode Kc14 46 = .ok (.ireturn, 1) := by decide +kernel
theorem ef_bad258 (a1 : Addr) (a2 : Addr) (m : MethodId) : entryFrame m #[(.ref a1), (.int 0), (.ref a2), (.int 0), (.int 1)] 7 = mkF m 0 #[.val (.ref a1), .val (.int 0), .val (.ref a2), .val (.int 0), .val (.int 1), .unset, .unset] [] := by first | (simp [entryFrame, mkF, argsToLocals, Value.category]; done) | rfl
abbrev y_10 : MethodName := ⟨"java/lang/StringUTF16", "compress", "([CI[BII)I"⟩
theorem pn_7 : plainName "java/lang/StringUTF16" = true := by first | (simp [plainName, overriddenIn]; done) | decide +kernel
abbrev Rm12 : Room := rmk 0 0 0 0
def Q12 (Z : State) (a1 a2 : Addr) (i3 : Int32) (ck4 ck6 : ClassId) (h0 : Heap) (n0 : Nat) (v : Option Value) (h : Heap) (L : List Loc) : Prop := v = some (.int 1) ∧ Fr n0 L ∧ Keep h0 h [a2] ∧ Exa Z h a2 "[B" ∧ Arv Z h a2 ck6 .byte 1 [(.int (nar .byte (i3.toInt8.toInt32)))] (.int 0)
theorem rm12 (l : Launch) (Z : State) {a0 : Array Value} (hw : OW a0 Z) (a1 a2 : Addr) (i3 : Int32) (ck4 ck6 : ClassId) (h0 : Heap) (n0 : Nat) (Z0 : n0 ≤ h0.size) (V_a1 : Arv Z h0 a1 ck4 .char 1 [(.int i3)] (.int 0)) (c5 : ¬ (255 < i3)) (V_a2 : Arv Z h0 a2 ck6 .byte 1 [(.int 0)] (.int 0)) (g_a2 : n0 ≤ a2) (E_a2 : Exa Z h0 a2 "[B") :
    OwnMet l Z y_10 jdk_52_method_21_code 7 (some .int) [] Rm12 #[(.ref a1), (.int 0), (.ref a2), (.int 0), (.int 1)] h0 (Q12 Z a1 a2 i3 ck4 ck6 h0 n0) := by
  refine own_body (plainFor_of_name pn_7) (ef_bad258 a1 a2) ?_
  intro p e s m below meth c s₁ hx hby hml hown hnm hret hZ hH hnd X0 e0
  have N0 := Fr.nil n0
  have B := hbx hby
  obtain ⟨cl1, Ar1, q1, S1, M1, Hs1, G1⟩ := id V_a1
  have hin2 := inb_of (j := 0) S1 ⟨by decide, by decide⟩
  obtain ⟨cl3, Ar3, q3, S3, M3, Hs3, G3⟩ := id V_a2
  have hin4 := inb_of (j := 0) S3 ⟨by decide, by decide⟩
  obtain ⟨T5, h5, X5, e5, W5, st5⟩ := stB X0 hx hZ e0 Ar3 (j := 0) hin4 (g := (mkF m 31 #[vr a1, vi 0, vr a2, vi 0, vi 1, vi 0, vi i3] [(.int (i3.toInt8.toInt32)), (.int 0), (.ref a2)])) rfl rfl (B d14_31)
  have s0 := (Keep.of_wr W5).1
  have N5 := Fr.snoc X5 N0 g_a2
  have Vs5 : Arv Z h5 a2 ck6 .byte 1 [(.int (nar .byte (i3.toInt8.toInt32)))] (.int 0) := Arv.set Ar3 q3 S3 M3 Hs3 G3 (fits_nar_byte _) W5 0 rfl (nl rfl)
  have Ex6 := (E_a2.wr W5)
  have Kp0 := (Keep.refl h0 [a2]).wr W5 own_m0
  refine ⟨T5, _, _, _, (some (.int 1)), X5, nofun, by decide, by decide, ?_, fun fs hr => ?_⟩
  · rw [e5]
    exact ⟨rfl, N5, Kp0, Ex6, Vs5⟩
  · refine sC X0 hx (B d14_0) ?_
    refine XS.istore X0.here hx rfl (B d14_1) rfl (l' := #[vr a1, vi 0, vr a2, vi 0, vi 1, vi 0, un]) rfl ?_
    refine sJ X0 hx (B d14_3) rfl ?_
    refine sJ X0 hx (B d14_5) rfl ?_
    refine XS.icmpNo X0.here hx rfl (B d14_7) rfl (tlt (by decide : (0 : Int32) < (1 : Int32))).2.1 ?_
    refine sA X0 hx (B d14_10) rfl rfl ?_
    refine sI X0 hx (B d14_11) rfl ?_
    refine X0.caload hx (j := 0) (v := (.int i3)) (by rw [e0]; exact Ar1.1) (State.isArrayOf_alike hZ.alike Ar1.2.1) Ar1.2.2 hin2 (Has.at Hs1 hin2 rfl) (g := (mkF m 12 #[vr a1, vi 0, vr a2, vi 0, vi 1, vi 0, un] [(.int 0), (.ref a1)])) rfl rfl (B d14_12) _ ?_
    refine XS.istore X0.here hx rfl (B d14_13) rfl (l' := #[vr a1, vi 0, vr a2, vi 0, vi 1, vi 0, vi i3]) rfl ?_
    refine sJ X0 hx (B d14_15) rfl ?_
    refine XS.sipush X0.here hx rfl (B d14_17) ?_
    refine XS.icmpYes X0.here hx rfl (pc0 := 20) (pc' := 26) rfl (B d14_20) rfl (flt c5).2.2.2 (by decide) (by decide) ?_
    refine sA X0 hx (B d14_26) rfl rfl ?_
    refine sI X0 hx (B d14_27) rfl ?_
    refine sJ X0 hx (B d14_28) rfl ?_
    refine XS.i2b X0.here hx rfl (B d14_30) rfl ?_
    refine st5 _ ?_
    refine XS.iinc X5.here hx rfl (B d14_32) rfl (l' := #[vr a1, vi 1, vr a2, vi 0, vi 1, vi 0, vi i3]) rfl ?_
    refine XS.iinc X5.here hx rfl (B d14_35) rfl (l' := #[vr a1, vi 1, vr a2, vi 1, vi 1, vi 0, vi i3]) rfl ?_
    refine XS.iinc X5.here hx rfl (B d14_38) rfl (l' := #[vr a1, vi 1, vr a2, vi 1, vi 1, vi 1, vi i3]) rfl ?_
    refine XS.goto X5.here hx rfl (pc0 := 41) (pc' := 3) rfl (B d14_41) (by decide) (by decide) ?_
    refine sJ X5 hx (B d14_3) rfl ?_
    refine sJ X5 hx (B d14_5) rfl ?_
    refine XS.icmpYes X5.here hx rfl (pc0 := 7) (pc' := 44) rfl (B d14_7) rfl (flt (by decide : ¬ ((1 : Int32) < (1 : Int32)))).2.1 (by decide) (by decide) ?_
    refine sJ X5 hx (B d14_44) rfl ?_
    exact retI X5 hx hret (B d14_46) hr
theorem pd_3 : parseMethodDescriptor "([CI[BII)I" = some ⟨[(.array .char), .int, (.array .byte), .int, .int], some .int⟩ := by decide +kernel
theorem w_103 {a0 Z} (hw : OW a0 Z) : Jvm.Cond.before (.initialized "java/lang/StringUTF16") a0 Z := hw _ (mo 103 rfl)
theorem w_108 {a0 Z} (hw : OW a0 Z) : Jvm.Cond.before (.code y_10 jdk_52_method_21_code 7 (some .int)) a0 Z := hw _ (mo 108 rfl)
theorem w_106 {a0 Z} (hw : OW a0 Z) : Jvm.Cond.before (.methodLink "java/lang/StringUTF16" 115 y_10) a0 Z := hw _ (mo 106 rfl)
theorem w_107 {a0 Z} (hw : OW a0 Z) : Jvm.Cond.before (.static y_10) a0 Z := hw _ (mo 107 rfl)
theorem d13_12 : decode Kc13 12 = .ok (.istore 4, 2) := by decide +kernel
theorem d13_14 : decode Kc13 14 = .ok (.iload 4, 2) := by decide +kernel
theorem d13_16 : decode Kc13 16 = .ok (.iload_n 2, 1) := by decide +kernel
theorem d13_17 : decode Kc13 17 = .ok (.if_icmp .eq 40, 3) := by decide +kernel
theorem d13_57 : decode Kc13 57 = .ok (.aload_n 3, 1) := by decide +kernel
theorem d13_58 : decode Kc13 58 = .ok (.areturn, 1) := by decide +kernel
theorem ef_1b50a4 (a1 : Addr) (m : MethodId) : entryFrame m #[(.ref a1), (.int 0), (.int 1)] 6 = mkF m 0 #[.val (.ref a1), .val (.int 0), .val (.int 1), .unset, .unset, .unset] [] := by first | (simp [entryFrame, mkF, argsToLocals, Value.category]; done) | rfl
abbrev y_11 : MethodName := ⟨"java/lang/StringUTF16", "compress", "([CII)[B"⟩
abbrev Rm13 : Room := rmk 1 1 1 18
def Q13 (Z : State) (a1 : Addr) (i2 : Int32) (ck3 : ClassId) (h0 : Heap) (n0 : Nat) (v : Option Value) (h : Heap) (L : List Loc) : Prop := ∃ b1 : Addr, ∃ k1 : ClassId, v = some (.ref b1) ∧ Fr n0 L ∧ Keep h0 h [] ∧ h0.size ≤ b1 ∧ Exa Z h b1 "[B" ∧ Arv Z h b1 k1 .byte 1 [(.int (nar .byte (i2.toInt8.toInt32)))] (.int 0)
theorem rm13 (l : Launch) (Z : State) {a0 : Array Value} (hw : OW a0 Z) (a1 : Addr) (i2 : Int32) (ck3 : ClassId) (h0 : Heap) (n0 : Nat) (Z0 : n0 ≤ h0.size) (V_a1 : Arv Z h0 a1 ck3 .char 1 [(.int i2)] (.int 0)) (c4 : ¬ (255 < i2)) :
    OwnMet l Z y_11 jdk_52_method_16_code 6 (some (.array .byte)) [] Rm13 #[(.ref a1), (.int 0), (.int 1)] h0 (Q13 Z a1 i2 ck3 h0 n0) := by
  refine own_body (plainFor_of_name pn_7) (ef_1b50a4 a1) ?_
  intro p e s m below meth c s₁ hx hby hml hown hnm hret hZ hH hnd X0 e0
  have N0 := Fr.nil n0
  have B := hbx hby
  obtain ⟨T1, h1, k1, X1, e1, E1, A1, B1, st1⟩ := newPE (aty := .byte) X0 hx hZ (w_105 hw) e0 (g := (mkF m 1 #[vr a1, vi 0, vi 1, un, un, un] [(.int 1)])) rfl (B d13_1) rfl (by decide) (cap := 1) (by decide) (by decide) (by decide) (by decide) (ad := "[B") (by decide)
  obtain ⟨b1, g1⟩ : ∃ z, z = h0.size := ⟨_, rfl⟩
  rw [← g1] at A1 B1 st1
  have s0 := E1.1
  have Vn1 : Arv Z h1 b1 k1 .byte 1 [(.int 0)] (.int 0) := (Arv.new A1 (by decide)).pad (pad_rep [] (.int 0) 1)
  have Va2 := (V_a1.ext E1)
  have g_b1 : n0 ≤ b1 := Nat.le_trans Z0 (Nat.le_of_eq g1.symm)
  have z1 := Nat.le_trans Z0 s0
  obtain ⟨_, T3, L3, X3, hQ3, st3⟩ := own_callS X1 hx hZ hH hown (y := y_10) (w_106 hw) (w_107 hw) (w_103 hw) (w_108 hw) (rm12 l Z hw a1 b1 i2 ck3 k1 h1 n0 z1 Va2 c4 Vn1 g_b1 B1) e1 (Ls := #[vr a1, vi 0, vi 1, vr b1, un, un]) hml.symm (argsL := [(.ref a1), (.int 0), (.ref b1), (.int 0), (.int 1)]) (rest := []) (lenOf pd_3 rfl) (B d13_9) (W := 0)
  obtain ⟨rfl, Nq3, K3, o3_0, o3_1⟩ := hQ3
  have N3 := Fr.app N0 Nq3
  have s1 := K3.1
  have sz_b1 : h0.size ≤ b1 := (Nat.le_of_eq g1.symm)
  have Kp0 := (Keep.refl h0 []).ext E1
  have Kp1 := Kp0.trans K3 (allS (Or.inr sz_b1) all0)
  refine ⟨T3, _, _, _, (some (.ref b1)), X3, nofun, by decide, by decide, ?_, fun fs hr => ?_⟩
  · exact ⟨b1, k1, rfl, N3, Kp1, sz_b1, o3_0, o3_1⟩
  · refine sI X0 hx (B d13_0) rfl ?_
    refine st1 _ ?_
    refine XS.astoreN X1.here hx rfl (B d13_3) rfl rfl (l' := #[vr a1, vi 0, vi 1, vr b1, un, un]) rfl ?_
    refine sA X1 hx (B d13_4) rfl rfl ?_
    refine sI X1 hx (B d13_5) rfl ?_
    refine sA X1 hx (B d13_6) rfl rfl ?_
    refine sC X1 hx (B d13_7) ?_
    refine sI X1 hx (B d13_8) rfl ?_
    refine st3 _ ?_
    refine XS.istore X3.here hx rfl (B d13_12) rfl (l' := #[vr a1, vi 0, vi 1, vr b1, vi 1, un]) rfl ?_
    refine sJ X3 hx (B d13_14) rfl ?_
    refine sI X3 hx (B d13_16) rfl ?_
    refine XS.icmpYes X3.here hx rfl (pc0 := 17) (pc' := 57) rfl (B d13_17) rfl (teq (by decide : (1 : Int32) = (1 : Int32))).1 (by decide) (by decide) ?_
    refine sA X3 hx (B d13_57) rfl rfl ?_
    exact retOut X3 hx hret rfl (Or.inr (Or.inr (Or.inr (Or.inr ⟨rfl, rfl, rfl⟩)))) (B d13_58) hr
theorem pd_4 : parseMethodDescriptor "([CII)[B" = some ⟨[(.array .char), .int, .int], some (.array .byte)⟩ := by decide +kernel
theorem w_104 {a0 Z} (hw : OW a0 Z) : Jvm.Cond.before (.code y_11 jdk_52_method_16_code 6 (some (.array .byte))) a0 Z := hw _ (mo 104 rfl)
theorem w_101 {a0 Z} (hw : OW a0 Z) : Jvm.Cond.before (.methodLink "java/lang/String" 177 y_11) a0 Z := hw _ (mo 101 rfl)
theorem w_102 {a0 Z} (hw : OW a0 Z) : Jvm.Cond.before (.static y_11) a0 Z := hw _ (mo 102 rfl)
theorem d12_39 : decode Kc12 39 = .ok (.astore 5, 2) := by decide +kernel
theorem d12_41 : decode Kc12 41 = .ok (.aload_n 0, 1) := by decide +kernel
theorem d12_42 : decode Kc12 42 = .ok (.aload 5, 2) := by decide +kernel
theorem d12_44 : decode Kc12 44 = .ok (.iload_n 3, 1) := by decide +kernel
theorem d12_45 : decode Kc12 45 = .ok (.invokestatic 47, 3) := by decide +kernel
abbrev Kc15 := jdk_52_method_15_code
theorem d15_0 : decode Kc15 0 = .ok (.iload_n 1, 1) := by decide +kernel
theorem d15_1 : decode Kc15 1 = .ok (.aload_n 0, 1) := by decide +kernel
theorem d15_2 : decode Kc15 2 = .ok (.arraylength, 1) := by decide +kernel
theorem d15_3 : decode Kc15 3 = .ok (.isub, 1) := by decide +kernel
theorem d15_4 : decode Kc15 4 = .ok (.bipush 31, 2) := by decide +kernel
theorem d15_6 : decode Kc15 6 = .ok (.iushr, 1) := by decide +kernel
theorem d15_7 : decode Kc15 7 = .ok (.i2b, 1) := by decide +kernel
theorem d15_8 : decode Kc15 8 = .ok (.ireturn, 1) := by decide +kernel
theorem ef_218e7d (a1 : Addr) (m : MethodId) : entryFrame m #[(.ref a1), (.int 1)] 2 = mkF m 0 #[.val (.ref a1), .val (.int 1)] [] := by first | (simp [entryFrame, mkF, argsToLocals, Value.category]; done) | rfl
abbrev y_12 : MethodName := ⟨"java/lang/StringUTF16", "coderFromArrayLen", "([BI)B"⟩
abbrev Rm14 : Room := rmk 0 0 0 0
def Q14 (Z : State) (a1 : Addr) (i2 : Int32) (ck3 : ClassId) (h0 : Heap) (n0 : Nat) (v : Option Value) (h : Heap) (L : List Loc) : Prop := v = some (.int 0) ∧ Fr n0 L ∧ h = h0
theorem rm14 (l : Launch) (Z : State) {a0 : Array Value} (hw : OW a0 Z) (a1 : Addr) (i2 : Int32) (ck3 : ClassId) (h0 : Heap) (n0 : Nat) (Z0 : n0 ≤ h0.size) (V_a1 : Arv Z h0 a1 ck3 .byte 1 [(.int i2)] (.int 0)) :
    OwnMet l Z y_12 jdk_52_method_15_code 2 (some .byte) [] Rm14 #[(.ref a1), (.int 1)] h0 (Q14 Z a1 i2 ck3 h0 n0) := by
  refine own_body (plainFor_of_name pn_7) (ef_218e7d a1) ?_
  intro p e s m below meth c s₁ hx hby hml hown hnm hret hZ hH hnd X0 e0
  have N0 := Fr.nil n0
  have B := hbx hby
  obtain ⟨cl1, Ar1, q1, S1, M1, Hs1, G1⟩ := id V_a1
  refine ⟨s₁, _, _, _, (some (.int 0)), X0, nofun, by decide, by decide, ?_, fun fs hr => ?_⟩
  · rw [e0]
    exact ⟨rfl, N0, rfl⟩
  · refine sI X0 hx (B d15_0) rfl ?_
    refine sA X0 hx (B d15_1) rfl rfl ?_
    refine X0.arraylength hx (by rw [e0]; exact Ar1.1) (State.isArrayOf_alike hZ.alike Ar1.2.1) (g := (mkF m 2 #[vr a1, vi 1] [(.ref a1), (.int 1)])) rfl rfl (B d15_2) _ ?_
    show Steps p.tables e below (s₁.setTop (mkF m 3 #[vr a1, vi 1] [(.int cl1.slots.size.toInt32), (.int 1)])) _
    rw [len_of S1 M1]
    refine XS.isub X0.here hx rfl (B d15_3) rfl ?_
    refine XS.bipush X0.here hx rfl (B d15_4) ?_
    refine XS.iushr X0.here hx rfl (B d15_6) rfl ?_
    refine XS.i2b X0.here hx rfl (B d15_7) rfl ?_
    exact retN X0 hx (t := .byte) hret (by simp) (B d15_8) hr
theorem pd_5 : parseMethodDescriptor "([BI)B" = some ⟨[(.array .byte), .int], some .byte⟩ := by decide +kernel
theorem w_111 {a0 Z} (hw : OW a0 Z) : Jvm.Cond.before (.code y_12 jdk_52_method_15_code 2 (some .byte)) a0 Z := hw _ (mo 111 rfl)
theorem w_109 {a0 Z} (hw : OW a0 Z) : Jvm.Cond.before (.methodLink "java/lang/String" 47 y_12) a0 Z := hw _ (mo 109 rfl)
theorem w_110 {a0 Z} (hw : OW a0 Z) : Jvm.Cond.before (.static y_12) a0 Z := hw _ (mo 110 rfl)
theorem d12_48 : decode Kc12 48 = .ok (.putfield 15, 3) := by decide +kernel
theorem w_112 {a0 Z} (hw : OW a0 Z) : Jvm.Cond.before (.fieldLink "java/lang/String" 15 "java/lang/String" "coder" "B") a0 Z := hw _ (mo 112 rfl)
theorem d12_51 : decode Kc12 51 = .ok (.aload_n 0, 1) := by decide +kernel
theorem d12_52 : decode Kc12 52 = .ok (.aload 5, 2) := by decide +kernel
theorem d12_54 : decode Kc12 54 = .ok (.putfield 9, 3) := by decide +kernel
theorem w_114 {a0 Z} (hw : OW a0 Z) : Jvm.Cond.before (.fieldLink "java/lang/String" 9 "java/lang/String" "value" "[B") a0 Z := hw _ (mo 114 rfl)
theorem d12_57 : decode Kc12 57 = .ok (.return_, 1) := by decide +kernel
theorem ef_83ffd8 (a1 : Addr) (a2 : Addr) (m : MethodId) : entryFrame m #[(.ref a1), (.ref a2), (.int 0), (.int 1), .null] 6 = mkF m 0 #[.val (.ref a1), .val (.ref a2), .val (.int 0), .val (.int 1), .val .null, .unset] [] := by first | (simp [entryFrame, mkF, argsToLocals, Value.category]; done) | rfl
abbrev y_13 : MethodName := ⟨"java/lang/String", "<init>", "([CIILjava/lang/Void;)V"⟩
theorem pn_8 : plainName "java/lang/String" = true := by first | (simp [plainName, overriddenIn]; done) | decide +kernel
abbrev Rm15 : Room := rmk 2 1 1 35
def Q15 (Z : State) (a1 a2 : Addr) (i3 i5 : Int32) (ck6 : ClassId) (h0 : Heap) (n0 : Nat) (v : Option Value) (h : Heap) (L : List Loc) : Prop := ∃ b3_0 : Addr, ∃ k3_1 : ClassId, v = none ∧ Fr n0 L ∧ Keep h0 h [a1] ∧ Exa Z h a1 jS ∧ Fld Z h a1 jS "coder" "B" (.int 0) ∧ Fld Z h a1 jS "hash" "I" (.int 0) ∧ Fld Z h a1 jS "hashIsZero" "Z" (.int 0) ∧ Fld Z h a1 jS "value" "[B" (.ref b3_0) ∧ h0.size ≤ b3_0 ∧ Exa Z h b3_0 "[B" ∧ Arv Z h b3_0 k3_1 .byte 1 [(.int (nar .byte (i5.toInt8.toInt32)))] (.int 0)
theorem rm15 (l : Launch) (Z : State) {a0 : Array Value} (hw : OW a0 Z) (a1 a2 : Addr) (i3 i5 : Int32) (ck6 : ClassId) (h0 : Heap) (n0 : Nat) (Z0 : n0 ≤ h0.size) (S_COMPACT_STRINGS : Sta Z Z.heap "java/lang/String" "COMPACT_STRINGS" "Z" (.int i3)) (Od0 : Old Z n0 h0) (c4 : ¬ (i3 = 0)) (V_a2 : Arv Z h0 a2 ck6 .char 1 [(.int i5)] (.int 0)) (c7 : ¬ (255 < i5)) (F_coder_a1 : Fld Z h0 a1 jS "coder" "B" (.int 0)) (E_a1 : Exa Z h0 a1 jS) (g_a1 : n0 ≤ a1) (F_value_a1 : Fld Z h0 a1 jS "value" "[B" .null) (F_hash_a1 : Fld Z h0 a1 jS "hash" "I" (.int 0)) (F_hashIsZero_a1 : Fld Z h0 a1 jS "hashIsZero" "Z" (.int 0)) :
    OwnMet l Z y_13 jdk_42_method_149_code 6 none [] Rm15 #[(.ref a1), (.ref a2), (.int 0), (.int 1), .null] h0 (Q15 Z a1 a2 i3 i5 ck6 h0 n0) := by
  refine own_body (plainFor_of_name pn_8) (ef_83ffd8 a1 a2) ?_
  intro p e s m below meth c s₁ hx hby hml hown hnm hret hZ hH hnd X0 e0
  have N0 := Fr.nil n0
  have B := hbx hby
  obtain ⟨T1, X1, e1, st1⟩ := initO X0 hx hZ hown (w_99 hw) (w_8 hw) (w_9 hw) e0 (g := (mkF m 1 #[vr a1, vr a2, vi 0, vi 1, .val .null, un] [(.ref a1)])) rfl hml.symm rfl (B d12_1) (by decide) (W := 0) (by show 2 * 0 + _ ≤ _; exact Nat.le_of_eq rfl) (by decide)
  obtain ⟨T2, X2, e2, st2⟩ := getS2 X1 hx hZ hown (host := "") (Or.inl (w_100 hw)) Via.refl e1 (S_COMPACT_STRINGS.ext Od0.2) (g := (mkF m 27 #[vr a1, vr a2, vi 0, vi 1, .val .null, un] [])) rfl (B d12_27)
  obtain ⟨_, T3, L3, X3, hQ3, st3⟩ := own_callS X2 hx hZ hH hown (y := y_11) (w_101 hw) (w_102 hw) (w_103 hw) (w_104 hw) (rm13 l Z hw a2 i5 ck6 h0 n0 Z0 V_a2 c7) e2 (Ls := #[vr a1, vr a2, vi 0, vi 1, .val .null, un]) hml.symm (argsL := [(.ref a2), (.int 0), (.int 1)]) (rest := []) (lenOf pd_4 rfl) (B d12_36) (W := 0)
  obtain ⟨b3_0, k3_1, rfl, Nq3, K3, o3_0, o3_1, o3_2⟩ := hQ3
  have N3 := Fr.app N0 Nq3
  have s0 := K3.1
  have z1 := Nat.le_trans Z0 s0
  obtain ⟨_, T4, L4, X4, hQ4, st4⟩ := own_callS X3 hx hZ hH hown (y := y_12) (w_109 hw) (w_110 hw) (w_103 hw) (w_111 hw) (rm14 l Z hw b3_0 (nar .byte (i5.toInt8.toInt32)) k3_1 T3.heap n0 z1 o3_2) rfl (Ls := #[vr a1, vr a2, vi 0, vi 1, .val .null, vr b3_0]) hml.symm (argsL := [(.ref b3_0), (.int 1)]) (rest := [(.ref a1)]) (lenOf pd_5 rfl) (B d12_45) (W := 1)
  obtain ⟨rfl, Nq4, e4⟩ := hQ4
  have N4 := Fr.app N3 Nq4
  have Fl5 := (F_coder_a1.keep K3 nin0)
  have Ex6 := (E_a1.keep K3)
  obtain ⟨T7, h7, X7, e7, W7, st7⟩ := putFN X4 hx hZ hown (w_112 hw) Via.refl e4 Fl5 Ex6 (Or.inr ⟨(w_113 hw), rfl, hnm⟩) (w_90 hw) (ty := .byte) (v' := (.int (nar .byte (0 : Int32)))) (by decide) rfl (fits_nar_byte _) (g := (mkF m 48 #[vr a1, vr a2, vi 0, vi 1, .val .null, vr b3_0] [(.int 0), (.ref a1)])) rfl rfl (B d12_48)
  have s1 := (Keep.of_wr W7).1
  have N7 := Fr.snoc X7 N4 g_a1
  have Fw7 : Fld Z h7 a1 jS "coder" "B" (.int 0) := Fl5.same W7
  have Ex8 := (Ex6.wr W7)
  have Fl9 := ((F_value_a1.keep K3 nin0).other W7 (Or.inr (slot_ne (Or.inr (w_115 hw)) (Or.inr (w_113 hw)) (by decide) (t := (.array .byte)) (t' := .byte) (by decide) (by decide))))
  obtain ⟨T10, h10, X10, e10, W10, st10⟩ := putF X7 hx hZ hown (host := "") (Or.inl (w_114 hw)) Via.refl e7 Fl9 Ex8 (Or.inr ⟨(w_115 hw), rfl, hnm⟩) (w_90 hw) (ty := (.array .byte)) (by decide) rfl rfl (g := (mkF m 54 #[vr a1, vr a2, vi 0, vi 1, .val .null, vr b3_0] [(.ref b3_0), (.ref a1)])) rfl rfl (B d12_54)
  have s2 := (Keep.of_wr W10).1
  have N10 := Fr.snoc X10 N7 g_a1
  have Fw10 : Fld Z h10 a1 jS "value" "[B" (.ref b3_0) := Fl9.same W10
  have Ex11 := (Ex8.wr W10)
  have Fl12 := (Fw7.other W10 (Or.inr (slot_ne (Or.inr (w_113 hw)) (Or.inr (w_115 hw)) (by decide) (t := .byte) (t' := (.array .byte)) (by decide) (by decide))))
  have Fl13 := (((F_hash_a1.keep K3 nin0).other W7 (Or.inr (slot_ne (Or.inl (w_149 hw)) (Or.inr (w_113 hw)) (by decide) (t := .int) (t' := .byte) (by decide) (by decide)))).other W10 (Or.inr (slot_ne (Or.inl (w_149 hw)) (Or.inr (w_115 hw)) (by decide) (t := .int) (t' := (.array .byte)) (by decide) (by decide))))
  have Fl14 := (((F_hashIsZero_a1.keep K3 nin0).other W7 (Or.inr (slot_ne (Or.inl (w_151 hw)) (Or.inr (w_113 hw)) (by decide) (t := .boolean) (t' := .byte) (by decide) (by decide)))).other W10 (Or.inr (slot_ne (Or.inl (w_151 hw)) (Or.inr (w_115 hw)) (by decide) (t := .boolean) (t' := (.array .byte)) (by decide) (by decide))))
  have sz_b3_0 : h0.size ≤ b3_0 := o3_0
  have Ex15 := ((o3_1.wr W7).wr W10)
  have ne_a1_b3_0 := Nat.ne_of_lt (Nat.lt_of_lt_of_le F_value_a1.lt o3_0)
  have Va16 := ((o3_2.other W7 (Ne.symm ne_a1_b3_0)).other W10 (Ne.symm ne_a1_b3_0))
  have Kp0 := (Keep.refl h0 [a1]).trans K3 all0
  have Kp1 := Kp0.wr W7 own_m0
  have Kp2 := Kp1.wr W10 own_m0
  refine ⟨T10, _, _, _, none, X10, (fun _ => rfl), by decide, by decide, ?_, fun fs hr => ?_⟩
  · rw [e10]
    exact ⟨b3_0, k3_1, rfl, N10, Kp2, Ex11, Fl12, Fl13, Fl14, Fw10, sz_b3_0, Ex15, Va16⟩
  · refine sA X0 hx (B d12_0) rfl rfl ?_
    refine st1 _ ?_
    refine sI X1 hx (B d12_4) rfl ?_
    refine XS.ifYes X1.here hx rfl (pc0 := 5) (pc' := 27) rfl (B d12_5) rfl ((if0 _ _).trans (feq (by decide : ¬ ((1 : Int32) = (0 : Int32)))).2) (by decide) (by decide) ?_
    refine st2 _ ?_
    refine XS.ifNo X2.here hx rfl (B d12_30) rfl ((if0 _ _).trans (feq c4).1) ?_
    refine sA X2 hx (B d12_33) rfl rfl ?_
    refine sI X2 hx (B d12_34) rfl ?_
    refine sI X2 hx (B d12_35) rfl ?_
    refine st3 _ ?_
    refine XS.astore X3.here hx rfl (B d12_39) rfl rfl (l' := #[vr a1, vr a2, vi 0, vi 1, .val .null, vr b3_0]) rfl ?_
    refine sA X3 hx (B d12_41) rfl rfl ?_
    refine sB X3 hx (B d12_42) rfl rfl ?_
    refine sI X3 hx (B d12_44) rfl ?_
    refine st4 _ ?_
    refine st7 _ ?_
    refine sA X7 hx (B d12_51) rfl rfl ?_
    refine sB X7 hx (B d12_52) rfl rfl ?_
    refine st10 _ ?_
    exact X10.returnOut hx hret (B d12_57) hr
theorem pd_6 : parseMethodDescriptor "([CIILjava/lang/Void;)V" = some ⟨[(.array .char), .int, .int, (.object "java/lang/Void")], none⟩ := by decide +kernel
theorem w_98 {a0 Z} (hw : OW a0 Z) : Jvm.Cond.before (.code y_13 jdk_42_method_149_code 6 none) a0 Z := hw _ (mo 98 rfl)
theorem w_95 {a0 Z} (hw : OW a0 Z) : Jvm.Cond.before (.methodLink "java/lang/String" 27 y_13) a0 Z := hw _ (mo 95 rfl)
theorem w_96 {a0 Z} (hw : OW a0 Z) : Jvm.Cond.before (.instanceMethod y_13) a0 Z := hw _ (mo 96 rfl)
theorem d11_9 : decode Kc11 9 = .ok (.return_, 1) := by decide +kernel
abbrev y_14 : MethodName := ⟨"java/lang/String", "<init>", "([C)V"⟩
abbrev Rm16 : Room := rmk 3 1 1 52
def Q16 (Z : State) (a1 a2 : Addr) (i3 : Int32) (ck4 : ClassId) (i5 : Int32) (h0 : Heap) (n0 : Nat) (v : Option Value) (h : Heap) (L : List Loc) : Prop := ∃ b2_0 : Addr, ∃ k2_1 : ClassId, v = none ∧ Fr n0 L ∧ Keep h0 h [a1] ∧ Exa Z h a1 jS ∧ Fld Z h a1 jS "coder" "B" (.int 0) ∧ Fld Z h a1 jS "hash" "I" (.int 0) ∧ Fld Z h a1 jS "hashIsZero" "Z" (.int 0) ∧ Fld Z h a1 jS "value" "[B" (.ref b2_0) ∧ h0.size ≤ b2_0 ∧ Exa Z h b2_0 "[B" ∧ Arv Z h b2_0 k2_1 .byte 1 [(.int (nar .byte (i3.toInt8.toInt32)))] (.int 0)
theorem rm16 (l : Launch) (Z : State) {a0 : Array Value} (hw : OW a0 Z) (a1 a2 : Addr) (i3 : Int32) (ck4 : ClassId) (i5 : Int32) (h0 : Heap) (n0 : Nat) (Z0 : n0 ≤ h0.size) (V_a2 : Arv Z h0 a2 ck4 .char 1 [(.int i3)] (.int 0)) (S_COMPACT_STRINGS : Sta Z Z.heap "java/lang/String" "COMPACT_STRINGS" "Z" (.int i5)) (Od0 : Old Z n0 h0) (c6 : ¬ (i5 = 0)) (c7 : ¬ (255 < i3)) (F_coder_a1 : Fld Z h0 a1 jS "coder" "B" (.int 0)) (E_a1 : Exa Z h0 a1 jS) (g_a1 : n0 ≤ a1) (F_value_a1 : Fld Z h0 a1 jS "value" "[B" .null) (F_hash_a1 : Fld Z h0 a1 jS "hash" "I" (.int 0)) (F_hashIsZero_a1 : Fld Z h0 a1 jS "hashIsZero" "Z" (.int 0)) :
    OwnMet l Z y_14 jdk_42_method_3_code 2 none [] Rm16 #[(.ref a1), (.ref a2)] h0 (Q16 Z a1 a2 i3 ck4 i5 h0 n0) := by
  refine own_body (plainFor_of_name pn_8) (ef_463e93 a1 a2) ?_
  intro p e s m below meth c s₁ hx hby hml hown hnm hret hZ hH hnd X0 e0
  have N0 := Fr.nil n0
  have B := hbx hby
  obtain ⟨cl1, Ar1, q1, S1, M1, Hs1, G1⟩ := id V_a2
  obtain ⟨_, T2, L2, X2, hQ2, st2⟩ := own_special X0 hx hZ hH hown (y := y_13) (a := a1) (w_95 hw) (w_96 hw) (w_91 hw) (w_98 hw) (rm15 l Z hw a1 a2 i5 i3 ck4 h0 n0 Z0 S_COMPACT_STRINGS Od0 c6 V_a2 c7 F_coder_a1 E_a1 g_a1 F_value_a1 F_hash_a1 F_hashIsZero_a1) e0 (Ls := #[vr a1, vr a2]) hml.symm (argsL := [(.ref a2), (.int 0), (.int 1), .null]) (rest := []) (lenOf pd_6 rfl) (B d11_6) (W := 0)
  obtain ⟨b2_0, k2_1, rfl, Nq2, K2, o2_0, o2_1, o2_2, o2_3, o2_4, o2_5, o2_6, o2_7⟩ := hQ2
  have N2 := Fr.app N0 Nq2
  have s0 := K2.1
  have sz_b2_0 : h0.size ≤ b2_0 := o2_5
  have Kp0 := (Keep.refl h0 [a1]).trans K2 (allS own_m0 all0)
  refine ⟨T2, _, _, _, none, X2, (fun _ => rfl), by decide, by decide, ?_, fun fs hr => ?_⟩
  · exact ⟨b2_0, k2_1, rfl, N2, Kp0, o2_0, o2_1, o2_2, o2_3, o2_4, sz_b2_0, o2_6, o2_7⟩
  · refine sA X0 hx (B d11_0) rfl rfl ?_
    refine sA X0 hx (B d11_1) rfl rfl ?_
    refine sC X0 hx (B d11_2) ?_
    refine sA X0 hx (B d11_3) rfl rfl ?_
    refine X0.arraylength hx (by rw [e0]; exact Ar1.1) (State.isArrayOf_alike hZ.alike Ar1.2.1) (g := (mkF m 4 #[vr a1, vr a2] [(.ref a2), (.int 0), (.ref a2), (.ref a1)])) rfl rfl (B d11_4) _ ?_
    show Steps p.tables e below (s₁.setTop (mkF m 5 #[vr a1, vr a2] [(.int cl1.slots.size.toInt32), (.int 0), (.ref a2), (.ref a1)])) _
    rw [len_of S1 M1]
    refine XS.aconstNull X0.here hx rfl (B d11_5) ?_
    refine st2 _ ?_
    exact X2.returnOut hx hret (B d11_9) hr
theorem pd_7 : parseMethodDescriptor "([C)V" = some ⟨[(.array .char)], none⟩ := by decide +kernel
theorem w_94 {a0 Z} (hw : OW a0 Z) : Jvm.Cond.before (.code y_14 jdk_42_method_3_code 2 none) a0 Z := hw _ (mo 94 rfl)
theorem w_92 {a0 Z} (hw : OW a0 Z) : Jvm.Cond.before (.methodLink "com/example/informal_search/informalsearch/index/PostingBufferIsEmptyPinLaw" 18 y_14) a0 Z := hw _ (mo 92 rfl)
theorem w_93 {a0 Z} (hw : OW a0 Z) : Jvm.Cond.before (.instanceMethod y_14) a0 Z := hw _ (mo 93 rfl)
abbrev Kc16 := prog_42_method_2_code
theorem d16_0 : decode Kc16 0 = .ok (.aload_n 0, 1) := by decide +kernel
theorem d16_1 : decode Kc16 1 = .ok (.getfield 18, 3) := by decide +kernel
theorem d16_4 : decode Kc16 4 = .ok (.aload_n 1, 1) := by decide +kernel
theorem d16_5 : decode Kc16 5 = .ok (.invokevirtual 22, 3) := by decide +kernel
abbrev Kc17 := prog_38_method_2_code
theorem d17_0 : decode Kc17 0 = .ok (.aload_n 0, 1) := by decide +kernel
theorem d17_1 : decode Kc17 1 = .ok (.getfield 10, 3) := by decide +kernel
theorem d17_4 : decode Kc17 4 = .ok (.aload_n 1, 1) := by decide +kernel
theorem d17_5 : decode Kc17 5 = .ok (.aload_n 0, 1) := by decide +kernel
theorem d17_6 : decode Kc17 6 = .ok (.invokedynamic 23, 5) := by decide +kernel
theorem w_129 {a0 Z} (hw : OW a0 Z) : Jvm.Cond.before (.instantiable "java/lang/Object" 0) a0 Z := hw _ (mo 129 rfl)
theorem d17_11 : decode Kc17 11 = .ok (.invokeinterface 27 3, 5) := by decide +kernel
abbrev Kc18 := jdk_69_method_35_code
theorem d18_0 : decode Kc18 0 = .ok (.aload_n 2, 1) := by decide +kernel
theorem d18_1 : decode Kc18 1 = .ok (.ifnonnull 11, 3) := by decide +kernel
theorem d18_12 : decode Kc18 12 = .ok (.aload_n 1, 1) := by decide +kernel
theorem d18_13 : decode Kc18 13 = .ok (.invokestatic 149, 3) := by decide +kernel
abbrev Kc19 := jdk_69_method_1_code
theorem d19_0 : decode Kc19 0 = .ok (.aload_n 0, 1) := by decide +kernel
theorem d19_1 : decode Kc19 1 = .ok (.ifnonnull 7, 3) := by decide +kernel
theorem d19_8 : decode Kc19 8 = .ok (.aload_n 0, 1) := by decide +kernel
theorem d19_9 : decode Kc19 9 = .ok (.invokevirtual 1, 3) := by decide +kernel
abbrev Kc20 := jdk_42_method_78_code
theorem d20_0 : decode Kc20 0 = .ok (.aload_n 0, 1) := by decide +kernel
theorem d20_1 : decode Kc20 1 = .ok (.getfield 19, 3) := by decide +kernel
theorem w_148 {a0 Z} (hw : OW a0 Z) : Jvm.Cond.before (.fieldLink "java/lang/String" 19 "java/lang/String" "hash" "I") a0 Z := hw _ (mo 148 rfl)
theorem d20_4 : decode Kc20 4 = .ok (.istore_n 1, 1) := by decide +kernel
theorem d20_5 : decode Kc20 5 = .ok (.iload_n 1, 1) := by decide +kernel
theorem d20_6 : decode Kc20 6 = .ok (.ifCond .ne 52, 3) := by decide +kernel
theorem d20_9 : decode Kc20 9 = .ok (.aload_n 0, 1) := by decide +kernel
theorem d20_10 : decode Kc20 10 = .ok (.getfield 23, 3) := by decide +kernel
theorem w_150 {a0 Z} (hw : OW a0 Z) : Jvm.Cond.before (.fieldLink "java/lang/String" 23 "java/lang/String" "hashIsZero" "Z") a0 Z := hw _ (mo 150 rfl)
theorem d20_13 : decode Kc20 13 = .ok (.ifCond .ne 45, 3) := by decide +kernel
theorem d20_16 : decode Kc20 16 = .ok (.aload_n 0, 1) := by decide +kernel
theorem d20_17 : decode Kc20 17 = .ok (.invokevirtual 492, 3) := by decide +kernel
abbrev Kc21 := jdk_42_method_154_code
theorem d21_0 : decode Kc21 0 = .ok (.getstatic 38, 3) := by decide +kernel
theorem d21_3 : decode Kc21 3 = .ok (.ifCond .eq 14, 3) := by decide +kernel
theorem d21_6 : decode Kc21 6 = .ok (.aload_n 0, 1) := by decide +kernel
theorem d21_7 : decode Kc21 7 = .ok (.getfield 15, 3) := by decide +kernel
theorem d21_10 : decode Kc21 10 = .ok (.ifCond .ne 7, 3) := by decide +kernel
theorem d21_13 : decode Kc21 13 = .ok (.iconst 1, 1) := by decide +kernel
theorem d21_14 : decode Kc21 14 = .ok (.goto 4, 3) := by decide +kernel
theorem d21_18 : decode Kc21 18 = .ok (.ireturn, 1) := by decide +kernel
abbrev y_15 : MethodName := ⟨"java/lang/String", "isLatin1", "()Z"⟩
abbrev Rm17 : Room := rmk 0 0 0 0
def Q17 (Z : State) (a1 : Addr) (i2 : Int32) (h0 : Heap) (n0 : Nat) (v : Option Value) (h : Heap) (L : List Loc) : Prop := v = some (.int 1) ∧ Fr n0 L ∧ h = h0
theorem rm17 (l : Launch) (Z : State) {a0 : Array Value} (hw : OW a0 Z) (a1 : Addr) (i2 : Int32) (h0 : Heap) (n0 : Nat) (Z0 : n0 ≤ h0.size) (S_COMPACT_STRINGS : Sta Z Z.heap "java/lang/String" "COMPACT_STRINGS" "Z" (.int i2)) (Od0 : Old Z n0 h0) (c3 : ¬ (i2 = 0)) (F_coder_a1 : Fld Z h0 a1 jS "coder" "B" (.int 0)) :
    OwnMet l Z y_15 jdk_42_method_154_code 1 (some .boolean) [] Rm17 #[(.ref a1)] h0 (Q17 Z a1 i2 h0 n0) := by
  refine own_body (plainFor_of_name pn_8) (ef_26f21a a1) ?_
  intro p e s m below meth c s₁ hx hby hml hown hnm hret hZ hH hnd X0 e0
  have N0 := Fr.nil n0
  have B := hbx hby
  obtain ⟨T1, X1, e1, st1⟩ := getS2 X0 hx hZ hown (host := "") (Or.inl (w_100 hw)) Via.refl e0 (S_COMPACT_STRINGS.ext Od0.2) (g := (mkF m 0 #[vr a1] [])) rfl (B d21_0)
  obtain ⟨T2, X2, e2, st2⟩ := getF X1 hx hZ hown (host := "") (Or.inl (w_112 hw)) Via.refl e1 F_coder_a1 (g := (mkF m 7 #[vr a1] [(.ref a1)])) rfl rfl (B d21_7)
  refine ⟨T2, _, _, _, (some (.int 1)), X2, nofun, by decide, by decide, ?_, fun fs hr => ?_⟩
  · rw [e2]
    exact ⟨rfl, N0, rfl⟩
  · refine st1 _ ?_
    refine XS.ifNo X1.here hx rfl (B d21_3) rfl ((if0 _ _).trans (feq c3).1) ?_
    refine sA X1 hx (B d21_6) rfl rfl ?_
    refine st2 _ ?_
    refine XS.ifNo X2.here hx rfl (B d21_10) rfl ((if0 _ _).trans (teq (by decide : (0 : Int32) = (0 : Int32))).2) ?_
    refine sC X2 hx (B d21_13) ?_
    refine XS.goto X2.here hx rfl (pc0 := 14) (pc' := 18) rfl (B d21_14) (by decide) (by decide) ?_
    exact retN X2 hx (t := .boolean) hret (by simp) (B d21_18) hr
theorem w_156 {a0 Z} (hw : OW a0 Z) : Jvm.Cond.before (.code y_15 jdk_42_method_154_code 1 (some .boolean)) a0 Z := hw _ (mo 156 rfl)
theorem w_152 {a0 Z} (hw : OW a0 Z) : Jvm.Cond.before (.methodLink "java/lang/String" 492 y_15) a0 Z := hw _ (mo 152 rfl)
theorem w_155 {a0 Z} (hw : OW a0 Z) : Jvm.Cond.before (.selects "java/lang/String" y_15 y_15) a0 Z := hw _ (mo 155 rfl)
theorem w_153 {a0 Z} (hw : OW a0 Z) : Jvm.Cond.before (.declares y_15) a0 Z := hw _ (mo 153 rfl)
theorem w_154 {a0 Z} (hw : OW a0 Z) : Jvm.Cond.before (.instanceMethod y_15) a0 Z := hw _ (mo 154 rfl)
theorem d20_20 : decode Kc20 20 = .ok (.ifCond .eq 13, 3) := by decide +kernel
theorem d20_23 : decode Kc20 23 = .ok (.aload_n 0, 1) := by decide +kernel
theorem d20_24 : decode Kc20 24 = .ok (.getfield 9, 3) := by decide +kernel
theorem d20_27 : decode Kc20 27 = .ok (.invokestatic 628, 3) := by decide +kernel
abbrev Kc22 := jdk_43_method_21_code
theorem d22_0 : decode Kc22 0 = .ok (.aload_n 0, 1) := by decide +kernel
theorem d22_1 : decode Kc22 1 = .ok (.arraylength, 1) := by decide +kernel
theorem d22_2 : decode Kc22 2 = .ok (.lookupswitch 40 #[(0, 26), (1, 30)], 26) := by decide +kernel
theorem d22_32 : decode Kc22 32 = .ok (.aload_n 0, 1) := by decide +kernel
theorem d22_33 : decode Kc22 33 = .ok (.iconst 0, 1) := by decide +kernel
theorem d22_34 : decode Kc22 34 = .ok (.baload, 1) := by decide +kernel
theorem d22_35 : decode Kc22 35 = .ok (.sipush 255, 3) := by decide +kernel
theorem d22_38 : decode Kc22 38 = .ok (.iand, 1) := by decide +kernel
theorem d22_39 : decode Kc22 39 = .ok (.goto 12, 3) := by decide +kernel
theorem d22_51 : decode Kc22 51 = .ok (.ireturn, 1) := by decide +kernel
abbrev y_16 : MethodName := ⟨"java/lang/StringLatin1", "hashCode", "([B)I"⟩
theorem pn_9 : plainName "java/lang/StringLatin1" = true := by first | (simp [plainName, overriddenIn]; done) | decide +kernel
abbrev Rm18 : Room := rmk 0 0 0 0
def Q18 (Z : State) (a1 : Addr) (i2 : Int32) (ck3 : ClassId) (h0 : Heap) (n0 : Nat) (v : Option Value) (h : Heap) (L : List Loc) : Prop := v = some (.int (i2 &&& (255 : Int32))) ∧ Fr n0 L ∧ h = h0
theorem rm18 (l : Launch) (Z : State) {a0 : Array Value} (hw : OW a0 Z) (a1 : Addr) (i2 : Int32) (ck3 : ClassId) (h0 : Heap) (n0 : Nat) (Z0 : n0 ≤ h0.size) (V_a1 : Arv Z h0 a1 ck3 .byte 1 [(.int i2)] (.int 0)) :
    OwnMet l Z y_16 jdk_43_method_21_code 1 (some .int) [] Rm18 #[(.ref a1)] h0 (Q18 Z a1 i2 ck3 h0 n0) := by
  refine own_body (plainFor_of_name pn_9) (ef_26f21a a1) ?_
  intro p e s m below meth c s₁ hx hby hml hown hnm hret hZ hH hnd X0 e0
  have N0 := Fr.nil n0
  have B := hbx hby
  obtain ⟨cl1, Ar1, q1, S1, M1, Hs1, G1⟩ := id V_a1
  have hin2 := inb_of (j := 0) S1 ⟨by decide, by decide⟩
  refine ⟨s₁, _, _, _, (some (.int (i2 &&& (255 : Int32)))), X0, nofun, by decide, by decide, ?_, fun fs hr => ?_⟩
  · rw [e0]
    exact ⟨rfl, N0, rfl⟩
  · refine sA X0 hx (B d22_0) rfl rfl ?_
    refine X0.arraylength hx (by rw [e0]; exact Ar1.1) (State.isArrayOf_alike hZ.alike Ar1.2.1) (g := (mkF m 1 #[vr a1] [(.ref a1)])) rfl rfl (B d22_1) _ ?_
    show Steps p.tables e below (s₁.setTop (mkF m 2 #[vr a1] [(.int cl1.slots.size.toInt32)])) _
    rw [len_of S1 M1]
    refine own_lswHit X0 hx (B d22_2) (a := 1) (off := 30) (pc' := 32) (by decide) (by decide) (by decide) (by decide) ?_
    refine sA X0 hx (B d22_32) rfl rfl ?_
    refine sC X0 hx (B d22_33) ?_
    refine X0.baloadBytes hx (j := 0) (v := (.int i2)) (by rw [e0]; exact Ar1.1) (State.isArrayOf_alike hZ.alike Ar1.2.1) Ar1.2.2 hin2 (Has.at Hs1 hin2 rfl) (g := (mkF m 34 #[vr a1] [(.int 0), (.ref a1)])) rfl rfl (B d22_34) _ ?_
    refine XS.sipush X0.here hx rfl (B d22_35) ?_
    refine XS.iand X0.here hx rfl (B d22_38) rfl ?_
    refine XS.goto X0.here hx rfl (pc0 := 39) (pc' := 51) rfl (B d22_39) (by decide) (by decide) ?_
    exact retI X0 hx hret (B d22_51) hr
theorem pd_8 : parseMethodDescriptor "([B)I" = some ⟨[(.array .byte)], some .int⟩ := by decide +kernel
theorem w_159 {a0 Z} (hw : OW a0 Z) : Jvm.Cond.before (.initialized "java/lang/StringLatin1") a0 Z := hw _ (mo 159 rfl)
theorem w_160 {a0 Z} (hw : OW a0 Z) : Jvm.Cond.before (.code y_16 jdk_43_method_21_code 1 (some .int)) a0 Z := hw _ (mo 160 rfl)
theorem w_157 {a0 Z} (hw : OW a0 Z) : Jvm.Cond.before (.methodLink "java/lang/String" 628 y_16) a0 Z := hw _ (mo 157 rfl)
theorem w_158 {a0 Z} (hw : OW a0 Z) : Jvm.Cond.before (.static y_16) a0 Z := hw _ (mo 158 rfl)
theorem d20_30 : decode Kc20 30 = .ok (.goto 10, 3) := by decide +kernel
theorem d20_40 : decode Kc20 40 = .ok (.istore_n 1, 1) := by decide +kernel
theorem d20_41 : decode Kc20 41 = .ok (.iload_n 1, 1) := by decide +kernel
theorem d20_42 : decode Kc20 42 = .ok (.ifCond .ne 11, 3) := by decide +kernel
theorem d20_45 : decode Kc20 45 = .ok (.aload_n 0, 1) := by decide +kernel
theorem d20_46 : decode Kc20 46 = .ok (.iconst 1, 1) := by decide +kernel
theorem d20_47 : decode Kc20 47 = .ok (.putfield 23, 3) := by decide +kernel
theorem d20_50 : decode Kc20 50 = .ok (.goto 8, 3) := by decide +kernel
theorem d20_58 : decode Kc20 58 = .ok (.iload_n 1, 1) := by decide +kernel
theorem d20_59 : decode Kc20 59 = .ok (.ireturn, 1) := by decide +kernel
theorem d20_53 : decode Kc20 53 = .ok (.aload_n 0, 1) := by decide +kernel
theorem d20_54 : decode Kc20 54 = .ok (.iload_n 1, 1) := by decide +kernel
theorem d20_55 : decode Kc20 55 = .ok (.putfield 19, 3) := by decide +kernel
theorem ef_692380 (a1 : Addr) (m : MethodId) : entryFrame m #[(.ref a1)] 2 = mkF m 0 #[.val (.ref a1), .unset] [] := by first | (simp [entryFrame, mkF, argsToLocals, Value.category]; done) | rfl
abbrev y_17 : MethodName := ⟨"java/lang/String", "hashCode", "()I"⟩
abbrev Rm19 : Room := rmk 1 0 0 12
def Q19 (Z : State) (a1 : Addr) (i2 : Int32) (a4 : Addr) (i5 : Int32) (ck6 : ClassId) (h0 : Heap) (n0 : Nat) (v : Option Value) (h : Heap) (L : List Loc) : Prop := v = some (.int (i5 &&& (255 : Int32))) ∧ Fr n0 L ∧ Keep h0 h [a1] ∧ Exa Z h a1 jS ∧ Fld Z h a1 jS "coder" "B" (.int 0) ∧ Fld Z h a1 jS "hash" "I" (.int (if (i5 &&& (255 : Int32)) = 0 then (0 : Int32) else (i5 &&& (255 : Int32)))) ∧ Fld Z h a1 jS "hashIsZero" "Z" (.int (if (i5 &&& (255 : Int32)) = 0 then (1 : Int32) else (0 : Int32))) ∧ Fld Z h a1 jS "value" "[B" (.ref a4)
theorem rm19 (l : Launch) (Z : State) {a0 : Array Value} (hw : OW a0 Z) (a1 : Addr) (i2 : Int32) (a4 : Addr) (i5 : Int32) (ck6 : ClassId) (h0 : Heap) (n0 : Nat) (Z0 : n0 ≤ h0.size) (F_hash_a1 : Fld Z h0 a1 jS "hash" "I" (.int 0)) (F_hashIsZero_a1 : Fld Z h0 a1 jS "hashIsZero" "Z" (.int 0)) (E_a1 : Exa Z h0 a1 jS) (S_COMPACT_STRINGS : Sta Z Z.heap "java/lang/String" "COMPACT_STRINGS" "Z" (.int i2)) (Od0 : Old Z n0 h0) (c3 : ¬ (i2 = 0)) (F_coder_a1 : Fld Z h0 a1 jS "coder" "B" (.int 0)) (F_value_a1 : Fld Z h0 a1 jS "value" "[B" (.ref a4)) (V_a4 : Arv Z h0 a4 ck6 .byte 1 [(.int i5)] (.int 0)) (g_a1 : n0 ≤ a1) :
    OwnMet l Z y_17 jdk_42_method_78_code 2 (some .int) [] Rm19 #[(.ref a1)] h0 (Q19 Z a1 i2 a4 i5 ck6 h0 n0) := by
  refine own_body (plainFor_of_name pn_8) (ef_692380 a1) ?_
  intro p e s m below meth c s₁ hx hby hml hown hnm hret hZ hH hnd X0 e0
  have N0 := Fr.nil n0
  have B := hbx hby
  obtain ⟨T1, X1, e1, st1⟩ := getF X0 hx hZ hown (host := "") (Or.inl (w_148 hw)) Via.refl e0 F_hash_a1 (g := (mkF m 1 #[vr a1, un] [(.ref a1)])) rfl rfl (B d20_1)
  obtain ⟨T2, X2, e2, st2⟩ := getF X1 hx hZ hown (host := "") (Or.inl (w_150 hw)) Via.refl e1 F_hashIsZero_a1 (g := (mkF m 10 #[vr a1, vi 0] [(.ref a1)])) rfl rfl (B d20_10)
  obtain ⟨_, T3, L3, X3, hQ3, st3⟩ := own_virtual X2 hx hZ hH hown (y := y_15) (z := y_15) E_a1 (w_152 hw) (w_153 hw) (own_nf hZ (w_155 hw)) (w_155 hw) (w_154 hw) (w_91 hw) (w_156 hw) (rm17 l Z hw a1 i2 h0 n0 Z0 S_COMPACT_STRINGS Od0 c3 F_coder_a1) e2 (Ls := #[vr a1, vi 0]) hml.symm (argsL := []) (rest := []) (lenOf pd_2 rfl) (B d20_17) (W := 0)
  obtain ⟨rfl, Nq3, e3⟩ := hQ3
  have N3 := Fr.app N0 Nq3
  obtain ⟨T4, X4, e4, st4⟩ := getF X3 hx hZ hown (host := "") (Or.inl (w_114 hw)) Via.refl e3 F_value_a1 (g := (mkF m 24 #[vr a1, vi 0] [(.ref a1)])) rfl rfl (B d20_24)
  obtain ⟨_, T5, L5, X5, hQ5, st5⟩ := own_callS X4 hx hZ hH hown (y := y_16) (w_157 hw) (w_158 hw) (w_159 hw) (w_160 hw) (rm18 l Z hw a4 i5 ck6 h0 n0 Z0 V_a4) e4 (Ls := #[vr a1, vi 0]) hml.symm (argsL := [(.ref a4)]) (rest := []) (lenOf pd_8 rfl) (B d20_27) (W := 0)
  obtain ⟨rfl, Nq5, e5⟩ := hQ5
  have N5 := Fr.app N3 Nq5
  by_cases cc1 : (i5 &&& (255 : Int32)) = 0
  · obtain ⟨T6, h6, X6, e6, W6, st6⟩ := putFN X5 hx hZ hown (w_150 hw) Via.refl e5 F_hashIsZero_a1 E_a1 (Or.inl (w_151 hw)) (w_90 hw) (ty := .boolean) (v' := (.int (nar .boolean (1 : Int32)))) (by decide) rfl (fits_nar_bool _) (g := (mkF m 47 #[vr a1, vi (i5 &&& (255 : Int32))] [(.int 1), (.ref a1)])) rfl rfl (B d20_47)
    have s0 := (Keep.of_wr W6).1
    have N6 := Fr.snoc X6 N5 g_a1
    have Fw6 : Fld Z h6 a1 jS "hashIsZero" "Z" (.int 1) := F_hashIsZero_a1.same W6
    have Ex7 := (E_a1.wr W6)
    have Fl8 := (F_coder_a1.other W6 (Or.inr (slot_ne (Or.inr (w_113 hw)) (Or.inl (w_151 hw)) (by decide) (t := .byte) (t' := .boolean) (by decide) (by decide))))
    have Fl9 := (F_hash_a1.other W6 (Or.inr (slot_ne (Or.inl (w_149 hw)) (Or.inl (w_151 hw)) (by decide) (t := .int) (t' := .boolean) (by decide) (by decide))))
    have Fl10 := (F_value_a1.other W6 (Or.inr (slot_ne (Or.inr (w_115 hw)) (Or.inl (w_151 hw)) (by decide) (t := (.array .byte)) (t' := .boolean) (by decide) (by decide))))
    have Kp0 := (Keep.refl h0 [a1]).wr W6 own_m0
    refine ⟨T6, _, _, _, (some (.int (i5 &&& (255 : Int32)))), X6, nofun, by decide, by decide, ?_, fun fs hr => ?_⟩
    · rw [e6]
      unfold Q19
      rw [show (if (i5 &&& (255 : Int32)) = 0 then (0 : Int32) else (i5 &&& (255 : Int32))) = (0 : Int32) from by rw [if_pos cc1]]
      rw [show (if (i5 &&& (255 : Int32)) = 0 then (1 : Int32) else (0 : Int32)) = (1 : Int32) from by rw [if_pos cc1]]
      exact ⟨rfl, N6, Kp0, Ex7, Fl8, Fl9, Fw6, Fl10⟩
    · refine sA X0 hx (B d20_0) rfl rfl ?_
      refine st1 _ ?_
      refine XS.istoreN X1.here hx rfl (B d20_4) rfl (l' := #[vr a1, vi 0]) rfl ?_
      refine sI X1 hx (B d20_5) rfl ?_
      refine XS.ifNo X1.here hx rfl (B d20_6) rfl ((if0 _ _).trans (teq (by decide : (0 : Int32) = (0 : Int32))).2) ?_
      refine sA X1 hx (B d20_9) rfl rfl ?_
      refine st2 _ ?_
      refine XS.ifNo X2.here hx rfl (B d20_13) rfl ((if0 _ _).trans (teq (by decide : (0 : Int32) = (0 : Int32))).2) ?_
      refine sA X2 hx (B d20_16) rfl rfl ?_
      refine st3 _ ?_
      refine XS.ifNo X3.here hx rfl (B d20_20) rfl ((if0 _ _).trans (feq (by decide : ¬ ((1 : Int32) = (0 : Int32)))).1) ?_
      refine sA X3 hx (B d20_23) rfl rfl ?_
      refine st4 _ ?_
      refine st5 _ ?_
      refine XS.goto X5.here hx rfl (pc0 := 30) (pc' := 40) rfl (B d20_30) (by decide) (by decide) ?_
      refine XS.istoreN X5.here hx rfl (B d20_40) rfl (l' := #[vr a1, vi (i5 &&& (255 : Int32))]) rfl ?_
      refine sI X5 hx (B d20_41) rfl ?_
      refine XS.ifNo X5.here hx rfl (B d20_42) rfl ((if0 _ _).trans (teq cc1).2) ?_
      refine sA X5 hx (B d20_45) rfl rfl ?_
      refine sC X5 hx (B d20_46) ?_
      refine st6 _ ?_
      refine XS.goto X6.here hx rfl (pc0 := 50) (pc' := 58) rfl (B d20_50) (by decide) (by decide) ?_
      refine sI X6 hx (B d20_58) rfl ?_
      exact retI X6 hx hret (B d20_59) hr
  · obtain ⟨T6, h6, X6, e6, W6, st6⟩ := putF X5 hx hZ hown (host := "") (Or.inl (w_148 hw)) Via.refl e5 F_hash_a1 E_a1 (Or.inl (w_149 hw)) (w_90 hw) (ty := .int) (by decide) rfl rfl (g := (mkF m 55 #[vr a1, vi (i5 &&& (255 : Int32))] [(.int (i5 &&& (255 : Int32))), (.ref a1)])) rfl rfl (B d20_55)
    have s0 := (Keep.of_wr W6).1
    have N6 := Fr.snoc X6 N5 g_a1
    have Fw6 : Fld Z h6 a1 jS "hash" "I" (.int (i5 &&& (255 : Int32))) := F_hash_a1.same W6
    have Ex7 := (E_a1.wr W6)
    have Fl8 := (F_coder_a1.other W6 (Or.inr (slot_ne (Or.inr (w_113 hw)) (Or.inl (w_149 hw)) (by decide) (t := .byte) (t' := .int) (by decide) (by decide))))
    have Fl9 := (F_hashIsZero_a1.other W6 (Or.inr (slot_ne (Or.inl (w_151 hw)) (Or.inl (w_149 hw)) (by decide) (t := .boolean) (t' := .int) (by decide) (by decide))))
    have Fl10 := (F_value_a1.other W6 (Or.inr (slot_ne (Or.inr (w_115 hw)) (Or.inl (w_149 hw)) (by decide) (t := (.array .byte)) (t' := .int) (by decide) (by decide))))
    have Kp0 := (Keep.refl h0 [a1]).wr W6 own_m0
    refine ⟨T6, _, _, _, (some (.int (i5 &&& (255 : Int32)))), X6, nofun, by decide, by decide, ?_, fun fs hr => ?_⟩
    · rw [e6]
      unfold Q19
      rw [show (if (i5 &&& (255 : Int32)) = 0 then (0 : Int32) else (i5 &&& (255 : Int32))) = (i5 &&& (255 : Int32)) from by rw [if_neg cc1]]
      rw [show (if (i5 &&& (255 : Int32)) = 0 then (1 : Int32) else (0 : Int32)) = (0 : Int32) from by rw [if_neg cc1]]
      exact ⟨rfl, N6, Kp0, Ex7, Fl8, Fw6, Fl9, Fl10⟩
    · refine sA X0 hx (B d20_0) rfl rfl ?_
      refine st1 _ ?_
      refine XS.istoreN X1.here hx rfl (B d20_4) rfl (l' := #[vr a1, vi 0]) rfl ?_
      refine sI X1 hx (B d20_5) rfl ?_
      refine XS.ifNo X1.here hx rfl (B d20_6) rfl ((if0 _ _).trans (teq (by decide : (0 : Int32) = (0 : Int32))).2) ?_
      refine sA X1 hx (B d20_9) rfl rfl ?_
      refine st2 _ ?_
      refine XS.ifNo X2.here hx rfl (B d20_13) rfl ((if0 _ _).trans (teq (by decide : (0 : Int32) = (0 : Int32))).2) ?_
      refine sA X2 hx (B d20_16) rfl rfl ?_
      refine st3 _ ?_
      refine XS.ifNo X3.here hx rfl (B d20_20) rfl ((if0 _ _).trans (feq (by decide : ¬ ((1 : Int32) = (0 : Int32)))).1) ?_
      refine sA X3 hx (B d20_23) rfl rfl ?_
      refine st4 _ ?_
      refine st5 _ ?_
      refine XS.goto X5.here hx rfl (pc0 := 30) (pc' := 40) rfl (B d20_30) (by decide) (by decide) ?_
      refine XS.istoreN X5.here hx rfl (B d20_40) rfl (l' := #[vr a1, vi (i5 &&& (255 : Int32))]) rfl ?_
      refine sI X5 hx (B d20_41) rfl ?_
      refine XS.ifYes X5.here hx rfl (pc0 := 42) (pc' := 53) rfl (B d20_42) rfl ((if0 _ _).trans (feq cc1).2) (by decide) (by decide) ?_
      refine sA X5 hx (B d20_53) rfl rfl ?_
      refine sI X5 hx (B d20_54) rfl ?_
      refine st6 _ ?_
      refine sI X6 hx (B d20_58) rfl ?_
      exact retI X6 hx hret (B d20_59) hr
theorem pd_9 : parseMethodDescriptor "()I" = some ⟨[], some .int⟩ := by decide +kernel
theorem w_147 {a0 Z} (hw : OW a0 Z) : Jvm.Cond.before (.code y_17 jdk_42_method_78_code 2 (some .int)) a0 Z := hw _ (mo 147 rfl)
abbrev y_18 : MethodName := ⟨"java/lang/Object", "hashCode", "()I"⟩
theorem w_142 {a0 Z} (hw : OW a0 Z) : Jvm.Cond.before (.methodLink "java/util/HashMap" 1 y_18) a0 Z := hw _ (mo 142 rfl)
theorem w_145 {a0 Z} (hw : OW a0 Z) : Jvm.Cond.before (.selects "java/lang/String" y_18 y_17) a0 Z := hw _ (mo 145 rfl)
theorem w_143 {a0 Z} (hw : OW a0 Z) : Jvm.Cond.before (.declares y_18) a0 Z := hw _ (mo 143 rfl)
theorem w_146 {a0 Z} (hw : OW a0 Z) : Jvm.Cond.before (.instanceMethod y_17) a0 Z := hw _ (mo 146 rfl)
theorem d19_12 : decode Kc19 12 = .ok (.dup, 1) := by decide +kernel
theorem d19_13 : decode Kc19 13 = .ok (.istore_n 1, 1) := by decide +kernel
theorem d19_14 : decode Kc19 14 = .ok (.iload_n 1, 1) := by decide +kernel
theorem d19_15 : decode Kc19 15 = .ok (.bipush 16, 2) := by decide +kernel
theorem d19_17 : decode Kc19 17 = .ok (.iushr, 1) := by decide +kernel
theorem d19_18 : decode Kc19 18 = .ok (.ixor, 1) := by decide +kernel
theorem d19_19 : decode Kc19 19 = .ok (.ireturn, 1) := by decide +kernel
abbrev y_19 : MethodName := ⟨"java/util/HashMap", "hash", "(Ljava/lang/Object;)I"⟩
abbrev Rm20 : Room := rmk 2 0 0 25
def Q20 (Z : State) (a1 : Addr) (i2 : Int32) (a4 : Addr) (i5 : Int32) (ck6 : ClassId) (h0 : Heap) (n0 : Nat) (v : Option Value) (h : Heap) (L : List Loc) : Prop := v = some (.int ((i5 &&& (255 : Int32)) ^^^ (((i5 &&& (255 : Int32)).toUInt32 >>> ((16 : Int32) &&& 31).toUInt32).toInt32))) ∧ Fr n0 L ∧ Keep h0 h [a1] ∧ Exa Z h a1 jS ∧ Fld Z h a1 jS "coder" "B" (.int 0) ∧ Fld Z h a1 jS "hash" "I" (.int (if (i5 &&& (255 : Int32)) = 0 then (0 : Int32) else (i5 &&& (255 : Int32)))) ∧ Fld Z h a1 jS "hashIsZero" "Z" (.int (if (i5 &&& (255 : Int32)) = 0 then (1 : Int32) else (0 : Int32))) ∧ Fld Z h a1 jS "value" "[B" (.ref a4)
theorem rm20 (l : Launch) (Z : State) {a0 : Array Value} (hw : OW a0 Z) (a1 : Addr) (i2 : Int32) (a4 : Addr) (i5 : Int32) (ck6 : ClassId) (h0 : Heap) (n0 : Nat) (Z0 : n0 ≤ h0.size) (E_a1 : Exa Z h0 a1 jS) (F_hash_a1 : Fld Z h0 a1 jS "hash" "I" (.int 0)) (F_hashIsZero_a1 : Fld Z h0 a1 jS "hashIsZero" "Z" (.int 0)) (S_COMPACT_STRINGS : Sta Z Z.heap "java/lang/String" "COMPACT_STRINGS" "Z" (.int i2)) (Od0 : Old Z n0 h0) (c3 : ¬ (i2 = 0)) (F_coder_a1 : Fld Z h0 a1 jS "coder" "B" (.int 0)) (F_value_a1 : Fld Z h0 a1 jS "value" "[B" (.ref a4)) (V_a4 : Arv Z h0 a4 ck6 .byte 1 [(.int i5)] (.int 0)) (g_a1 : n0 ≤ a1) :
    OwnMet l Z y_19 jdk_69_method_1_code 2 (some .int) [] Rm20 #[(.ref a1)] h0 (Q20 Z a1 i2 a4 i5 ck6 h0 n0) := by
  refine own_body (plainFor_of_name pn_1) (ef_692380 a1) ?_
  intro p e s m below meth c s₁ hx hby hml hown hnm hret hZ hH hnd X0 e0
  have N0 := Fr.nil n0
  have B := hbx hby
  obtain ⟨_, T1, L1, X1, hQ1, st1⟩ := own_virtual X0 hx hZ hH hown (y := y_18) (z := y_17) E_a1 (w_142 hw) (w_143 hw) (own_nf_inst (args := #[]) (mvT hZ (w_129 hw))) (w_145 hw) (w_146 hw) (w_91 hw) (w_147 hw) (rm19 l Z hw a1 i2 a4 i5 ck6 h0 n0 Z0 F_hash_a1 F_hashIsZero_a1 E_a1 S_COMPACT_STRINGS Od0 c3 F_coder_a1 F_value_a1 V_a4 g_a1) e0 (Ls := #[vr a1, un]) hml.symm (argsL := []) (rest := []) (lenOf pd_9 rfl) (B d19_9) (W := 0)
  obtain ⟨rfl, Nq1, K1, o1_0, o1_1, o1_2, o1_3, o1_4⟩ := hQ1
  have N1 := Fr.app N0 Nq1
  have s0 := K1.1
  obtain ⟨x2, ex2⟩ : ∃ z, z = (if (i5 &&& (255 : Int32)) = 0 then (0 : Int32) else (i5 &&& (255 : Int32))) := ⟨_, rfl⟩
  have o1_2' : Fld Z T1.heap a1 jS "hash" "I" (.int x2) := by rw [ex2]; exact o1_2
  obtain ⟨x3, ex3⟩ : ∃ z, z = (if (i5 &&& (255 : Int32)) = 0 then (1 : Int32) else (0 : Int32)) := ⟨_, rfl⟩
  have o1_3' : Fld Z T1.heap a1 jS "hashIsZero" "Z" (.int x3) := by rw [ex3]; exact o1_3
  have Kp0 := (Keep.refl h0 [a1]).trans K1 (allS own_m0 all0)
  refine ⟨T1, _, _, _, (some (.int ((i5 &&& (255 : Int32)) ^^^ (((i5 &&& (255 : Int32)).toUInt32 >>> ((16 : Int32) &&& 31).toUInt32).toInt32)))), X1, nofun, by decide, by decide, ?_, fun fs hr => ?_⟩
  · subst ex3
    subst ex2
    exact ⟨rfl, N1, Kp0, o1_0, o1_1, o1_2', o1_3', o1_4⟩
  · refine sA X0 hx (B d19_0) rfl rfl ?_
    refine XS.ifnonnullYes X0.here hx rfl (pc0 := 1) (pc' := 8) rfl (B d19_1) rfl (by decide) (by decide) ?_
    refine sA X0 hx (B d19_8) rfl rfl ?_
    refine st1 _ ?_
    refine XS.dup X1.here hx rfl (B d19_12) rfl rfl ?_
    refine XS.istoreN X1.here hx rfl (B d19_13) rfl (l' := #[vr a1, vi (i5 &&& (255 : Int32))]) rfl ?_
    refine sI X1 hx (B d19_14) rfl ?_
    refine XS.bipush X1.here hx rfl (B d19_15) ?_
    refine XS.iushr X1.here hx rfl (B d19_17) rfl ?_
    refine XS.ixor X1.here hx rfl (B d19_18) rfl ?_
    exact retI X1 hx hret (B d19_19) hr
theorem pd_10 : parseMethodDescriptor "(Ljava/lang/Object;)I" = some ⟨[(.object "java/lang/Object")], some .int⟩ := by decide +kernel
theorem w_141 {a0 Z} (hw : OW a0 Z) : Jvm.Cond.before (.code y_19 jdk_69_method_1_code 2 (some .int)) a0 Z := hw _ (mo 141 rfl)
theorem w_139 {a0 Z} (hw : OW a0 Z) : Jvm.Cond.before (.methodLink "java/util/HashMap" 149 y_19) a0 Z := hw _ (mo 139 rfl)
theorem w_140 {a0 Z} (hw : OW a0 Z) : Jvm.Cond.before (.static y_19) a0 Z := hw _ (mo 140 rfl)
theorem d18_16 : decode Kc18 16 = .ok (.istore_n 3, 1) := by decide +kernel
theorem d18_17 : decode Kc18 17 = .ok (.iconst 0, 1) := by decide +kernel
theorem d18_18 : decode Kc18 18 = .ok (.istore 8, 2) := by decide +kernel
theorem d18_20 : decode Kc18 20 = .ok (.aconst_null, 1) := by decide +kernel
theorem d18_21 : decode Kc18 21 = .ok (.astore 9, 2) := by decide +kernel
theorem d18_23 : decode Kc18 23 = .ok (.aconst_null, 1) := by decide +kernel
theorem d18_24 : decode Kc18 24 = .ok (.astore 10, 2) := by decide +kernel
theorem d18_26 : decode Kc18 26 = .ok (.aload_n 0, 1) := by decide +kernel
theorem d18_27 : decode Kc18 27 = .ok (.getfield 156, 3) := by decide +kernel
theorem w_161 {a0 Z} (hw : OW a0 Z) : Jvm.Cond.before (.fieldLink "java/util/HashMap" 156 "java/util/HashMap" "size" "I") a0 Z := hw _ (mo 161 rfl)
theorem d18_30 : decode Kc18 30 = .ok (.aload_n 0, 1) := by decide +kernel
theorem d18_31 : decode Kc18 31 = .ok (.getfield 88, 3) := by decide +kernel
theorem w_163 {a0 Z} (hw : OW a0 Z) : Jvm.Cond.before (.fieldLink "java/util/HashMap" 88 "java/util/HashMap" "threshold" "I") a0 Z := hw _ (mo 163 rfl)
theorem d18_34 : decode Kc18 34 = .ok (.if_icmp .gt 22, 3) := by decide +kernel
theorem d18_37 : decode Kc18 37 = .ok (.aload_n 0, 1) := by decide +kernel
theorem d18_38 : decode Kc18 38 = .ok (.getfield 105, 3) := by decide +kernel
theorem w_165 {a0 Z} (hw : OW a0 Z) : Jvm.Cond.before (.fieldLink "java/util/HashMap" 105 "java/util/HashMap" "table" "[Ljava/util/HashMap$Node;") a0 Z := hw _ (mo 165 rfl)
theorem d18_41 : decode Kc18 41 = .ok (.dup, 1) := by decide +kernel
theorem d18_42 : decode Kc18 42 = .ok (.astore 4, 2) := by decide +kernel
theorem d18_44 : decode Kc18 44 = .ok (.ifnull 12, 3) := by decide +kernel
theorem d18_56 : decode Kc18 56 = .ok (.aload_n 0, 1) := by decide +kernel
theorem d18_57 : decode Kc18 57 = .ok (.invokevirtual 117, 3) := by decide +kernel
abbrev Kc23 := jdk_69_method_17_code
theorem d23_0 : decode Kc23 0 = .ok (.aload_n 0, 1) := by decide +kernel
theorem d23_1 : decode Kc23 1 = .ok (.getfield 105, 3) := by decide +kernel
theorem d23_4 : decode Kc23 4 = .ok (.astore_n 1, 1) := by decide +kernel
theorem d23_5 : decode Kc23 5 = .ok (.aload_n 1, 1) := by decide +kernel
theorem d23_6 : decode Kc23 6 = .ok (.ifnonnull 7, 3) := by decide +kernel
theorem d23_9 : decode Kc23 9 = .ok (.iconst 0, 1) := by decide +kernel
theorem d23_10 : decode Kc23 10 = .ok (.goto 5, 3) := by decide +kernel
theorem d23_15 : decode Kc23 15 = .ok (.istore_n 2, 1) := by decide +kernel
theorem d23_16 : decode Kc23 16 = .ok (.aload_n 0, 1) := by decide +kernel
theorem d23_17 : decode Kc23 17 = .ok (.getfield 88, 3) := by decide +kernel
theorem d23_20 : decode Kc23 20 = .ok (.istore_n 3, 1) := by decide +kernel
theorem d23_21 : decode Kc23 21 = .ok (.iconst 0, 1) := by decide +kernel
theorem d23_22 : decode Kc23 22 = .ok (.istore 5, 2) := by decide +kernel
theorem d23_24 : decode Kc23 24 = .ok (.iload_n 2, 1) := by decide +kernel
theorem d23_25 : decode Kc23 25 = .ok (.ifCond .le 42, 3) := by decide +kernel
theorem d23_67 : decode Kc23 67 = .ok (.iload_n 3, 1) := by decide +kernel
theorem d23_68 : decode Kc23 68 = .ok (.ifCond .le 9, 3) := by decide +kernel
theorem d23_77 : decode Kc23 77 = .ok (.bipush 16, 2) := by decide +kernel
theorem d23_79 : decode Kc23 79 = .ok (.istore 4, 2) := by decide +kernel
theorem d23_81 : decode Kc23 81 = .ok (.bipush 12, 2) := by decide +kernel
theorem d23_83 : decode Kc23 83 = .ok (.istore 5, 2) := by decide +kernel
theorem d23_85 : decode Kc23 85 = .ok (.iload 5, 2) := by decide +kernel
theorem d23_87 : decode Kc23 87 = .ok (.ifCond .ne 38, 3) := by decide +kernel
theorem d23_125 : decode Kc23 125 = .ok (.aload_n 0, 1) := by decide +kernel
theorem d23_126 : decode Kc23 126 = .ok (.iload 5, 2) := by decide +kernel
theorem d23_128 : decode Kc23 128 = .ok (.putfield 88, 3) := by decide +kernel
theorem d23_131 : decode Kc23 131 = .ok (.iload 4, 2) := by decide +kernel
theorem d23_133 : decode Kc23 133 = .ok (.anewarray 163, 3) := by decide +kernel
theorem w_173 {a0 Z} (hw : OW a0 Z) : Jvm.Cond.before (.arrayOver (.object "java/util/HashMap$Node")) a0 Z := hw _ (mo 173 rfl)
theorem w_172 {a0 Z} (hw : OW a0 Z) : Jvm.Cond.before (.classLink "java/util/HashMap" 163 "java/util/HashMap$Node") a0 Z := hw _ (mo 172 rfl)
theorem d23_136 : decode Kc23 136 = .ok (.astore 6, 2) := by decide +kernel
theorem d23_138 : decode Kc23 138 = .ok (.aload_n 0, 1) := by decide +kernel
theorem d23_139 : decode Kc23 139 = .ok (.aload 6, 2) := by decide +kernel
theorem d23_141 : decode Kc23 141 = .ok (.putfield 105, 3) := by decide +kernel
theorem d23_144 : decode Kc23 144 = .ok (.aload_n 1, 1) := by decide +kernel
theorem d23_145 : decode Kc23 145 = .ok (.ifnull 208, 3) := by decide +kernel
theorem d23_353 : decode Kc23 353 = .ok (.aload 6, 2) := by decide +kernel
theorem d23_355 : decode Kc23 355 = .ok (.areturn, 1) := by decide +kernel
theorem ef_7cdb53 (a1 : Addr) (m : MethodId) : entryFrame m #[(.ref a1)] 14 = mkF m 0 #[.val (.ref a1), .unset, .unset, .unset, .unset, .unset, .unset, .unset, .unset, .unset, .unset, .unset, .unset, .unset] [] := by first | (simp [entryFrame, mkF, argsToLocals, Value.category]; done) | rfl
abbrev y_20 : MethodName := ⟨"java/util/HashMap", "resize", "()[Ljava/util/HashMap$Node;"⟩
abbrev Rm21 : Room := rmk 0 1 16 0
def Q21 (Z : State) (a1 : Addr) (h0 : Heap) (n0 : Nat) (v : Option Value) (h : Heap) (L : List Loc) : Prop := ∃ b4 : Addr, ∃ k4 : ClassId, v = some (.ref b4) ∧ Fr n0 L ∧ Keep h0 h [a1] ∧ Exa Z h a1 "java/util/HashMap" ∧ Fld Z h a1 "java/util/HashMap" "loadFactor" "F" (.float 1061158912) ∧ Fld Z h a1 "java/util/HashMap" "modCount" "I" (.int 0) ∧ Fld Z h a1 "java/util/HashMap" "size" "I" (.int 0) ∧ Fld Z h a1 "java/util/HashMap" "table" "[Ljava/util/HashMap$Node;" (.ref b4) ∧ Fld Z h a1 "java/util/HashMap" "threshold" "I" (.int 12) ∧ h0.size ≤ b4 ∧ Exa Z h b4 "[Ljava/util/HashMap$Node;" ∧ Ovr Z k4 "java/util/HashMap$Node" ∧ Arv Z h b4 k4 (.object "java/util/HashMap$Node") 16 [.null, .null, .null, .null, .null, .null, .null, .null, .null, .null, .null, .null, .null, .null, .null, .null] .null
theorem rm21 (l : Launch) (Z : State) {a0 : Array Value} (hw : OW a0 Z) (a1 : Addr) (h0 : Heap) (n0 : Nat) (Z0 : n0 ≤ h0.size) (F_table_a1 : Fld Z h0 a1 "java/util/HashMap" "table" "[Ljava/util/HashMap$Node;" .null) (F_threshold_a1 : Fld Z h0 a1 "java/util/HashMap" "threshold" "I" (.int 0)) (E_a1 : Exa Z h0 a1 "java/util/HashMap") (g_a1 : n0 ≤ a1) (F_loadFactor_a1 : Fld Z h0 a1 "java/util/HashMap" "loadFactor" "F" (.float 1061158912)) (F_modCount_a1 : Fld Z h0 a1 "java/util/HashMap" "modCount" "I" (.int 0)) (F_size_a1 : Fld Z h0 a1 "java/util/HashMap" "size" "I" (.int 0)) :
    OwnMet l Z y_20 jdk_69_method_17_code 14 (some (.array (.object "java/util/HashMap$Node"))) [] Rm21 #[(.ref a1)] h0 (Q21 Z a1 h0 n0) := by
  refine own_body (plainFor_of_name pn_1) (ef_7cdb53 a1) ?_
  intro p e s m below meth c s₁ hx hby hml hown hnm hret hZ hH hnd X0 e0
  have N0 := Fr.nil n0
  have B := hbx hby
  obtain ⟨T1, X1, e1, st1⟩ := getF X0 hx hZ hown (host := "") (Or.inl (w_165 hw)) Via.refl e0 F_table_a1 (g := (mkF m 1 #[vr a1, un, un, un, un, un, un, un, un, un, un, un, un, un] [(.ref a1)])) rfl rfl (B d23_1)
  obtain ⟨T2, X2, e2, st2⟩ := getF X1 hx hZ hown (host := "") (Or.inl (w_163 hw)) Via.refl e1 F_threshold_a1 (g := (mkF m 17 #[vr a1, .val .null, vi 0, un, un, un, un, un, un, un, un, un, un, un] [(.ref a1)])) rfl rfl (B d23_17)
  obtain ⟨T3, h3, X3, e3, W3, st3⟩ := putF X2 hx hZ hown (host := "") (Or.inl (w_163 hw)) Via.refl e2 F_threshold_a1 E_a1 (Or.inl (w_164 hw)) (w_24 hw) (ty := .int) (by decide) rfl rfl (g := (mkF m 128 #[vr a1, .val .null, vi 0, vi 0, vi 16, vi 12, un, un, un, un, un, un, un, un] [(.int 12), (.ref a1)])) rfl rfl (B d23_128)
  have s0 := (Keep.of_wr W3).1
  have N3 := Fr.snoc X3 N0 g_a1
  have Fw3 : Fld Z h3 a1 "java/util/HashMap" "threshold" "I" (.int 12) := F_threshold_a1.same W3
  obtain ⟨T4, h4, k4, X4, e4, E4, A4, B4, O4, st4⟩ := newRE X3 hx hZ hown (w_172 hw) (w_173 hw) e3 (g := (mkF m 133 #[vr a1, .val .null, vi 0, vi 0, vi 16, vi 12, un, un, un, un, un, un, un, un] [(.int 16)])) rfl (B d23_133) rfl (by decide) (cap := 16) (by decide) (by decide) (by decide) (by decide) (ad := "[Ljava/util/HashMap$Node;") (by decide)
  obtain ⟨b4, g4⟩ : ∃ z, z = h3.size := ⟨_, rfl⟩
  rw [← g4] at A4 B4 st4
  have s1 := E4.1
  have Vn4 : Arv Z h4 b4 k4 (.object "java/util/HashMap$Node") 16 [.null, .null, .null, .null, .null, .null, .null, .null, .null, .null, .null, .null, .null, .null, .null, .null] .null := (Arv.new A4 (by decide)).pad (pad_rep [] .null 16)
  have Ex5 := ((E_a1.wr W3).ext E4)
  have Fl6 := ((F_table_a1.other W3 (Or.inr (slot_ne (Or.inl (w_166 hw)) (Or.inl (w_164 hw)) (by decide) (t := (.array (.object "java/util/HashMap$Node"))) (t' := .int) (by decide) (by decide)))).ext E4)
  obtain ⟨T7, h7, X7, e7, W7, st7⟩ := putF X4 hx hZ hown (host := "") (Or.inl (w_165 hw)) Via.refl e4 Fl6 Ex5 (Or.inl (w_166 hw)) (w_24 hw) (ty := (.array (.object "java/util/HashMap$Node"))) (by decide) rfl rfl (g := (mkF m 141 #[vr a1, .val .null, vi 0, vi 0, vi 16, vi 12, vr b4, un, un, un, un, un, un, un] [(.ref b4), (.ref a1)])) rfl rfl (B d23_141)
  have s2 := (Keep.of_wr W7).1
  have N7 := Fr.snoc X7 N3 g_a1
  have Fw7 : Fld Z h7 a1 "java/util/HashMap" "table" "[Ljava/util/HashMap$Node;" (.ref b4) := Fl6.same W7
  have Ex8 := (Ex5.wr W7)
  have Fl9 := (((F_loadFactor_a1.other W3 (Or.inr (slot_ne (Or.inr (w_38 hw)) (Or.inl (w_164 hw)) (by decide) (t := .float) (t' := .int) (by decide) (by decide)))).ext E4).other W7 (Or.inr (slot_ne (Or.inr (w_38 hw)) (Or.inl (w_166 hw)) (by decide) (t := .float) (t' := (.array (.object "java/util/HashMap$Node"))) (by decide) (by decide))))
  have Fl10 := (((F_modCount_a1.other W3 (Or.inr (slot_ne (Or.inl (w_175 hw)) (Or.inl (w_164 hw)) (by decide) (t := .int) (t' := .int) (by decide) (by decide)))).ext E4).other W7 (Or.inr (slot_ne (Or.inl (w_175 hw)) (Or.inl (w_166 hw)) (by decide) (t := .int) (t' := (.array (.object "java/util/HashMap$Node"))) (by decide) (by decide))))
  have Fl11 := (((F_size_a1.other W3 (Or.inr (slot_ne (Or.inl (w_162 hw)) (Or.inl (w_164 hw)) (by decide) (t := .int) (t' := .int) (by decide) (by decide)))).ext E4).other W7 (Or.inr (slot_ne (Or.inl (w_162 hw)) (Or.inl (w_166 hw)) (by decide) (t := .int) (t' := (.array (.object "java/util/HashMap$Node"))) (by decide) (by decide))))
  have Fl12 := ((Fw3.ext E4).other W7 (Or.inr (slot_ne (Or.inl (w_164 hw)) (Or.inl (w_166 hw)) (by decide) (t := .int) (t' := (.array (.object "java/util/HashMap$Node"))) (by decide) (by decide))))
  have sz_b4 : h0.size ≤ b4 := Nat.le_trans s0 (Nat.le_of_eq g4.symm)
  have Ex13 := (B4.wr W7)
  have ne_a1_b4 := Nat.ne_of_lt (Nat.lt_of_lt_of_le Fw3.lt (Nat.le_of_eq g4.symm))
  have Va14 := (Vn4.other W7 (Ne.symm ne_a1_b4))
  have Kp0 := (Keep.refl h0 [a1]).wr W3 own_m0
  have Kp1 := Kp0.ext E4
  have Kp2 := Kp1.wr W7 own_m0
  refine ⟨T7, _, _, _, (some (.ref b4)), X7, nofun, by decide, by decide, ?_, fun fs hr => ?_⟩
  · rw [e7]
    exact ⟨b4, k4, rfl, N7, Kp2, Ex8, Fl9, Fl10, Fl11, Fw7, Fl12, sz_b4, Ex13, O4, Va14⟩
  · refine sA X0 hx (B d23_0) rfl rfl ?_
    refine st1 _ ?_
    refine XS.astoreN X1.here hx rfl (B d23_4) rfl rfl (l' := #[vr a1, .val .null, un, un, un, un, un, un, un, un, un, un, un, un]) rfl ?_
    refine sA X1 hx (B d23_5) rfl rfl ?_
    refine XS.ifnonnullNo X1.here hx rfl (B d23_6) rfl ?_
    refine sC X1 hx (B d23_9) ?_
    refine XS.goto X1.here hx rfl (pc0 := 10) (pc' := 15) rfl (B d23_10) (by decide) (by decide) ?_
    refine XS.istoreN X1.here hx rfl (B d23_15) rfl (l' := #[vr a1, .val .null, vi 0, un, un, un, un, un, un, un, un, un, un, un]) rfl ?_
    refine sA X1 hx (B d23_16) rfl rfl ?_
    refine st2 _ ?_
    refine XS.istoreN X2.here hx rfl (B d23_20) rfl (l' := #[vr a1, .val .null, vi 0, vi 0, un, un, un, un, un, un, un, un, un, un]) rfl ?_
    refine sC X2 hx (B d23_21) ?_
    refine XS.istore X2.here hx rfl (B d23_22) rfl (l' := #[vr a1, .val .null, vi 0, vi 0, un, vi 0, un, un, un, un, un, un, un, un]) rfl ?_
    refine sI X2 hx (B d23_24) rfl ?_
    refine XS.ifYes X2.here hx rfl (pc0 := 25) (pc' := 67) rfl (B d23_25) rfl ((if0 _ _).trans (flt (by decide : ¬ ((0 : Int32) < (0 : Int32)))).2.2.2) (by decide) (by decide) ?_
    refine sI X2 hx (B d23_67) rfl ?_
    refine XS.ifYes X2.here hx rfl (pc0 := 68) (pc' := 77) rfl (B d23_68) rfl ((if0 _ _).trans (flt (by decide : ¬ ((0 : Int32) < (0 : Int32)))).2.2.2) (by decide) (by decide) ?_
    refine XS.bipush X2.here hx rfl (B d23_77) ?_
    refine XS.istore X2.here hx rfl (B d23_79) rfl (l' := #[vr a1, .val .null, vi 0, vi 0, vi 16, vi 0, un, un, un, un, un, un, un, un]) rfl ?_
    refine XS.bipush X2.here hx rfl (B d23_81) ?_
    refine XS.istore X2.here hx rfl (B d23_83) rfl (l' := #[vr a1, .val .null, vi 0, vi 0, vi 16, vi 12, un, un, un, un, un, un, un, un]) rfl ?_
    refine sJ X2 hx (B d23_85) rfl ?_
    refine XS.ifYes X2.here hx rfl (pc0 := 87) (pc' := 125) rfl (B d23_87) rfl ((if0 _ _).trans (feq (by decide : ¬ ((12 : Int32) = (0 : Int32)))).2) (by decide) (by decide) ?_
    refine sA X2 hx (B d23_125) rfl rfl ?_
    refine sJ X2 hx (B d23_126) rfl ?_
    refine st3 _ ?_
    refine sJ X3 hx (B d23_131) rfl ?_
    refine st4 _ ?_
    refine XS.astore X4.here hx rfl (B d23_136) rfl rfl (l' := #[vr a1, .val .null, vi 0, vi 0, vi 16, vi 12, vr b4, un, un, un, un, un, un, un]) rfl ?_
    refine sA X4 hx (B d23_138) rfl rfl ?_
    refine sB X4 hx (B d23_139) rfl rfl ?_
    refine st7 _ ?_
    refine sA X7 hx (B d23_144) rfl rfl ?_
    refine XS.ifnullYes X7.here hx rfl (pc0 := 145) (pc' := 353) rfl (B d23_145) rfl (by decide) (by decide) ?_
    refine sB X7 hx (B d23_353) rfl rfl ?_
    exact retOut X7 hx hret rfl (Or.inr (Or.inr (Or.inr (Or.inr ⟨rfl, rfl, rfl⟩)))) (B d23_355) hr
theorem pd_11 : parseMethodDescriptor "()[Ljava/util/HashMap$Node;" = some ⟨[], some (.array (.object "java/util/HashMap$Node"))⟩ := by decide +kernel
theorem w_171 {a0 Z} (hw : OW a0 Z) : Jvm.Cond.before (.code y_20 jdk_69_method_17_code 14 (some (.array (.object "java/util/HashMap$Node")))) a0 Z := hw _ (mo 171 rfl)
theorem w_167 {a0 Z} (hw : OW a0 Z) : Jvm.Cond.before (.methodLink "java/util/HashMap" 117 y_20) a0 Z := hw _ (mo 167 rfl)
theorem w_170 {a0 Z} (hw : OW a0 Z) : Jvm.Cond.before (.selects "java/util/HashMap" y_20 y_20) a0 Z := hw _ (mo 170 rfl)
theorem w_168 {a0 Z} (hw : OW a0 Z) : Jvm.Cond.before (.declares y_20) a0 Z := hw _ (mo 168 rfl)
theorem w_169 {a0 Z} (hw : OW a0 Z) : Jvm.Cond.before (.instanceMethod y_20) a0 Z := hw _ (mo 169 rfl)
theorem d18_60 : decode Kc18 60 = .ok (.dup, 1) := by decide +kernel
theorem d18_61 : decode Kc18 61 = .ok (.astore 4, 2) := by decide +kernel
theorem d18_63 : decode Kc18 63 = .ok (.arraylength, 1) := by decide +kernel
theorem d18_64 : decode Kc18 64 = .ok (.istore 6, 2) := by decide +kernel
theorem d18_66 : decode Kc18 66 = .ok (.aload 4, 2) := by decide +kernel
theorem d18_68 : decode Kc18 68 = .ok (.iload 6, 2) := by decide +kernel
theorem d18_70 : decode Kc18 70 = .ok (.iconst 1, 1) := by decide +kernel
theorem d18_71 : decode Kc18 71 = .ok (.isub, 1) := by decide +kernel
theorem d18_72 : decode Kc18 72 = .ok (.iload_n 3, 1) := by decide +kernel
theorem d18_73 : decode Kc18 73 = .ok (.iand, 1) := by decide +kernel
theorem d18_74 : decode Kc18 74 = .ok (.dup, 1) := by decide +kernel
theorem d18_75 : decode Kc18 75 = .ok (.istore 7, 2) := by decide +kernel
theorem d18_77 : decode Kc18 77 = .ok (.aaload, 1) := by decide +kernel
theorem d18_78 : decode Kc18 78 = .ok (.dup, 1) := by decide +kernel
theorem d18_79 : decode Kc18 79 = .ok (.astore 5, 2) := by decide +kernel
theorem d18_81 : decode Kc18 81 = .ok (.ifnull 113, 3) := by decide +kernel
theorem d18_194 : decode Kc18 194 = .ok (.aload_n 0, 1) := by decide +kernel
theorem d18_195 : decode Kc18 195 = .ok (.getfield 202, 3) := by decide +kernel
theorem w_174 {a0 Z} (hw : OW a0 Z) : Jvm.Cond.before (.fieldLink "java/util/HashMap" 202 "java/util/HashMap" "modCount" "I") a0 Z := hw _ (mo 174 rfl)
theorem d18_198 : decode Kc18 198 = .ok (.istore 11, 2) := by decide +kernel
theorem d18_200 : decode Kc18 200 = .ok (.aload_n 2, 1) := by decide +kernel
theorem d18_201 : decode Kc18 201 = .ok (.aload_n 1, 1) := by decide +kernel
theorem d18_202 : decode Kc18 202 = .ok (.invokeinterface 274 2, 5) := by decide +kernel
abbrev Kc24 := prog_38_method_8_code
theorem d24_0 : decode Kc24 0 = .ok (.aload_n 0, 1) := by decide +kernel
theorem d24_1 : decode Kc24 1 = .ok (.getfield 19, 3) := by decide +kernel
theorem d24_4 : decode Kc24 4 = .ok (.aload_n 1, 1) := by decide +kernel
theorem d24_5 : decode Kc24 5 = .ok (.invokeinterface 90 2, 5) := by decide +kernel
abbrev Kc25 := jdk_38_method_25_code
theorem d25_0 : decode Kc25 0 = .ok (.aload_n 0, 1) := by decide +kernel
theorem d25_1 : decode Kc25 1 = .ok (.dup, 1) := by decide +kernel
theorem d25_2 : decode Kc25 2 = .ok (.getfield 63, 3) := by decide +kernel
theorem w_192 {a0 Z} (hw : OW a0 Z) : Jvm.Cond.before (.sameField "java/util/ArrayList" "java/util/AbstractList" "modCount" "I") a0 Z := hw _ (mo 192 rfl)
theorem w_191 {a0 Z} (hw : OW a0 Z) : Jvm.Cond.before (.fieldLink "java/util/ArrayList" 63 "java/util/ArrayList" "modCount" "I") a0 Z := hw _ (mo 191 rfl)
theorem d25_5 : decode Kc25 5 = .ok (.iconst 1, 1) := by decide +kernel
theorem d25_6 : decode Kc25 6 = .ok (.iadd, 1) := by decide +kernel
theorem d25_7 : decode Kc25 7 = .ok (.putfield 63, 3) := by decide +kernel
theorem d25_10 : decode Kc25 10 = .ok (.aload_n 0, 1) := by decide +kernel
theorem d25_11 : decode Kc25 11 = .ok (.aload_n 1, 1) := by decide +kernel
theorem d25_12 : decode Kc25 12 = .ok (.aload_n 0, 1) := by decide +kernel
theorem d25_13 : decode Kc25 13 = .ok (.getfield 9, 3) := by decide +kernel
theorem d25_16 : decode Kc25 16 = .ok (.aload_n 0, 1) := by decide +kernel
theorem d25_17 : decode Kc25 17 = .ok (.getfield 48, 3) := by decide +kernel
theorem w_193 {a0 Z} (hw : OW a0 Z) : Jvm.Cond.before (.fieldLink "java/util/ArrayList" 48 "java/util/ArrayList" "size" "I") a0 Z := hw _ (mo 193 rfl)
theorem d25_20 : decode Kc25 20 = .ok (.invokevirtual 131, 3) := by decide +kernel
abbrev Kc26 := jdk_38_method_24_code
theorem d26_0 : decode Kc26 0 = .ok (.iload_n 3, 1) := by decide +kernel
theorem d26_1 : decode Kc26 1 = .ok (.aload_n 2, 1) := by decide +kernel
theorem d26_2 : decode Kc26 2 = .ok (.arraylength, 1) := by decide +kernel
theorem d26_3 : decode Kc26 3 = .ok (.if_icmp .ne 8, 3) := by decide +kernel
theorem d26_6 : decode Kc26 6 = .ok (.aload_n 0, 1) := by decide +kernel
theorem d26_7 : decode Kc26 7 = .ok (.invokevirtual 129, 3) := by decide +kernel
abbrev Kc27 := jdk_38_method_7_code
theorem d27_0 : decode Kc27 0 = .ok (.aload_n 0, 1) := by decide +kernel
theorem d27_1 : decode Kc27 1 = .ok (.aload_n 0, 1) := by decide +kernel
theorem d27_2 : decode Kc27 2 = .ok (.getfield 48, 3) := by decide +kernel
theorem d27_5 : decode Kc27 5 = .ok (.iconst 1, 1) := by decide +kernel
theorem d27_6 : decode Kc27 6 = .ok (.iadd, 1) := by decide +kernel
theorem d27_7 : decode Kc27 7 = .ok (.invokevirtual 69, 3) := by decide +kernel
abbrev Kc28 := jdk_38_method_6_code
theorem d28_0 : decode Kc28 0 = .ok (.aload_n 0, 1) := by decide +kernel
theorem d28_1 : decode Kc28 1 = .ok (.getfield 9, 3) := by decide +kernel
theorem d28_4 : decode Kc28 4 = .ok (.arraylength, 1) := by decide +kernel
theorem d28_5 : decode Kc28 5 = .ok (.istore_n 2, 1) := by decide +kernel
theorem d28_6 : decode Kc28 6 = .ok (.iload_n 2, 1) := by decide +kernel
theorem d28_7 : decode Kc28 7 = .ok (.ifCond .gt 13, 3) := by decide +kernel
theorem d28_10 : decode Kc28 10 = .ok (.aload_n 0, 1) := by decide +kernel
theorem d28_11 : decode Kc28 11 = .ok (.getfield 9, 3) := by decide +kernel
theorem d28_14 : decode Kc28 14 = .ok (.getstatic 39, 3) := by decide +kernel
theorem d28_17 : decode Kc28 17 = .ok (.if_acmp .eq 28, 3) := by decide +kernel
theorem d28_45 : decode Kc28 45 = .ok (.aload_n 0, 1) := by decide +kernel
theorem d28_46 : decode Kc28 46 = .ok (.bipush 10, 2) := by decide +kernel
theorem d28_48 : decode Kc28 48 = .ok (.iload_n 1, 1) := by decide +kernel
theorem d28_49 : decode Kc28 49 = .ok (.invokestatic 79, 3) := by decide +kernel
abbrev Kc29 := jdk_29_method_65_code
theorem d29_0 : decode Kc29 0 = .ok (.iload_n 0, 1) := by decide +kernel
theorem d29_1 : decode Kc29 1 = .ok (.iload_n 1, 1) := by decide +kernel
theorem d29_2 : decode Kc29 2 = .ok (.if_icmp .lt 7, 3) := by decide +kernel
theorem d29_5 : decode Kc29 5 = .ok (.iload_n 0, 1) := by decide +kernel
theorem d29_6 : decode Kc29 6 = .ok (.goto 4, 3) := by decide +kernel
theorem d29_10 : decode Kc29 10 = .ok (.ireturn, 1) := by decide +kernel
theorem ef_b55351  (m : MethodId) : entryFrame m #[(.int 10), (.int 1)] 2 = mkF m 0 #[.val (.int 10), .val (.int 1)] [] := by first | (simp [entryFrame, mkF, argsToLocals, Value.category]; done) | rfl
abbrev y_21 : MethodName := ⟨"java/lang/Math", "max", "(II)I"⟩
abbrev Rm22 : Room := rmk 0 0 0 0
def Q22 (Z : State)  (h0 : Heap) (n0 : Nat) (v : Option Value) (h : Heap) (L : List Loc) : Prop := v = some (.int 10) ∧ Fr n0 L ∧ h = h0
theorem rm22 (l : Launch) (Z : State) {a0 : Array Value} (hw : OW a0 Z)  (h0 : Heap) (n0 : Nat) (Z0 : n0 ≤ h0.size) :
    OwnMet l Z y_21 jdk_29_method_65_code 2 (some .int) [] Rm22 #[(.int 10), (.int 1)] h0 (Q22 Z  h0 n0) := by
  refine own_body (Jvm.Free.JP.mathPlain rfl (by decide +kernel)) (ef_b55351) ?_
  intro p e s m below meth c s₁ hx hby hml hown hnm hret hZ hH hnd X0 e0
  have N0 := Fr.nil n0
  have B := hbx hby
  refine ⟨s₁, _, _, _, (some (.int 10)), X0, nofun, by decide, by decide, ?_, fun fs hr => ?_⟩
  · rw [e0]
    exact ⟨rfl, N0, rfl⟩
  · refine sI X0 hx (B d29_0) rfl ?_
    refine sI X0 hx (B d29_1) rfl ?_
    refine XS.icmpNo X0.here hx rfl (B d29_2) rfl (flt (by decide : ¬ ((10 : Int32) < (1 : Int32)))).1 ?_
    refine sI X0 hx (B d29_5) rfl ?_
    refine XS.goto X0.here hx rfl (pc0 := 6) (pc' := 10) rfl (B d29_6) (by decide) (by decide) ?_
    exact retI X0 hx hret (B d29_10) hr
theorem pd_12 : parseMethodDescriptor "(II)I" = some ⟨[.int, .int], some .int⟩ := by decide +kernel
theorem w_212 {a0 Z} (hw : OW a0 Z) : Jvm.Cond.before (.initialized "java/lang/Math") a0 Z := hw _ (mo 212 rfl)
theorem w_213 {a0 Z} (hw : OW a0 Z) : Jvm.Cond.before (.code y_21 jdk_29_method_65_code 2 (some .int)) a0 Z := hw _ (mo 213 rfl)
theorem w_210 {a0 Z} (hw : OW a0 Z) : Jvm.Cond.before (.methodLink "java/util/ArrayList" 79 y_21) a0 Z := hw _ (mo 210 rfl)
theorem w_211 {a0 Z} (hw : OW a0 Z) : Jvm.Cond.before (.static y_21) a0 Z := hw _ (mo 211 rfl)
theorem d28_52 : decode Kc28 52 = .ok (.anewarray 7, 3) := by decide +kernel
theorem w_215 {a0 Z} (hw : OW a0 Z) : Jvm.Cond.before (.arrayOver (.object "java/lang/Object")) a0 Z := hw _ (mo 215 rfl)
theorem w_214 {a0 Z} (hw : OW a0 Z) : Jvm.Cond.before (.classLink "java/util/ArrayList" 7 "java/lang/Object") a0 Z := hw _ (mo 214 rfl)
theorem d28_55 : decode Kc28 55 = .ok (.dup_x1, 1) := by decide +kernel
theorem d28_56 : decode Kc28 56 = .ok (.putfield 9, 3) := by decide +kernel
theorem d28_59 : decode Kc28 59 = .ok (.areturn, 1) := by decide +kernel
theorem ef_761aa3 (a1 : Addr) (m : MethodId) : entryFrame m #[(.ref a1), (.int 1)] 4 = mkF m 0 #[.val (.ref a1), .val (.int 1), .unset, .unset] [] := by first | (simp [entryFrame, mkF, argsToLocals, Value.category]; done) | rfl
abbrev y_22 : MethodName := ⟨"java/util/ArrayList", "grow", "(I)[Ljava/lang/Object;"⟩
abbrev Rm23 : Room := rmk 1 1 10 14
def Q23 (Z : State) (a1 a2 : Addr) (ck3 : ClassId) (h0 : Heap) (n0 : Nat) (v : Option Value) (h : Heap) (L : List Loc) : Prop := ∃ b6 : Addr, ∃ k6 : ClassId, v = some (.ref b6) ∧ Fr n0 L ∧ Keep h0 h [a1] ∧ Exa Z h a1 "java/util/ArrayList" ∧ Fld Z h a1 "java/util/AbstractList" "modCount" "I" (.int 1) ∧ Fld Z h a1 "java/util/ArrayList" "elementData" "[Ljava/lang/Object;" (.ref b6) ∧ Fld Z h a1 "java/util/ArrayList" "size" "I" (.int 0) ∧ h0.size ≤ b6 ∧ Exa Z h b6 "[Ljava/lang/Object;" ∧ Ovr Z k6 "java/lang/Object" ∧ Arv Z h b6 k6 (.object "java/lang/Object") 10 [.null, .null, .null, .null, .null, .null, .null, .null, .null, .null] .null
theorem rm23 (l : Launch) (Z : State) {a0 : Array Value} (hw : OW a0 Z) (a1 a2 : Addr) (ck3 : ClassId) (h0 : Heap) (n0 : Nat) (Z0 : n0 ≤ h0.size) (F_elementData_a1 : Fld Z h0 a1 "java/util/ArrayList" "elementData" "[Ljava/lang/Object;" (.ref a2)) (V_a2 : Arv Z h0 a2 ck3 (.object "java/lang/Object") 0 [] .null) (S_DEFAULTCAPACITY_EMPTY_ELEMENTDATA : Sta Z Z.heap "java/util/ArrayList" "DEFAULTCAPACITY_EMPTY_ELEMENTDATA" "[Ljava/lang/Object;" (.ref a2)) (Od0 : Old Z n0 h0) (E_a1 : Exa Z h0 a1 "java/util/ArrayList") (g_a1 : n0 ≤ a1) (F_modCount_a1 : Fld Z h0 a1 "java/util/AbstractList" "modCount" "I" (.int 1)) (F_size_a1 : Fld Z h0 a1 "java/util/ArrayList" "size" "I" (.int 0)) :
    OwnMet l Z y_22 jdk_38_method_6_code 4 (some (.array (.object "java/lang/Object"))) [] Rm23 #[(.ref a1), (.int 1)] h0 (Q23 Z a1 a2 ck3 h0 n0) := by
  refine own_body (plainFor_of_name pn_4) (ef_761aa3 a1) ?_
  intro p e s m below meth c s₁ hx hby hml hown hnm hret hZ hH hnd X0 e0
  have N0 := Fr.nil n0
  have B := hbx hby
  obtain ⟨T1, X1, e1, st1⟩ := getF X0 hx hZ hown (host := "") (Or.inl (w_63 hw)) Via.refl e0 F_elementData_a1 (g := (mkF m 1 #[vr a1, vi 1, un, un] [(.ref a1)])) rfl rfl (B d28_1)
  obtain ⟨cl2, Ar2, q2, S2, M2, Hs2, G2⟩ := id V_a2
  obtain ⟨T3, X3, e3, st3⟩ := getF X1 hx hZ hown (host := "") (Or.inl (w_63 hw)) Via.refl e1 F_elementData_a1 (g := (mkF m 11 #[vr a1, vi 1, vi 0, un] [(.ref a1)])) rfl rfl (B d28_11)
  obtain ⟨T4, X4, e4, st4⟩ := getS2 X3 hx hZ hown (host := "") (Or.inl (w_62 hw)) Via.refl e3 (S_DEFAULTCAPACITY_EMPTY_ELEMENTDATA.ext Od0.2) (g := (mkF m 14 #[vr a1, vi 1, vi 0, un] [(.ref a2)])) rfl (B d28_14)
  obtain ⟨_, T5, L5, X5, hQ5, st5⟩ := own_callS X4 hx hZ hH hown (y := y_21) (w_210 hw) (w_211 hw) (w_212 hw) (w_213 hw) (rm22 l Z hw  h0 n0 Z0) e4 (Ls := #[vr a1, vi 1, vi 0, un]) hml.symm (argsL := [(.int 10), (.int 1)]) (rest := [(.ref a1)]) (lenOf pd_12 rfl) (B d28_49) (W := 1)
  obtain ⟨rfl, Nq5, e5⟩ := hQ5
  have N5 := Fr.app N0 Nq5
  obtain ⟨T6, h6, k6, X6, e6, E6, A6, B6, O6, st6⟩ := newRE X5 hx hZ hown (w_214 hw) (w_215 hw) e5 (g := (mkF m 52 #[vr a1, vi 1, vi 0, un] [(.int 10), (.ref a1)])) rfl (B d28_52) rfl (by decide) (cap := 10) (by decide) (by decide) (by decide) (by decide) (ad := "[Ljava/lang/Object;") (by decide)
  obtain ⟨b6, g6⟩ : ∃ z, z = h0.size := ⟨_, rfl⟩
  rw [← g6] at A6 B6 st6
  have s0 := E6.1
  have Vn6 : Arv Z h6 b6 k6 (.object "java/lang/Object") 10 [.null, .null, .null, .null, .null, .null, .null, .null, .null, .null] .null := (Arv.new A6 (by decide)).pad (pad_rep [] .null 10)
  have Fl7 := (F_elementData_a1.ext E6)
  have Ex8 := (E_a1.ext E6)
  obtain ⟨T9, h9, X9, e9, W9, st9⟩ := putF X6 hx hZ hown (host := "") (Or.inl (w_63 hw)) Via.refl e6 Fl7 Ex8 (Or.inl (w_64 hw)) (w_42 hw) (ty := (.array (.object "java/lang/Object"))) (by decide) rfl rfl (g := (mkF m 56 #[vr a1, vi 1, vi 0, un] [(.ref b6), (.ref a1), (.ref b6)])) rfl rfl (B d28_56)
  have s1 := (Keep.of_wr W9).1
  have N9 := Fr.snoc X9 N5 g_a1
  have Fw9 : Fld Z h9 a1 "java/util/ArrayList" "elementData" "[Ljava/lang/Object;" (.ref b6) := Fl7.same W9
  have Ex10 := (Ex8.wr W9)
  have Fl11 := ((F_modCount_a1.ext E6).other W9 (Or.inr (slot_ne (Or.inl (w_61 hw)) (Or.inl (w_64 hw)) (by decide) (t := .int) (t' := (.array (.object "java/lang/Object"))) (by decide) (by decide))))
  have Fl12 := ((F_size_a1.ext E6).other W9 (Or.inr (slot_ne (Or.inl (w_194 hw)) (Or.inl (w_64 hw)) (by decide) (t := .int) (t' := (.array (.object "java/lang/Object"))) (by decide) (by decide))))
  have sz_b6 : h0.size ≤ b6 := (Nat.le_of_eq g6.symm)
  have Ex13 := (B6.wr W9)
  have ne_a1_b6 := Nat.ne_of_lt (Nat.lt_of_lt_of_le F_size_a1.lt (Nat.le_of_eq g6.symm))
  have Va14 := (Vn6.other W9 (Ne.symm ne_a1_b6))
  have Kp0 := (Keep.refl h0 [a1]).ext E6
  have Kp1 := Kp0.wr W9 own_m0
  refine ⟨T9, _, _, _, (some (.ref b6)), X9, nofun, by decide, by decide, ?_, fun fs hr => ?_⟩
  · rw [e9]
    exact ⟨b6, k6, rfl, N9, Kp1, Ex10, Fl11, Fw9, Fl12, sz_b6, Ex13, O6, Va14⟩
  · refine sA X0 hx (B d28_0) rfl rfl ?_
    refine st1 _ ?_
    refine X1.arraylength hx (by rw [e1]; exact Ar2.1) (State.isArrayOf_alike hZ.alike Ar2.2.1) (g := (mkF m 4 #[vr a1, vi 1, un, un] [(.ref a2)])) rfl rfl (B d28_4) _ ?_
    show Steps p.tables e below (T1.setTop (mkF m 5 #[vr a1, vi 1, un, un] [(.int cl2.slots.size.toInt32)])) _
    rw [len_of S2 M2]
    refine XS.istoreN X1.here hx rfl (B d28_5) rfl (l' := #[vr a1, vi 1, vi 0, un]) rfl ?_
    refine sI X1 hx (B d28_6) rfl ?_
    refine XS.ifNo X1.here hx rfl (B d28_7) rfl ((if0 _ _).trans (flt (by decide : ¬ ((0 : Int32) < (0 : Int32)))).2.2.1) ?_
    refine sA X1 hx (B d28_10) rfl rfl ?_
    refine st3 _ ?_
    refine st4 _ ?_
    refine Jvm.RoadKit.acmp (g := (mkF m 17 #[vr a1, vi 1, vi 0, un] [(.ref a2), (.ref a2)])) X4 hx rfl rfl rfl (pc0 := 17) (pc' := 45) (same := true) rfl (B d28_17) rfl (decide_eq_true rfl) (by decide) (by decide) ?_
    refine sA X4 hx (B d28_45) rfl rfl ?_
    refine XS.bipush X4.here hx rfl (B d28_46) ?_
    refine sI X4 hx (B d28_48) rfl ?_
    refine st5 _ ?_
    refine st6 _ ?_
    refine XS.dupX1 X6.here hx rfl (B d28_55) rfl rfl rfl ?_
    refine st9 _ ?_
    exact retOut X9 hx hret rfl (Or.inr (Or.inr (Or.inr (Or.inr ⟨rfl, rfl, rfl⟩)))) (B d28_59) hr
theorem pd_13 : parseMethodDescriptor "(I)[Ljava/lang/Object;" = some ⟨[.int], some (.array (.object "java/lang/Object"))⟩ := by decide +kernel
theorem w_209 {a0 Z} (hw : OW a0 Z) : Jvm.Cond.before (.code y_22 jdk_38_method_6_code 4 (some (.array (.object "java/lang/Object")))) a0 Z := hw _ (mo 209 rfl)
theorem w_205 {a0 Z} (hw : OW a0 Z) : Jvm.Cond.before (.methodLink "java/util/ArrayList" 69 y_22) a0 Z := hw _ (mo 205 rfl)
theorem w_206 {a0 Z} (hw : OW a0 Z) : Jvm.Cond.before (.instanceMethod y_22) a0 Z := hw _ (mo 206 rfl)
theorem w_208 {a0 Z} (hw : OW a0 Z) : Jvm.Cond.before (.selects "java/util/ArrayList" y_22 y_22) a0 Z := hw _ (mo 208 rfl)
theorem w_207 {a0 Z} (hw : OW a0 Z) : Jvm.Cond.before (.privateMethod y_22) a0 Z := hw _ (mo 207 rfl)
theorem d27_10 : decode Kc27 10 = .ok (.areturn, 1) := by decide +kernel
abbrev y_23 : MethodName := ⟨"java/util/ArrayList", "grow", "()[Ljava/lang/Object;"⟩
abbrev Rm24 : Room := rmk 2 1 10 29
def Q24 (Z : State) (a1 a2 : Addr) (ck3 : ClassId) (h0 : Heap) (n0 : Nat) (v : Option Value) (h : Heap) (L : List Loc) : Prop := ∃ b2_0 : Addr, ∃ k2_1 : ClassId, v = some (.ref b2_0) ∧ Fr n0 L ∧ Keep h0 h [a1] ∧ Exa Z h a1 "java/util/ArrayList" ∧ Fld Z h a1 "java/util/AbstractList" "modCount" "I" (.int 1) ∧ Fld Z h a1 "java/util/ArrayList" "elementData" "[Ljava/lang/Object;" (.ref b2_0) ∧ Fld Z h a1 "java/util/ArrayList" "size" "I" (.int 0) ∧ h0.size ≤ b2_0 ∧ Exa Z h b2_0 "[Ljava/lang/Object;" ∧ Ovr Z k2_1 "java/lang/Object" ∧ Arv Z h b2_0 k2_1 (.object "java/lang/Object") 10 [.null, .null, .null, .null, .null, .null, .null, .null, .null, .null] .null
theorem rm24 (l : Launch) (Z : State) {a0 : Array Value} (hw : OW a0 Z) (a1 a2 : Addr) (ck3 : ClassId) (h0 : Heap) (n0 : Nat) (Z0 : n0 ≤ h0.size) (F_size_a1 : Fld Z h0 a1 "java/util/ArrayList" "size" "I" (.int 0)) (F_elementData_a1 : Fld Z h0 a1 "java/util/ArrayList" "elementData" "[Ljava/lang/Object;" (.ref a2)) (V_a2 : Arv Z h0 a2 ck3 (.object "java/lang/Object") 0 [] .null) (S_DEFAULTCAPACITY_EMPTY_ELEMENTDATA : Sta Z Z.heap "java/util/ArrayList" "DEFAULTCAPACITY_EMPTY_ELEMENTDATA" "[Ljava/lang/Object;" (.ref a2)) (Od0 : Old Z n0 h0) (E_a1 : Exa Z h0 a1 "java/util/ArrayList") (g_a1 : n0 ≤ a1) (F_modCount_a1 : Fld Z h0 a1 "java/util/AbstractList" "modCount" "I" (.int 1)) :
    OwnMet l Z y_23 jdk_38_method_7_code 1 (some (.array (.object "java/lang/Object"))) [] Rm24 #[(.ref a1)] h0 (Q24 Z a1 a2 ck3 h0 n0) := by
  refine own_body (plainFor_of_name pn_4) (ef_26f21a a1) ?_
  intro p e s m below meth c s₁ hx hby hml hown hnm hret hZ hH hnd X0 e0
  have N0 := Fr.nil n0
  have B := hbx hby
  obtain ⟨T1, X1, e1, st1⟩ := getF X0 hx hZ hown (host := "") (Or.inl (w_193 hw)) Via.refl e0 F_size_a1 (g := (mkF m 2 #[vr a1] [(.ref a1), (.ref a1)])) rfl rfl (B d27_2)
  obtain ⟨_, T2, L2, X2, hQ2, st2⟩ := own_private X1 hx hZ hH hown (y := y_22) E_a1 (w_205 hw) (w_206 hw) (mvT hZ (w_208 hw)) (w_207 hw) (w_43 hw) (w_209 hw) (rm23 l Z hw a1 a2 ck3 h0 n0 Z0 F_elementData_a1 V_a2 S_DEFAULTCAPACITY_EMPTY_ELEMENTDATA Od0 E_a1 g_a1 F_modCount_a1 F_size_a1) e1 (Ls := #[vr a1]) hml.symm (argsL := [(.int 1)]) (rest := []) (lenOf pd_13 rfl) (B d27_7) (W := 0)
  obtain ⟨b2_0, k2_1, rfl, Nq2, K2, o2_0, o2_1, o2_2, o2_3, o2_4, o2_5, o2_6, o2_7⟩ := hQ2
  have N2 := Fr.app N0 Nq2
  have s0 := K2.1
  have sz_b2_0 : h0.size ≤ b2_0 := o2_4
  have Kp0 := (Keep.refl h0 [a1]).trans K2 (allS own_m0 all0)
  refine ⟨T2, _, _, _, (some (.ref b2_0)), X2, nofun, by decide, by decide, ?_, fun fs hr => ?_⟩
  · exact ⟨b2_0, k2_1, rfl, N2, Kp0, o2_0, o2_1, o2_2, o2_3, sz_b2_0, o2_5, o2_6, o2_7⟩
  · refine sA X0 hx (B d27_0) rfl rfl ?_
    refine sA X0 hx (B d27_1) rfl rfl ?_
    refine st1 _ ?_
    refine sC X1 hx (B d27_5) ?_
    refine XS.iadd X1.here hx rfl (B d27_6) rfl ?_
    refine st2 _ ?_
    exact retOut X2 hx hret rfl (Or.inr (Or.inr (Or.inr (Or.inr ⟨rfl, rfl, rfl⟩)))) (B d27_10) hr
theorem pd_14 : parseMethodDescriptor "()[Ljava/lang/Object;" = some ⟨[], some (.array (.object "java/lang/Object"))⟩ := by decide +kernel
theorem w_204 {a0 Z} (hw : OW a0 Z) : Jvm.Cond.before (.code y_23 jdk_38_method_7_code 1 (some (.array (.object "java/lang/Object")))) a0 Z := hw _ (mo 204 rfl)
theorem w_200 {a0 Z} (hw : OW a0 Z) : Jvm.Cond.before (.methodLink "java/util/ArrayList" 129 y_23) a0 Z := hw _ (mo 200 rfl)
theorem w_201 {a0 Z} (hw : OW a0 Z) : Jvm.Cond.before (.instanceMethod y_23) a0 Z := hw _ (mo 201 rfl)
theorem w_203 {a0 Z} (hw : OW a0 Z) : Jvm.Cond.before (.selects "java/util/ArrayList" y_23 y_23) a0 Z := hw _ (mo 203 rfl)
theorem w_202 {a0 Z} (hw : OW a0 Z) : Jvm.Cond.before (.privateMethod y_23) a0 Z := hw _ (mo 202 rfl)
theorem d26_10 : decode Kc26 10 = .ok (.astore_n 2, 1) := by decide +kernel
theorem d26_11 : decode Kc26 11 = .ok (.aload_n 2, 1) := by decide +kernel
theorem d26_12 : decode Kc26 12 = .ok (.iload_n 3, 1) := by decide +kernel
theorem d26_13 : decode Kc26 13 = .ok (.aload_n 1, 1) := by decide +kernel
theorem d26_14 : decode Kc26 14 = .ok (.aastore, 1) := by decide +kernel
theorem w_216 {a0 Z} (hw : OW a0 Z) : Jvm.Cond.before (.castable "java/lang/String" "java/lang/Object") a0 Z := hw _ (mo 216 rfl)
theorem d26_15 : decode Kc26 15 = .ok (.aload_n 0, 1) := by decide +kernel
theorem d26_16 : decode Kc26 16 = .ok (.iload_n 3, 1) := by decide +kernel
theorem d26_17 : decode Kc26 17 = .ok (.iconst 1, 1) := by decide +kernel
theorem d26_18 : decode Kc26 18 = .ok (.iadd, 1) := by decide +kernel
theorem d26_19 : decode Kc26 19 = .ok (.putfield 48, 3) := by decide +kernel
theorem d26_22 : decode Kc26 22 = .ok (.return_, 1) := by decide +kernel
theorem ef_b26d91 (a1 : Addr) (a2 : Addr) (a3 : Addr) (m : MethodId) : entryFrame m #[(.ref a1), (.ref a2), (.ref a3), (.int 0)] 4 = mkF m 0 #[.val (.ref a1), .val (.ref a2), .val (.ref a3), .val (.int 0)] [] := by first | (simp [entryFrame, mkF, argsToLocals, Value.category]; done) | rfl
abbrev y_24 : MethodName := ⟨"java/util/ArrayList", "add", "(Ljava/lang/Object;[Ljava/lang/Object;I)V"⟩
abbrev Rm25 : Room := rmk 3 1 10 41
def Q25 (Z : State) (a1 a2 a3 : Addr) (ck4 : ClassId) (h0 : Heap) (n0 : Nat) (v : Option Value) (h : Heap) (L : List Loc) : Prop := ∃ b2_0 : Addr, ∃ k2_1 : ClassId, v = none ∧ Fr n0 L ∧ Keep h0 h [a1] ∧ Exa Z h a1 "java/util/ArrayList" ∧ Fld Z h a1 "java/util/AbstractList" "modCount" "I" (.int 1) ∧ Fld Z h a1 "java/util/ArrayList" "elementData" "[Ljava/lang/Object;" (.ref b2_0) ∧ Fld Z h a1 "java/util/ArrayList" "size" "I" (.int 1) ∧ h0.size ≤ b2_0 ∧ Exa Z h b2_0 "[Ljava/lang/Object;" ∧ Ovr Z k2_1 "java/lang/Object" ∧ Arv Z h b2_0 k2_1 (.object "java/lang/Object") 10 [(.ref a2), .null, .null, .null, .null, .null, .null, .null, .null, .null] .null
theorem rm25 (l : Launch) (Z : State) {a0 : Array Value} (hw : OW a0 Z) (a1 a2 a3 : Addr) (ck4 : ClassId) (h0 : Heap) (n0 : Nat) (Z0 : n0 ≤ h0.size) (V_a3 : Arv Z h0 a3 ck4 (.object "java/lang/Object") 0 [] .null) (F_size_a1 : Fld Z h0 a1 "java/util/ArrayList" "size" "I" (.int 0)) (F_elementData_a1 : Fld Z h0 a1 "java/util/ArrayList" "elementData" "[Ljava/lang/Object;" (.ref a3)) (S_DEFAULTCAPACITY_EMPTY_ELEMENTDATA : Sta Z Z.heap "java/util/ArrayList" "DEFAULTCAPACITY_EMPTY_ELEMENTDATA" "[Ljava/lang/Object;" (.ref a3)) (Od0 : Old Z n0 h0) (E_a1 : Exa Z h0 a1 "java/util/ArrayList") (g_a1 : n0 ≤ a1) (F_modCount_a1 : Fld Z h0 a1 "java/util/AbstractList" "modCount" "I" (.int 1)) (E_a2 : Exa Z h0 a2 jS) :
    OwnMet l Z y_24 jdk_38_method_24_code 4 none [] Rm25 #[(.ref a1), (.ref a2), (.ref a3), (.int 0)] h0 (Q25 Z a1 a2 a3 ck4 h0 n0) := by
  refine own_body (plainFor_of_name pn_4) (ef_b26d91 a1 a2 a3) ?_
  intro p e s m below meth c s₁ hx hby hml hown hnm hret hZ hH hnd X0 e0
  have N0 := Fr.nil n0
  have B := hbx hby
  obtain ⟨cl1, Ar1, q1, S1, M1, Hs1, G1⟩ := id V_a3
  obtain ⟨_, T2, L2, X2, hQ2, st2⟩ := own_private X0 hx hZ hH hown (y := y_23) E_a1 (w_200 hw) (w_201 hw) (mvT hZ (w_203 hw)) (w_202 hw) (w_43 hw) (w_204 hw) (rm24 l Z hw a1 a3 ck4 h0 n0 Z0 F_size_a1 F_elementData_a1 V_a3 S_DEFAULTCAPACITY_EMPTY_ELEMENTDATA Od0 E_a1 g_a1 F_modCount_a1) e0 (Ls := #[vr a1, vr a2, vr a3, vi 0]) hml.symm (argsL := []) (rest := []) (lenOf pd_14 rfl) (B d26_7) (W := 0)
  obtain ⟨b2_0, k2_1, rfl, Nq2, K2, o2_0, o2_1, o2_2, o2_3, o2_4, o2_5, o2_6, o2_7⟩ := hQ2
  have N2 := Fr.app N0 Nq2
  have s0 := K2.1
  obtain ⟨cl3, Ar3, q3, S3, M3, Hs3, G3⟩ := id o2_7
  have hin4 := inb_of (j := 0) S3 ⟨by decide, by decide⟩
  have Ex5 := (E_a2.keep K2)
  obtain ⟨T6, h6, X6, e6, W6, st6⟩ := stR X2 hx hZ rfl Ar3 (j := 0) hin4 rfl (Sto.ofV Ar3 q3 o2_6 (Ins.of_exa Ex5 (w_216 hw))) (g := (mkF m 14 #[vr a1, vr a2, vr b2_0, vi 0] [(.ref a2), (.int 0), (.ref b2_0)])) rfl rfl (B d26_14)
  have s1 := (Keep.of_wr W6).1
  have g_b2_0 : n0 ≤ b2_0 := Nat.le_trans Z0 o2_4
  have N6 := Fr.snoc X6 N2 g_b2_0
  have Vs6 : Arv Z h6 b2_0 k2_1 (.object "java/lang/Object") 10 [(.ref a2), .null, .null, .null, .null, .null, .null, .null, .null, .null] .null := Arv.set Ar3 q3 S3 M3 Hs3 G3 rfl W6 0 rfl (nl rfl)
  have ne_a1_b2_0 := Nat.ne_of_lt (Nat.lt_of_lt_of_le F_size_a1.lt o2_4)
  have Fl7 := (o2_3.other W6 (Or.inl ne_a1_b2_0))
  have Ex8 := (o2_0.wr W6)
  obtain ⟨T9, h9, X9, e9, W9, st9⟩ := putF X6 hx hZ hown (host := "") (Or.inl (w_193 hw)) Via.refl e6 Fl7 Ex8 (Or.inl (w_194 hw)) (w_42 hw) (ty := .int) (by decide) rfl rfl (g := (mkF m 19 #[vr a1, vr a2, vr b2_0, vi 0] [(.int 1), (.ref a1)])) rfl rfl (B d26_19)
  have s2 := (Keep.of_wr W9).1
  have N9 := Fr.snoc X9 N6 g_a1
  have Fw9 : Fld Z h9 a1 "java/util/ArrayList" "size" "I" (.int 1) := Fl7.same W9
  have Ex10 := (Ex8.wr W9)
  have Fl11 := ((o2_1.other W6 (Or.inl ne_a1_b2_0)).other W9 (Or.inr (slot_ne (Or.inl (w_61 hw)) (Or.inl (w_194 hw)) (by decide) (t := .int) (t' := .int) (by decide) (by decide))))
  have Fl12 := ((o2_2.other W6 (Or.inl ne_a1_b2_0)).other W9 (Or.inr (slot_ne (Or.inl (w_64 hw)) (Or.inl (w_194 hw)) (by decide) (t := (.array (.object "java/lang/Object"))) (t' := .int) (by decide) (by decide))))
  have sz_b2_0 : h0.size ≤ b2_0 := o2_4
  have Ex13 := ((o2_5.wr W6).wr W9)
  have Va14 := (Vs6.other W9 (Ne.symm ne_a1_b2_0))
  have Kp0 := (Keep.refl h0 [a1]).trans K2 (allS own_m0 all0)
  have Kp1 := Kp0.wr W6 (Or.inr sz_b2_0)
  have Kp2 := Kp1.wr W9 own_m0
  refine ⟨T9, _, _, _, none, X9, (fun _ => rfl), by decide, by decide, ?_, fun fs hr => ?_⟩
  · rw [e9]
    exact ⟨b2_0, k2_1, rfl, N9, Kp2, Ex10, Fl11, Fl12, Fw9, sz_b2_0, Ex13, o2_6, Va14⟩
  · refine sI X0 hx (B d26_0) rfl ?_
    refine sA X0 hx (B d26_1) rfl rfl ?_
    refine X0.arraylength hx (by rw [e0]; exact Ar1.1) (State.isArrayOf_alike hZ.alike Ar1.2.1) (g := (mkF m 2 #[vr a1, vr a2, vr a3, vi 0] [(.ref a3), (.int 0)])) rfl rfl (B d26_2) _ ?_
    show Steps p.tables e below (s₁.setTop (mkF m 3 #[vr a1, vr a2, vr a3, vi 0] [(.int cl1.slots.size.toInt32), (.int 0)])) _
    rw [len_of S1 M1]
    refine XS.icmpNo X0.here hx rfl (B d26_3) rfl (teq (by decide : (0 : Int32) = (0 : Int32))).2 ?_
    refine sA X0 hx (B d26_6) rfl rfl ?_
    refine st2 _ ?_
    refine XS.astoreN X2.here hx rfl (B d26_10) rfl rfl (l' := #[vr a1, vr a2, vr b2_0, vi 0]) rfl ?_
    refine sA X2 hx (B d26_11) rfl rfl ?_
    refine sI X2 hx (B d26_12) rfl ?_
    refine sA X2 hx (B d26_13) rfl rfl ?_
    refine st6 _ ?_
    refine sA X6 hx (B d26_15) rfl rfl ?_
    refine sI X6 hx (B d26_16) rfl ?_
    refine sC X6 hx (B d26_17) ?_
    refine XS.iadd X6.here hx rfl (B d26_18) rfl ?_
    refine st9 _ ?_
    exact X9.returnOut hx hret (B d26_22) hr
theorem pd_15 : parseMethodDescriptor "(Ljava/lang/Object;[Ljava/lang/Object;I)V" = some ⟨[(.object "java/lang/Object"), (.array (.object "java/lang/Object")), .int], none⟩ := by decide +kernel
theorem w_199 {a0 Z} (hw : OW a0 Z) : Jvm.Cond.before (.code y_24 jdk_38_method_24_code 4 none) a0 Z := hw _ (mo 199 rfl)
theorem w_195 {a0 Z} (hw : OW a0 Z) : Jvm.Cond.before (.methodLink "java/util/ArrayList" 131 y_24) a0 Z := hw _ (mo 195 rfl)
theorem w_196 {a0 Z} (hw : OW a0 Z) : Jvm.Cond.before (.instanceMethod y_24) a0 Z := hw _ (mo 196 rfl)
theorem w_198 {a0 Z} (hw : OW a0 Z) : Jvm.Cond.before (.selects "java/util/ArrayList" y_24 y_24) a0 Z := hw _ (mo 198 rfl)
theorem w_197 {a0 Z} (hw : OW a0 Z) : Jvm.Cond.before (.privateMethod y_24) a0 Z := hw _ (mo 197 rfl)
theorem d25_23 : decode Kc25 23 = .ok (.iconst 1, 1) := by decide +kernel
theorem d25_24 : decode Kc25 24 = .ok (.ireturn, 1) := by decide +kernel
abbrev y_25 : MethodName := ⟨"java/util/ArrayList", "add", "(Ljava/lang/Object;)Z"⟩
abbrev Rm26 : Room := rmk 4 1 10 56
def Q26 (Z : State) (a1 a2 a3 : Addr) (ck4 : ClassId) (h0 : Heap) (n0 : Nat) (v : Option Value) (h : Heap) (L : List Loc) : Prop := ∃ b10_0 : Addr, ∃ k10_1 : ClassId, v = some (.int 1) ∧ Fr n0 L ∧ Keep h0 h [a1] ∧ Exa Z h a1 "java/util/ArrayList" ∧ Fld Z h a1 "java/util/AbstractList" "modCount" "I" (.int 1) ∧ Fld Z h a1 "java/util/ArrayList" "elementData" "[Ljava/lang/Object;" (.ref b10_0) ∧ Fld Z h a1 "java/util/ArrayList" "size" "I" (.int 1) ∧ h0.size ≤ b10_0 ∧ Exa Z h b10_0 "[Ljava/lang/Object;" ∧ Ovr Z k10_1 "java/lang/Object" ∧ Arv Z h b10_0 k10_1 (.object "java/lang/Object") 10 [(.ref a2), .null, .null, .null, .null, .null, .null, .null, .null, .null] .null
theorem rm26 (l : Launch) (Z : State) {a0 : Array Value} (hw : OW a0 Z) (a1 a2 a3 : Addr) (ck4 : ClassId) (h0 : Heap) (n0 : Nat) (Z0 : n0 ≤ h0.size) (F_modCount_a1 : Fld Z h0 a1 "java/util/AbstractList" "modCount" "I" (.int 0)) (E_a1 : Exa Z h0 a1 "java/util/ArrayList") (g_a1 : n0 ≤ a1) (F_elementData_a1 : Fld Z h0 a1 "java/util/ArrayList" "elementData" "[Ljava/lang/Object;" (.ref a3)) (F_size_a1 : Fld Z h0 a1 "java/util/ArrayList" "size" "I" (.int 0)) (V_a3 : Arv Z h0 a3 ck4 (.object "java/lang/Object") 0 [] .null) (ne_a3_a1 : a3 ≠ a1) (S_DEFAULTCAPACITY_EMPTY_ELEMENTDATA : Sta Z Z.heap "java/util/ArrayList" "DEFAULTCAPACITY_EMPTY_ELEMENTDATA" "[Ljava/lang/Object;" (.ref a3)) (Od0 : Old Z n0 h0) (E_a2 : Exa Z h0 a2 jS) :
    OwnMet l Z y_25 jdk_38_method_25_code 2 (some .boolean) [] Rm26 #[(.ref a1), (.ref a2)] h0 (Q26 Z a1 a2 a3 ck4 h0 n0) := by
  refine own_body (plainFor_of_name pn_4) (ef_463e93 a1 a2) ?_
  intro p e s m below meth c s₁ hx hby hml hown hnm hret hZ hH hnd X0 e0
  have N0 := Fr.nil n0
  have B := hbx hby
  obtain ⟨T1, X1, e1, st1⟩ := getF X0 hx hZ hown (host := "") (Or.inl (w_191 hw)) (Via.of (w_192 hw)) e0 F_modCount_a1 (g := (mkF m 2 #[vr a1, vr a2] [(.ref a1), (.ref a1)])) rfl rfl (B d25_2)
  obtain ⟨T2, h2, X2, e2, W2, st2⟩ := putF X1 hx hZ hown (host := "") (Or.inl (w_191 hw)) (Via.of (w_192 hw)) e1 F_modCount_a1 E_a1 (Or.inl (w_61 hw)) (w_42 hw) (ty := .int) (by decide) rfl rfl (g := (mkF m 7 #[vr a1, vr a2] [(.int 1), (.ref a1)])) rfl rfl (B d25_7)
  have s0 := (Keep.of_wr W2).1
  have N2 := Fr.snoc X2 N0 g_a1
  have Fw2 : Fld Z h2 a1 "java/util/AbstractList" "modCount" "I" (.int 1) := F_modCount_a1.same W2
  have Ex3 := (E_a1.wr W2)
  have Fl4 := (F_elementData_a1.other W2 (Or.inr (slot_ne (Or.inl (w_64 hw)) (Or.inl (w_61 hw)) (by decide) (t := (.array (.object "java/lang/Object"))) (t' := .int) (by decide) (by decide))))
  obtain ⟨T5, X5, e5, st5⟩ := getF X2 hx hZ hown (host := "") (Or.inl (w_63 hw)) Via.refl e2 Fl4 (g := (mkF m 13 #[vr a1, vr a2] [(.ref a1), (.ref a2), (.ref a1)])) rfl rfl (B d25_13)
  have Fl6 := (F_size_a1.other W2 (Or.inr (slot_ne (Or.inl (w_194 hw)) (Or.inl (w_61 hw)) (by decide) (t := .int) (t' := .int) (by decide) (by decide))))
  obtain ⟨T7, X7, e7, st7⟩ := getF X5 hx hZ hown (host := "") (Or.inl (w_193 hw)) Via.refl e5 Fl6 (g := (mkF m 17 #[vr a1, vr a2] [(.ref a1), (.ref a3), (.ref a2), (.ref a1)])) rfl rfl (B d25_17)
  have Va8 := (V_a3.other W2 ne_a3_a1)
  have Od1 := Od0.wr W2 g_a1
  have Ex9 := (E_a2.wr W2)
  have z1 := Nat.le_trans Z0 s0
  obtain ⟨_, T10, L10, X10, hQ10, st10⟩ := own_private X7 hx hZ hH hown (y := y_24) Ex3 (w_195 hw) (w_196 hw) (mvT hZ (w_198 hw)) (w_197 hw) (w_43 hw) (w_199 hw) (rm25 l Z hw a1 a2 a3 ck4 h2 n0 z1 Va8 Fl6 Fl4 S_DEFAULTCAPACITY_EMPTY_ELEMENTDATA Od1 Ex3 g_a1 Fw2 Ex9) e7 (Ls := #[vr a1, vr a2]) hml.symm (argsL := [(.ref a2), (.ref a3), (.int 0)]) (rest := []) (lenOf pd_15 rfl) (B d25_20) (W := 0)
  obtain ⟨b10_0, k10_1, rfl, Nq10, K10, o10_0, o10_1, o10_2, o10_3, o10_4, o10_5, o10_6, o10_7⟩ := hQ10
  have N10 := Fr.app N2 Nq10
  have s1 := K10.1
  have sz_b10_0 : h0.size ≤ b10_0 := Nat.le_trans s0 o10_4
  have Kp0 := (Keep.refl h0 [a1]).wr W2 own_m0
  have Kp1 := Kp0.trans K10 (allS own_m0 all0)
  refine ⟨T10, _, _, _, (some (.int 1)), X10, nofun, by decide, by decide, ?_, fun fs hr => ?_⟩
  · exact ⟨b10_0, k10_1, rfl, N10, Kp1, o10_0, o10_1, o10_2, o10_3, sz_b10_0, o10_5, o10_6, o10_7⟩
  · refine sA X0 hx (B d25_0) rfl rfl ?_
    refine XS.dup X0.here hx rfl (B d25_1) rfl rfl ?_
    refine st1 _ ?_
    refine sC X1 hx (B d25_5) ?_
    refine XS.iadd X1.here hx rfl (B d25_6) rfl ?_
    refine st2 _ ?_
    refine sA X2 hx (B d25_10) rfl rfl ?_
    refine sA X2 hx (B d25_11) rfl rfl ?_
    refine sA X2 hx (B d25_12) rfl rfl ?_
    refine st5 _ ?_
    refine sA X5 hx (B d25_16) rfl rfl ?_
    refine st7 _ ?_
    refine st10 _ ?_
    refine sC X10 hx (B d25_23) ?_
    exact retN X10 hx (t := .boolean) hret (by simp) (B d25_24) hr
theorem pd_16 : parseMethodDescriptor "(Ljava/lang/Object;)Z" = some ⟨[(.object "java/lang/Object")], some .boolean⟩ := by decide +kernel
theorem w_190 {a0 Z} (hw : OW a0 Z) : Jvm.Cond.before (.code y_25 jdk_38_method_25_code 2 (some .boolean)) a0 Z := hw _ (mo 190 rfl)
abbrev y_26 : MethodName := ⟨"java/util/List", "add", "(Ljava/lang/Object;)Z"⟩
theorem w_182 {a0 Z} (hw : OW a0 Z) : Jvm.Cond.before (.methodLink "com/example/informal_search/informalsearch/index/Numbering" 90 y_26) a0 Z := hw _ (mo 182 rfl)
theorem w_185 {a0 Z} (hw : OW a0 Z) : Jvm.Cond.before (.selects "java/util/ArrayList" y_26 y_25) a0 Z := hw _ (mo 185 rfl)
theorem w_183 {a0 Z} (hw : OW a0 Z) : Jvm.Cond.before (.declares y_26) a0 Z := hw _ (mo 183 rfl)
theorem w_184 {a0 Z} (hw : OW a0 Z) : Jvm.Cond.before (.interfaceMethod "java/util/List" "java/util/List" "add" "(Ljava/lang/Object;)Z") a0 Z := hw _ (mo 184 rfl)
theorem w_186 {a0 Z} (hw : OW a0 Z) : Jvm.Cond.before (.instanceMethod y_25) a0 Z := hw _ (mo 186 rfl)
theorem w_187 {a0 Z} (hw : OW a0 Z) : Jvm.Cond.before (.publicMethod y_25) a0 Z := hw _ (mo 187 rfl)
theorem w_188 {a0 Z} (hw : OW a0 Z) : Jvm.Cond.before (.unhidden "java/util/ArrayList" "add" "(Ljava/lang/Object;)Z") a0 Z := hw _ (mo 188 rfl)
theorem w_189 {a0 Z} (hw : OW a0 Z) : Jvm.Cond.before (.castable "java/util/ArrayList" "java/util/List") a0 Z := hw _ (mo 189 rfl)
theorem d24_10 : decode Kc24 10 = .ok (.pop, 1) := by decide +kernel
theorem d24_11 : decode Kc24 11 = .ok (.aload_n 0, 1) := by decide +kernel
theorem d24_12 : decode Kc24 12 = .ok (.dup, 1) := by decide +kernel
theorem d24_13 : decode Kc24 13 = .ok (.getfield 46, 3) := by decide +kernel
theorem w_217 {a0 Z} (hw : OW a0 Z) : Jvm.Cond.before (.fieldLink "com/example/informal_search/informalsearch/index/Numbering" 46 "com/example/informal_search/informalsearch/index/Numbering" "bytes" "J") a0 Z := hw _ (mo 217 rfl)
theorem d24_16 : decode Kc24 16 = .ok (.ldc2_w 94, 3) := by decide +kernel
theorem w_219 {a0 Z} (hw : OW a0 Z) : Jvm.Cond.before (.constantLong "com/example/informal_search/informalsearch/index/Numbering" 94 (160 : Int64)) a0 Z := hw _ (mo 219 rfl)
theorem d24_19 : decode Kc24 19 = .ok (.aload_n 1, 1) := by decide +kernel
theorem d24_20 : decode Kc24 20 = .ok (.invokestatic 96, 3) := by decide +kernel
abbrev Kc30 := prog_38_method_3_code
theorem d30_0 : decode Kc30 0 = .ok (.ldc2_w 39, 3) := by decide +kernel
theorem w_223 {a0 Z} (hw : OW a0 Z) : Jvm.Cond.before (.constantLong "com/example/informal_search/informalsearch/index/Numbering" 39 (3 : Int64)) a0 Z := hw _ (mo 223 rfl)
theorem d30_3 : decode Kc30 3 = .ok (.aload_n 0, 1) := by decide +kernel
theorem d30_4 : decode Kc30 4 = .ok (.invokevirtual 41, 3) := by decide +kernel
abbrev Kc31 := jdk_42_method_54_code
theorem d31_0 : decode Kc31 0 = .ok (.aload_n 0, 1) := by decide +kernel
theorem d31_1 : decode Kc31 1 = .ok (.getfield 9, 3) := by decide +kernel
theorem d31_4 : decode Kc31 4 = .ok (.arraylength, 1) := by decide +kernel
theorem d31_5 : decode Kc31 5 = .ok (.aload_n 0, 1) := by decide +kernel
theorem d31_6 : decode Kc31 6 = .ok (.invokevirtual 335, 3) := by decide +kernel
abbrev Kc32 := jdk_42_method_152_code
theorem d32_0 : decode Kc32 0 = .ok (.getstatic 38, 3) := by decide +kernel
theorem d32_3 : decode Kc32 3 = .ok (.ifCond .eq 10, 3) := by decide +kernel
theorem d32_6 : decode Kc32 6 = .ok (.aload_n 0, 1) := by decide +kernel
theorem d32_7 : decode Kc32 7 = .ok (.getfield 15, 3) := by decide +kernel
theorem d32_10 : decode Kc32 10 = .ok (.goto 4, 3) := by decide +kernel
theorem d32_14 : decode Kc32 14 = .ok (.ireturn, 1) := by decide +kernel
abbrev y_27 : MethodName := ⟨"java/lang/String", "coder", "()B"⟩
abbrev Rm27 : Room := rmk 0 0 0 0
def Q27 (Z : State) (a1 : Addr) (i2 : Int32) (h0 : Heap) (n0 : Nat) (v : Option Value) (h : Heap) (L : List Loc) : Prop := v = some (.int 0) ∧ Fr n0 L ∧ h = h0
theorem rm27 (l : Launch) (Z : State) {a0 : Array Value} (hw : OW a0 Z) (a1 : Addr) (i2 : Int32) (h0 : Heap) (n0 : Nat) (Z0 : n0 ≤ h0.size) (S_COMPACT_STRINGS : Sta Z Z.heap "java/lang/String" "COMPACT_STRINGS" "Z" (.int i2)) (Od0 : Old Z n0 h0) (c3 : ¬ (i2 = 0)) (F_coder_a1 : Fld Z h0 a1 jS "coder" "B" (.int 0)) :
    OwnMet l Z y_27 jdk_42_method_152_code 1 (some .byte) [] Rm27 #[(.ref a1)] h0 (Q27 Z a1 i2 h0 n0) := by
  refine own_body (plainFor_of_name pn_8) (ef_26f21a a1) ?_
  intro p e s m below meth c s₁ hx hby hml hown hnm hret hZ hH hnd X0 e0
  have N0 := Fr.nil n0
  have B := hbx hby
  obtain ⟨T1, X1, e1, st1⟩ := getS2 X0 hx hZ hown (host := "") (Or.inl (w_100 hw)) Via.refl e0 (S_COMPACT_STRINGS.ext Od0.2) (g := (mkF m 0 #[vr a1] [])) rfl (B d32_0)
  obtain ⟨T2, X2, e2, st2⟩ := getF X1 hx hZ hown (host := "") (Or.inl (w_112 hw)) Via.refl e1 F_coder_a1 (g := (mkF m 7 #[vr a1] [(.ref a1)])) rfl rfl (B d32_7)
  refine ⟨T2, _, _, _, (some (.int 0)), X2, nofun, by decide, by decide, ?_, fun fs hr => ?_⟩
  · rw [e2]
    exact ⟨rfl, N0, rfl⟩
  · refine st1 _ ?_
    refine XS.ifNo X1.here hx rfl (B d32_3) rfl ((if0 _ _).trans (feq c3).1) ?_
    refine sA X1 hx (B d32_6) rfl rfl ?_
    refine st2 _ ?_
    refine XS.goto X2.here hx rfl (pc0 := 10) (pc' := 14) rfl (B d32_10) (by decide) (by decide) ?_
    exact retN X2 hx (t := .byte) hret (by simp) (B d32_14) hr
theorem pd_17 : parseMethodDescriptor "()B" = some ⟨[], some .byte⟩ := by decide +kernel
theorem w_233 {a0 Z} (hw : OW a0 Z) : Jvm.Cond.before (.code y_27 jdk_42_method_152_code 1 (some .byte)) a0 Z := hw _ (mo 233 rfl)
theorem w_229 {a0 Z} (hw : OW a0 Z) : Jvm.Cond.before (.methodLink "java/lang/String" 335 y_27) a0 Z := hw _ (mo 229 rfl)
theorem w_232 {a0 Z} (hw : OW a0 Z) : Jvm.Cond.before (.selects "java/lang/String" y_27 y_27) a0 Z := hw _ (mo 232 rfl)
theorem w_230 {a0 Z} (hw : OW a0 Z) : Jvm.Cond.before (.declares y_27) a0 Z := hw _ (mo 230 rfl)
theorem w_231 {a0 Z} (hw : OW a0 Z) : Jvm.Cond.before (.instanceMethod y_27) a0 Z := hw _ (mo 231 rfl)
theorem d31_9 : decode Kc31 9 = .ok (.ishr, 1) := by decide +kernel
theorem d31_10 : decode Kc31 10 = .ok (.ireturn, 1) := by decide +kernel
abbrev y_28 : MethodName := ⟨"java/lang/String", "length", "()I"⟩
abbrev Rm28 : Room := rmk 1 0 0 13
def Q28 (Z : State) (a1 a2 : Addr) (i3 : Int32) (ck4 : ClassId) (i5 : Int32) (h0 : Heap) (n0 : Nat) (v : Option Value) (h : Heap) (L : List Loc) : Prop := v = some (.int 1) ∧ Fr n0 L ∧ h = h0
theorem rm28 (l : Launch) (Z : State) {a0 : Array Value} (hw : OW a0 Z) (a1 a2 : Addr) (i3 : Int32) (ck4 : ClassId) (i5 : Int32) (h0 : Heap) (n0 : Nat) (Z0 : n0 ≤ h0.size) (F_value_a1 : Fld Z h0 a1 jS "value" "[B" (.ref a2)) (V_a2 : Arv Z h0 a2 ck4 .byte 1 [(.int i3)] (.int 0)) (E_a1 : Exa Z h0 a1 jS) (S_COMPACT_STRINGS : Sta Z Z.heap "java/lang/String" "COMPACT_STRINGS" "Z" (.int i5)) (Od0 : Old Z n0 h0) (c6 : ¬ (i5 = 0)) (F_coder_a1 : Fld Z h0 a1 jS "coder" "B" (.int 0)) :
    OwnMet l Z y_28 jdk_42_method_54_code 1 (some .int) [] Rm28 #[(.ref a1)] h0 (Q28 Z a1 a2 i3 ck4 i5 h0 n0) := by
  refine own_body (plainFor_of_name pn_8) (ef_26f21a a1) ?_
  intro p e s m below meth c s₁ hx hby hml hown hnm hret hZ hH hnd X0 e0
  have N0 := Fr.nil n0
  have B := hbx hby
  obtain ⟨T1, X1, e1, st1⟩ := getF X0 hx hZ hown (host := "") (Or.inl (w_114 hw)) Via.refl e0 F_value_a1 (g := (mkF m 1 #[vr a1] [(.ref a1)])) rfl rfl (B d31_1)
  obtain ⟨cl2, Ar2, q2, S2, M2, Hs2, G2⟩ := id V_a2
  obtain ⟨_, T3, L3, X3, hQ3, st3⟩ := own_virtual X1 hx hZ hH hown (y := y_27) (z := y_27) E_a1 (w_229 hw) (w_230 hw) (own_nf hZ (w_232 hw)) (w_232 hw) (w_231 hw) (w_91 hw) (w_233 hw) (rm27 l Z hw a1 i5 h0 n0 Z0 S_COMPACT_STRINGS Od0 c6 F_coder_a1) e1 (Ls := #[vr a1]) hml.symm (argsL := []) (rest := [(.int 1)]) (lenOf pd_17 rfl) (B d31_6) (W := 1)
  obtain ⟨rfl, Nq3, e3⟩ := hQ3
  have N3 := Fr.app N0 Nq3
  refine ⟨T3, _, _, _, (some (.int 1)), X3, nofun, by decide, by decide, ?_, fun fs hr => ?_⟩
  · rw [e3]
    exact ⟨rfl, N3, rfl⟩
  · refine sA X0 hx (B d31_0) rfl rfl ?_
    refine st1 _ ?_
    refine X1.arraylength hx (by rw [e1]; exact Ar2.1) (State.isArrayOf_alike hZ.alike Ar2.2.1) (g := (mkF m 4 #[vr a1] [(.ref a2)])) rfl rfl (B d31_4) _ ?_
    show Steps p.tables e below (T1.setTop (mkF m 5 #[vr a1] [(.int cl2.slots.size.toInt32)])) _
    rw [len_of S2 M2]
    refine sA X1 hx (B d31_5) rfl rfl ?_
    refine st3 _ ?_
    refine XS.ishr X3.here hx rfl (B d31_9) rfl ?_
    exact retI X3 hx hret (B d31_10) hr
theorem w_228 {a0 Z} (hw : OW a0 Z) : Jvm.Cond.before (.code y_28 jdk_42_method_54_code 1 (some .int)) a0 Z := hw _ (mo 228 rfl)
theorem w_224 {a0 Z} (hw : OW a0 Z) : Jvm.Cond.before (.methodLink "com/example/informal_search/informalsearch/index/Numbering" 41 y_28) a0 Z := hw _ (mo 224 rfl)
theorem w_227 {a0 Z} (hw : OW a0 Z) : Jvm.Cond.before (.selects "java/lang/String" y_28 y_28) a0 Z := hw _ (mo 227 rfl)
theorem w_225 {a0 Z} (hw : OW a0 Z) : Jvm.Cond.before (.declares y_28) a0 Z := hw _ (mo 225 rfl)
theorem w_226 {a0 Z} (hw : OW a0 Z) : Jvm.Cond.before (.instanceMethod y_28) a0 Z := hw _ (mo 226 rfl)
theorem d30_7 : decode Kc30 7 = .ok (.i2l, 1) := by decide +kernel
theorem d30_8 : decode Kc30 8 = .ok (.lmul, 1) := by decide +kernel
theorem d30_9 : decode Kc30 9 = .ok (.lreturn, 1) := by decide +kernel
abbrev y_29 : MethodName := ⟨"com/example/informal_search/informalsearch/index/Numbering", "characterBytes", "(Ljava/lang/String;)J"⟩
abbrev Rm29 : Room := rmk 2 0 0 27
def Q29 (Z : State) (a1 a2 : Addr) (i3 : Int32) (ck4 : ClassId) (i5 : Int32) (h0 : Heap) (n0 : Nat) (v : Option Value) (h : Heap) (L : List Loc) : Prop := v = some (.long 3) ∧ Fr n0 L ∧ h = h0
theorem rm29 (l : Launch) (Z : State) {a0 : Array Value} (hw : OW a0 Z) (a1 a2 : Addr) (i3 : Int32) (ck4 : ClassId) (i5 : Int32) (h0 : Heap) (n0 : Nat) (Z0 : n0 ≤ h0.size) (E_a1 : Exa Z h0 a1 jS) (F_value_a1 : Fld Z h0 a1 jS "value" "[B" (.ref a2)) (V_a2 : Arv Z h0 a2 ck4 .byte 1 [(.int i3)] (.int 0)) (S_COMPACT_STRINGS : Sta Z Z.heap "java/lang/String" "COMPACT_STRINGS" "Z" (.int i5)) (Od0 : Old Z n0 h0) (c6 : ¬ (i5 = 0)) (F_coder_a1 : Fld Z h0 a1 jS "coder" "B" (.int 0)) :
    OwnMet l Z y_29 prog_38_method_3_code 1 (some .long) [] Rm29 #[(.ref a1)] h0 (Q29 Z a1 a2 i3 ck4 i5 h0 n0) := by
  refine own_body (plainFor_of_name pn_5) (ef_26f21a a1) ?_
  intro p e s m below meth c s₁ hx hby hml hown hnm hret hZ hH hnd X0 e0
  have N0 := Fr.nil n0
  have B := hbx hby
  obtain ⟨_, T1, L1, X1, hQ1, st1⟩ := own_virtual X0 hx hZ hH hown (y := y_28) (z := y_28) E_a1 (w_224 hw) (w_225 hw) (own_nf hZ (w_227 hw)) (w_227 hw) (w_226 hw) (w_91 hw) (w_228 hw) (rm28 l Z hw a1 a2 i3 ck4 i5 h0 n0 Z0 F_value_a1 V_a2 E_a1 S_COMPACT_STRINGS Od0 c6 F_coder_a1) e0 (Ls := #[vr a1]) hml.symm (argsL := []) (rest := [(.long 3)]) (lenOf pd_9 rfl) (B d30_4) (W := 2)
  obtain ⟨rfl, Nq1, e1⟩ := hQ1
  have N1 := Fr.app N0 Nq1
  refine ⟨T1, _, _, _, (some (.long 3)), X1, nofun, by decide, by decide, ?_, fun fs hr => ?_⟩
  · rw [e1]
    exact ⟨rfl, N1, rfl⟩
  · refine X0.ldc2Long hx hown (mvT hZ (w_223 hw)) (g := (mkF m 0 #[vr a1] [])) rfl (B d30_0) _ ?_
    refine sA X0 hx (B d30_3) rfl rfl ?_
    refine st1 _ ?_
    refine XS.i2l X1.here hx rfl (B d30_7) rfl ?_
    refine XS.lmul X1.here hx rfl (B d30_8) rfl ?_
    exact retOut X1 hx hret rfl (Or.inr (Or.inl ⟨rfl, rfl, _, rfl⟩)) (B d30_9) hr
theorem pd_18 : parseMethodDescriptor "(Ljava/lang/String;)J" = some ⟨[(.object "java/lang/String")], some .long⟩ := by decide +kernel
theorem w_222 {a0 Z} (hw : OW a0 Z) : Jvm.Cond.before (.code y_29 prog_38_method_3_code 1 (some .long)) a0 Z := hw _ (mo 222 rfl)
theorem w_220 {a0 Z} (hw : OW a0 Z) : Jvm.Cond.before (.methodLink "com/example/informal_search/informalsearch/index/Numbering" 96 y_29) a0 Z := hw _ (mo 220 rfl)
theorem w_221 {a0 Z} (hw : OW a0 Z) : Jvm.Cond.before (.static y_29) a0 Z := hw _ (mo 221 rfl)
theorem d24_23 : decode Kc24 23 = .ok (.ladd, 1) := by decide +kernel
theorem d24_24 : decode Kc24 24 = .ok (.ladd, 1) := by decide +kernel
theorem d24_25 : decode Kc24 25 = .ok (.putfield 46, 3) := by decide +kernel
theorem d24_28 : decode Kc24 28 = .ok (.aload_n 0, 1) := by decide +kernel
theorem d24_29 : decode Kc24 29 = .ok (.getfield 19, 3) := by decide +kernel
theorem d24_32 : decode Kc24 32 = .ok (.invokeinterface 50 1, 5) := by decide +kernel
abbrev Kc33 := jdk_38_method_8_code
theorem d33_0 : decode Kc33 0 = .ok (.aload_n 0, 1) := by decide +kernel
theorem d33_1 : decode Kc33 1 = .ok (.getfield 48, 3) := by decide +kernel
theorem d33_4 : decode Kc33 4 = .ok (.ireturn, 1) := by decide +kernel
abbrev y_30 : MethodName := ⟨"java/util/ArrayList", "size", "()I"⟩
abbrev Rm30 : Room := rmk 0 0 0 0
def Q30 (Z : State) (a1 : Addr) (h0 : Heap) (n0 : Nat) (v : Option Value) (h : Heap) (L : List Loc) : Prop := v = some (.int 1) ∧ Fr n0 L ∧ h = h0
theorem rm30 (l : Launch) (Z : State) {a0 : Array Value} (hw : OW a0 Z) (a1 : Addr) (h0 : Heap) (n0 : Nat) (Z0 : n0 ≤ h0.size) (F_size_a1 : Fld Z h0 a1 "java/util/ArrayList" "size" "I" (.int 1)) :
    OwnMet l Z y_30 jdk_38_method_8_code 1 (some .int) [] Rm30 #[(.ref a1)] h0 (Q30 Z a1 h0 n0) := by
  refine own_body (plainFor_of_name pn_4) (ef_26f21a a1) ?_
  intro p e s m below meth c s₁ hx hby hml hown hnm hret hZ hH hnd X0 e0
  have N0 := Fr.nil n0
  have B := hbx hby
  obtain ⟨T1, X1, e1, st1⟩ := getF X0 hx hZ hown (host := "") (Or.inl (w_193 hw)) Via.refl e0 F_size_a1 (g := (mkF m 1 #[vr a1] [(.ref a1)])) rfl rfl (B d33_1)
  refine ⟨T1, _, _, _, (some (.int 1)), X1, nofun, by decide, by decide, ?_, fun fs hr => ?_⟩
  · rw [e1]
    exact ⟨rfl, N0, rfl⟩
  · refine sA X0 hx (B d33_0) rfl rfl ?_
    refine st1 _ ?_
    exact retI X1 hx hret (B d33_4) hr
theorem w_241 {a0 Z} (hw : OW a0 Z) : Jvm.Cond.before (.code y_30 jdk_38_method_8_code 1 (some .int)) a0 Z := hw _ (mo 241 rfl)
abbrev y_31 : MethodName := ⟨"java/util/List", "size", "()I"⟩
theorem w_234 {a0 Z} (hw : OW a0 Z) : Jvm.Cond.before (.methodLink "com/example/informal_search/informalsearch/index/Numbering" 50 y_31) a0 Z := hw _ (mo 234 rfl)
theorem w_237 {a0 Z} (hw : OW a0 Z) : Jvm.Cond.before (.selects "java/util/ArrayList" y_31 y_30) a0 Z := hw _ (mo 237 rfl)
theorem w_235 {a0 Z} (hw : OW a0 Z) : Jvm.Cond.before (.declares y_31) a0 Z := hw _ (mo 235 rfl)
theorem w_236 {a0 Z} (hw : OW a0 Z) : Jvm.Cond.before (.interfaceMethod "java/util/List" "java/util/List" "size" "()I") a0 Z := hw _ (mo 236 rfl)
theorem w_238 {a0 Z} (hw : OW a0 Z) : Jvm.Cond.before (.instanceMethod y_30) a0 Z := hw _ (mo 238 rfl)
theorem w_239 {a0 Z} (hw : OW a0 Z) : Jvm.Cond.before (.publicMethod y_30) a0 Z := hw _ (mo 239 rfl)
theorem w_240 {a0 Z} (hw : OW a0 Z) : Jvm.Cond.before (.unhidden "java/util/ArrayList" "size" "()I") a0 Z := hw _ (mo 240 rfl)
theorem d24_37 : decode Kc24 37 = .ok (.iconst 1, 1) := by decide +kernel
theorem d24_38 : decode Kc24 38 = .ok (.isub, 1) := by decide +kernel
theorem d24_39 : decode Kc24 39 = .ok (.ireturn, 1) := by decide +kernel
abbrev y_32 : MethodName := ⟨"com/example/informal_search/informalsearch/index/Numbering", "newNumber", "(Ljava/lang/String;)I"⟩
abbrev Rm31 : Room := rmk 5 1 10 69
def Q31 (Z : State) (a1 a2 a3 a4 : Addr) (ck5 : ClassId) (a6 : Addr) (i7 : Int32) (ck8 : ClassId) (i9 : Int32) (a11 : Addr) (h0 : Heap) (n0 : Nat) (v : Option Value) (h : Heap) (L : List Loc) : Prop := ∃ b2_0 : Addr, ∃ k2_1 : ClassId, v = some (.int 0) ∧ Fr n0 L ∧ Keep h0 h [a3, a1] ∧ Exa Z h a3 "java/util/ArrayList" ∧ Fld Z h a3 "java/util/AbstractList" "modCount" "I" (.int 1) ∧ Fld Z h a3 "java/util/ArrayList" "elementData" "[Ljava/lang/Object;" (.ref b2_0) ∧ Fld Z h a3 "java/util/ArrayList" "size" "I" (.int 1) ∧ Exa Z h a1 "com/example/informal_search/informalsearch/index/Numbering" ∧ Fld Z h a1 "com/example/informal_search/informalsearch/index/Numbering" "bytes" "J" (.long 163) ∧ Fld Z h a1 "com/example/informal_search/informalsearch/index/Numbering" "numbers" "Ljava/util/Map;" (.ref a11) ∧ Fld Z h a1 "com/example/informal_search/informalsearch/index/Numbering" "strings" "Ljava/util/List;" (.ref a3) ∧ h0.size ≤ b2_0 ∧ Exa Z h b2_0 "[Ljava/lang/Object;" ∧ Ovr Z k2_1 "java/lang/Object" ∧ Arv Z h b2_0 k2_1 (.object "java/lang/Object") 10 [(.ref a2), .null, .null, .null, .null, .null, .null, .null, .null, .null] .null
theorem rm31 (l : Launch) (Z : State) {a0 : Array Value} (hw : OW a0 Z) (a1 a2 a3 a4 : Addr) (ck5 : ClassId) (a6 : Addr) (i7 : Int32) (ck8 : ClassId) (i9 : Int32) (a11 : Addr) (h0 : Heap) (n0 : Nat) (Z0 : n0 ≤ h0.size) (F_strings_a1 : Fld Z h0 a1 "com/example/informal_search/informalsearch/index/Numbering" "strings" "Ljava/util/List;" (.ref a3)) (E_a3 : Exa Z h0 a3 "java/util/ArrayList") (F_modCount_a3 : Fld Z h0 a3 "java/util/AbstractList" "modCount" "I" (.int 0)) (g_a3 : n0 ≤ a3) (F_elementData_a3 : Fld Z h0 a3 "java/util/ArrayList" "elementData" "[Ljava/lang/Object;" (.ref a4)) (F_size_a3 : Fld Z h0 a3 "java/util/ArrayList" "size" "I" (.int 0)) (V_a4 : Arv Z h0 a4 ck5 (.object "java/lang/Object") 0 [] .null) (ne_a4_a3 : a4 ≠ a3) (S_DEFAULTCAPACITY_EMPTY_ELEMENTDATA : Sta Z Z.heap "java/util/ArrayList" "DEFAULTCAPACITY_EMPTY_ELEMENTDATA" "[Ljava/lang/Object;" (.ref a4)) (Od0 : Old Z n0 h0) (E_a2 : Exa Z h0 a2 jS) (F_bytes_a1 : Fld Z h0 a1 "com/example/informal_search/informalsearch/index/Numbering" "bytes" "J" (.long 0)) (ne_a1_a3 : a1 ≠ a3) (F_value_a2 : Fld Z h0 a2 jS "value" "[B" (.ref a6)) (ne_a2_a3 : a2 ≠ a3) (V_a6 : Arv Z h0 a6 ck8 .byte 1 [(.int i7)] (.int 0)) (ne_a6_a3 : a6 ≠ a3) (S_COMPACT_STRINGS : Sta Z Z.heap "java/lang/String" "COMPACT_STRINGS" "Z" (.int i9)) (c10 : ¬ (i9 = 0)) (F_coder_a2 : Fld Z h0 a2 jS "coder" "B" (.int 0)) (E_a1 : Exa Z h0 a1 "com/example/informal_search/informalsearch/index/Numbering") (g_a1 : n0 ≤ a1) (F_numbers_a1 : Fld Z h0 a1 "com/example/informal_search/informalsearch/index/Numbering" "numbers" "Ljava/util/Map;" (.ref a11)) :
    OwnMet l Z y_32 prog_38_method_8_code 2 (some .int) [] Rm31 #[(.ref a1), (.ref a2)] h0 (Q31 Z a1 a2 a3 a4 ck5 a6 i7 ck8 i9 a11 h0 n0) := by
  refine own_body (plainFor_of_name pn_5) (ef_463e93 a1 a2) ?_
  intro p e s m below meth c s₁ hx hby hml hown hnm hret hZ hH hnd X0 e0
  have N0 := Fr.nil n0
  have B := hbx hby
  obtain ⟨T1, X1, e1, st1⟩ := getF X0 hx hZ hown (host := "") (Or.inl (w_65 hw)) Via.refl e0 F_strings_a1 (g := (mkF m 1 #[vr a1, vr a2] [(.ref a1)])) rfl rfl (B d24_1)
  obtain ⟨_, T2, L2, X2, hQ2, st2⟩ := own_iface X1 hx hZ hH hown (y := y_26) (z := y_25) E_a3 (w_182 hw) (w_183 hw) (w_184 hw) (w_185 hw) (w_186 hw) (w_187 hw) (w_188 hw) (w_189 hw) (w_43 hw) (w_190 hw) (rm26 l Z hw a3 a2 a4 ck5 h0 n0 Z0 F_modCount_a3 E_a3 g_a3 F_elementData_a3 F_size_a3 V_a4 ne_a4_a3 S_DEFAULTCAPACITY_EMPTY_ELEMENTDATA Od0 E_a2) e1 (Ls := #[vr a1, vr a2]) hml.symm (argsL := [(.ref a2)]) (rest := []) (lenOf pd_16 rfl) (B d24_5) (W := 0)
  obtain ⟨b2_0, k2_1, rfl, Nq2, K2, o2_0, o2_1, o2_2, o2_3, o2_4, o2_5, o2_6, o2_7⟩ := hQ2
  have N2 := Fr.app N0 Nq2
  have s0 := K2.1
  have Fl3 := (F_bytes_a1.keep K2 (ninS ne_a1_a3 nin0))
  obtain ⟨T4, X4, e4, st4⟩ := getF X2 hx hZ hown (host := "") (Or.inl (w_217 hw)) Via.refl rfl Fl3 (g := (mkF m 13 #[vr a1, vr a2] [(.ref a1), (.ref a1)])) rfl rfl (B d24_13)
  have Ex5 := (E_a2.keep K2)
  have Fl6 := (F_value_a2.keep K2 (ninS ne_a2_a3 nin0))
  have Va7 := (V_a6.keep K2 (ninS ne_a6_a3 nin0))
  have Od1 := Od0.keep K2 (allS g_a3 all0)
  have Fl8 := (F_coder_a2.keep K2 (ninS ne_a2_a3 nin0))
  have z1 := Nat.le_trans Z0 s0
  obtain ⟨_, T9, L9, X9, hQ9, st9⟩ := own_callS X4 hx hZ hH hown (y := y_29) (w_220 hw) (w_221 hw) (w_18 hw) (w_222 hw) (rm29 l Z hw a2 a6 i7 ck8 i9 T2.heap n0 z1 Ex5 Fl6 Va7 S_COMPACT_STRINGS Od1 c10 Fl8) e4 (Ls := #[vr a1, vr a2]) hml.symm (argsL := [(.ref a2)]) (rest := [(.long 160), (.long 0), (.ref a1)]) (lenOf pd_18 rfl) (B d24_20) (W := 5)
  obtain ⟨rfl, Nq9, e9⟩ := hQ9
  have N9 := Fr.app N2 Nq9
  have Ex10 := (E_a1.keep K2)
  obtain ⟨T11, h11, X11, e11, W11, st11⟩ := putF X9 hx hZ hown (host := "") (Or.inl (w_217 hw)) Via.refl e9 Fl3 Ex10 (Or.inl (w_218 hw)) (w_17 hw) (ty := .long) (by decide) rfl rfl (g := (mkF m 25 #[vr a1, vr a2] [(.long 163), (.ref a1)])) rfl rfl (B d24_25)
  have s1 := (Keep.of_wr W11).1
  have N11 := Fr.snoc X11 N9 g_a1
  have Fw11 : Fld Z h11 a1 "com/example/informal_search/informalsearch/index/Numbering" "bytes" "J" (.long 163) := Fl3.same W11
  have Ex12 := (Ex10.wr W11)
  have Fl13 := ((F_strings_a1.keep K2 (ninS ne_a1_a3 nin0)).other W11 (Or.inr (slot_ne (Or.inr (w_66 hw)) (Or.inl (w_218 hw)) (by decide) (t := (.object "java/util/List")) (t' := .long) (by decide) (by decide))))
  obtain ⟨T14, X14, e14, st14⟩ := getF X11 hx hZ hown (host := "") (Or.inl (w_65 hw)) Via.refl e11 Fl13 (g := (mkF m 29 #[vr a1, vr a2] [(.ref a1)])) rfl rfl (B d24_29)
  have Ex15 := (o2_0.wr W11)
  have Fl16 := (o2_3.other W11 (Or.inl (Ne.symm ne_a1_a3)))
  have z2 := Nat.le_trans Z0 (Nat.le_trans s0 s1)
  obtain ⟨_, T17, L17, X17, hQ17, st17⟩ := own_iface X14 hx hZ hH hown (y := y_31) (z := y_30) Ex15 (w_234 hw) (w_235 hw) (w_236 hw) (w_237 hw) (w_238 hw) (w_239 hw) (w_240 hw) (w_189 hw) (w_43 hw) (w_241 hw) (rm30 l Z hw a3 h11 n0 z2 Fl16) e14 (Ls := #[vr a1, vr a2]) hml.symm (argsL := []) (rest := []) (lenOf pd_9 rfl) (B d24_32) (W := 0)
  obtain ⟨rfl, Nq17, e17⟩ := hQ17
  have N17 := Fr.app N11 Nq17
  have Fl18 := (o2_1.other W11 (Or.inl (Ne.symm ne_a1_a3)))
  have Fl19 := (o2_2.other W11 (Or.inl (Ne.symm ne_a1_a3)))
  have Fl20 := ((F_numbers_a1.keep K2 (ninS ne_a1_a3 nin0)).other W11 (Or.inr (slot_ne (Or.inr (w_40 hw)) (Or.inl (w_218 hw)) (by decide) (t := (.object "java/util/Map")) (t' := .long) (by decide) (by decide))))
  have sz_b2_0 : h0.size ≤ b2_0 := o2_4
  have Ex21 := (o2_5.wr W11)
  have ne_a1_b2_0 := Nat.ne_of_lt (Nat.lt_of_lt_of_le F_strings_a1.lt o2_4)
  have Va22 := (o2_7.other W11 (Ne.symm ne_a1_b2_0))
  have Kp0 := (Keep.refl h0 [a3, a1]).trans K2 (allS own_m0 all0)
  have Kp1 := Kp0.wr W11 (Or.inl (List.mem_of_getElem? (i := 1) rfl))
  refine ⟨T17, _, _, _, (some (.int 0)), X17, nofun, by decide, by decide, ?_, fun fs hr => ?_⟩
  · rw [e17]
    exact ⟨b2_0, k2_1, rfl, N17, Kp1, Ex15, Fl18, Fl19, Fl16, Ex12, Fw11, Fl20, Fl13, sz_b2_0, Ex21, o2_6, Va22⟩
  · refine sA X0 hx (B d24_0) rfl rfl ?_
    refine st1 _ ?_
    refine sA X1 hx (B d24_4) rfl rfl ?_
    refine st2 _ ?_
    refine XS.pop X2.here hx rfl (B d24_10) rfl rfl ?_
    refine sA X2 hx (B d24_11) rfl rfl ?_
    refine XS.dup X2.here hx rfl (B d24_12) rfl rfl ?_
    refine st4 _ ?_
    refine X4.ldc2Long hx hown (mvT hZ (w_219 hw)) (g := (mkF m 16 #[vr a1, vr a2] [(.long 0), (.ref a1)])) rfl (B d24_16) _ ?_
    refine sA X4 hx (B d24_19) rfl rfl ?_
    refine st9 _ ?_
    refine XS.ladd X9.here hx rfl (B d24_23) rfl ?_
    refine XS.ladd X9.here hx rfl (B d24_24) rfl ?_
    refine st11 _ ?_
    refine sA X11 hx (B d24_28) rfl rfl ?_
    refine st14 _ ?_
    refine st17 _ ?_
    refine sC X17 hx (B d24_37) ?_
    refine XS.isub X17.here hx rfl (B d24_38) rfl ?_
    exact retI X17 hx hret (B d24_39) hr
abbrev Kc34 := jdk_33_method_22_code
theorem d34_0 : decode Kc34 0 = .ok (.iload_n 0, 1) := by decide +kernel
theorem d34_1 : decode Kc34 1 = .ok (.bipush (-128), 2) := by decide +kernel
theorem d34_3 : decode Kc34 3 = .ok (.if_icmp .lt 20, 3) := by decide +kernel
theorem d34_6 : decode Kc34 6 = .ok (.iload_n 0, 1) := by decide +kernel
theorem d34_7 : decode Kc34 7 = .ok (.getstatic 191, 3) := by decide +kernel
theorem w_245 {a0 Z} (hw : OW a0 Z) : Jvm.Cond.before (.fieldLink "java/lang/Integer" 191 "java/lang/Integer$IntegerCache" "high" "I") a0 Z := hw _ (mo 245 rfl)
theorem d34_10 : decode Kc34 10 = .ok (.if_icmp .gt 13, 3) := by decide +kernel
theorem d34_13 : decode Kc34 13 = .ok (.getstatic 195, 3) := by decide +kernel
theorem w_247 {a0 Z} (hw : OW a0 Z) : Jvm.Cond.before (.fieldLink "java/lang/Integer" 195 "java/lang/Integer$IntegerCache" "cache" "[Ljava/lang/Integer;") a0 Z := hw _ (mo 247 rfl)
theorem d34_16 : decode Kc34 16 = .ok (.iload_n 0, 1) := by decide +kernel
theorem d34_17 : decode Kc34 17 = .ok (.sipush 128, 3) := by decide +kernel
theorem d34_20 : decode Kc34 20 = .ok (.iadd, 1) := by decide +kernel
theorem d34_21 : decode Kc34 21 = .ok (.aaload, 1) := by decide +kernel
theorem d34_22 : decode Kc34 22 = .ok (.areturn, 1) := by decide +kernel
theorem ef_0ddcb9  (m : MethodId) : entryFrame m #[(.int 0)] 1 = mkF m 0 #[.val (.int 0)] [] := by first | (simp [entryFrame, mkF, argsToLocals, Value.category]; done) | rfl
abbrev y_33 : MethodName := ⟨"java/lang/Integer", "valueOf", "(I)Ljava/lang/Integer;"⟩
theorem pn_10 : plainName "java/lang/Integer" = true := by first | (simp [plainName, overriddenIn]; done) | decide +kernel
abbrev Rm32 : Room := rmk 0 0 0 0
def Q32 (Z : State) (a1 : Addr) (u2 : List Value) (ck3 : ClassId) (a4 : Addr) (h0 : Heap) (n0 : Nat) (v : Option Value) (h : Heap) (L : List Loc) : Prop := v = some (.ref a4) ∧ Fr n0 L ∧ h = h0
theorem rm32 (l : Launch) (Z : State) {a0 : Array Value} (hw : OW a0 Z) (a1 : Addr) (u2 : List Value) (ck3 : ClassId) (a4 : Addr) (h0 : Heap) (n0 : Nat) (Z0 : n0 ≤ h0.size) (S_high : Sta Z Z.heap "java/lang/Integer$IntegerCache" "high" "I" (.int 127)) (Od0 : Old Z n0 h0) (S_cache : Sta Z Z.heap "java/lang/Integer$IntegerCache" "cache" "[Ljava/lang/Integer;" (.ref a1)) (V_a1 : Arv Z h0 a1 ck3 (.object "java/lang/Integer") 256 u2 .null) (rd5 : u2.getD ((128 : Int32)).toNatClampNeg .null = (.ref a4)) :
    OwnMet l Z y_33 jdk_33_method_22_code 1 (some (.object "java/lang/Integer")) [] Rm32 #[(.int 0)] h0 (Q32 Z a1 u2 ck3 a4 h0 n0) := by
  refine own_body (plainFor_of_name pn_10) (ef_0ddcb9) ?_
  intro p e s m below meth c s₁ hx hby hml hown hnm hret hZ hH hnd X0 e0
  have N0 := Fr.nil n0
  have B := hbx hby
  obtain ⟨T1, X1, e1, st1⟩ := getS2 X0 hx hZ hown (host := "") (Or.inl (w_245 hw)) Via.refl e0 (S_high.ext Od0.2) (g := (mkF m 7 #[vi 0] [(.int 0)])) rfl (B d34_7)
  obtain ⟨T2, X2, e2, st2⟩ := getS2 X1 hx hZ hown (host := "") (Or.inl (w_247 hw)) Via.refl e1 (S_cache.ext Od0.2) (g := (mkF m 13 #[vi 0] [])) rfl (B d34_13)
  obtain ⟨cl3, Ar3, q3, S3, M3, Hs3, G3⟩ := id V_a1
  have hin4 := inb_of (j := 128) S3 ⟨by decide, by decide⟩
  refine ⟨T2, _, _, _, (some (.ref a4)), X2, nofun, by decide, by decide, ?_, fun fs hr => ?_⟩
  · rw [e2]
    exact ⟨rfl, N0, rfl⟩
  · refine sI X0 hx (B d34_0) rfl ?_
    refine XS.bipush X0.here hx rfl (B d34_1) ?_
    refine XS.icmpNo X0.here hx rfl (B d34_3) rfl (flt (by decide : ¬ ((0 : Int32) < (-128 : Int32)))).1 ?_
    refine sI X0 hx (B d34_6) rfl ?_
    refine st1 _ ?_
    refine XS.icmpNo X1.here hx rfl (B d34_10) rfl (flt (by decide : ¬ ((127 : Int32) < (0 : Int32)))).2.2.1 ?_
    refine st2 _ ?_
    refine sI X2 hx (B d34_16) rfl ?_
    refine XS.sipush X2.here hx rfl (B d34_17) ?_
    refine XS.iadd X2.here hx rfl (B d34_20) rfl ?_
    refine X2.aaload hx (j := 128) (v := (.ref a4)) (by rw [e2]; exact Ar3.1) (State.isArrayOf_alike hZ.alike Ar3.2.1) rfl Ar3.2.2 hin4 (Has.at Hs3 hin4 rd5) (g := (mkF m 21 #[vi 0] [(.int 128), (.ref a1)])) rfl rfl (B d34_21) _ ?_
    exact retOut X2 hx hret rfl (Or.inr (Or.inr (Or.inr (Or.inr ⟨rfl, rfl, rfl⟩)))) (B d34_22) hr
theorem w_180 {a0 Z} (hw : OW a0 Z) : Jvm.Cond.before (.privateMethod y_32) a0 Z := hw _ (mo 180 rfl)
theorem w_179 {a0 Z} (hw : OW a0 Z) : Jvm.Cond.before (.instanceMethod y_32) a0 Z := hw _ (mo 179 rfl)
abbrev y_34 : MethodName := ⟨"java/util/function/Function", "apply", "(Ljava/lang/Object;)Ljava/lang/Object;"⟩
theorem w_176 {a0 Z} (hw : OW a0 Z) : Jvm.Cond.before (.methodLink "java/util/HashMap" 274 y_34) a0 Z := hw _ (mo 176 rfl)
theorem w_177 {a0 Z} (hw : OW a0 Z) : Jvm.Cond.before (.declares y_34) a0 Z := hw _ (mo 177 rfl)
theorem w_178 {a0 Z} (hw : OW a0 Z) : Jvm.Cond.before (.interfaceMethod "java/util/function/Function" "java/util/function/Function" "apply" "(Ljava/lang/Object;)Ljava/lang/Object;") a0 Z := hw _ (mo 178 rfl)
theorem w_181 {a0 Z} (hw : OW a0 Z) : Jvm.Cond.before (.code y_32 prog_38_method_8_code 2 (some .int)) a0 Z := hw _ (mo 181 rfl)
theorem w_244 {a0 Z} (hw : OW a0 Z) : Jvm.Cond.before (.code y_33 jdk_33_method_22_code 1 (some (.object "java/lang/Integer"))) a0 Z := hw _ (mo 244 rfl)
theorem w_242 {a0 Z} (hw : OW a0 Z) : Jvm.Cond.before (.static y_33) a0 Z := hw _ (mo 242 rfl)
theorem w_243 {a0 Z} (hw : OW a0 Z) : Jvm.Cond.before (.initialized "java/lang/Integer") a0 Z := hw _ (mo 243 rfl)
theorem d18_207 : decode Kc18 207 = .ok (.astore 12, 2) := by decide +kernel
theorem d18_209 : decode Kc18 209 = .ok (.iload 11, 2) := by decide +kernel
theorem d18_211 : decode Kc18 211 = .ok (.aload_n 0, 1) := by decide +kernel
theorem d18_212 : decode Kc18 212 = .ok (.getfield 202, 3) := by decide +kernel
theorem d18_215 : decode Kc18 215 = .ok (.if_icmp .eq 11, 3) := by decide +kernel
theorem d18_226 : decode Kc18 226 = .ok (.aload 12, 2) := by decide +kernel
theorem d18_228 : decode Kc18 228 = .ok (.ifnonnull 5, 3) := by decide +kernel
theorem d18_233 : decode Kc18 233 = .ok (.aload 10, 2) := by decide +kernel
theorem d18_235 : decode Kc18 235 = .ok (.ifnull 19, 3) := by decide +kernel
theorem d18_254 : decode Kc18 254 = .ok (.aload 9, 2) := by decide +kernel
theorem d18_256 : decode Kc18 256 = .ok (.ifnull 19, 3) := by decide +kernel
theorem d18_275 : decode Kc18 275 = .ok (.aload 4, 2) := by decide +kernel
theorem d18_277 : decode Kc18 277 = .ok (.iload 7, 2) := by decide +kernel
theorem d18_279 : decode Kc18 279 = .ok (.aload_n 0, 1) := by decide +kernel
theorem d18_280 : decode Kc18 280 = .ok (.iload_n 3, 1) := by decide +kernel
theorem d18_281 : decode Kc18 281 = .ok (.aload_n 1, 1) := by decide +kernel
theorem d18_282 : decode Kc18 282 = .ok (.aload 12, 2) := by decide +kernel
theorem d18_284 : decode Kc18 284 = .ok (.aload 5, 2) := by decide +kernel
theorem d18_286 : decode Kc18 286 = .ok (.invokevirtual 186, 3) := by decide +kernel
abbrev Kc35 := jdk_69_method_46_code
theorem d35_0 : decode Kc35 0 = .ok (.new 163, 3) := by decide +kernel
theorem w_253 {a0 Z} (hw : OW a0 Z) : Jvm.Cond.before (.instantiable "java/util/HashMap$Node" 4) a0 Z := hw _ (mo 253 rfl)
theorem w_254 {a0 Z} (hw : OW a0 Z) : Jvm.Cond.before (.initialized "java/util/HashMap$Node") a0 Z := hw _ (mo 254 rfl)
theorem w_261 {a0 Z} (hw : OW a0 Z) : Jvm.Cond.before (.laysFinal "java/util/HashMap$Node" "java/util/HashMap$Node" "hash" "I") a0 Z := hw _ (mo 261 rfl)
theorem w_263 {a0 Z} (hw : OW a0 Z) : Jvm.Cond.before (.laysFinal "java/util/HashMap$Node" "java/util/HashMap$Node" "key" "Ljava/lang/Object;") a0 Z := hw _ (mo 263 rfl)
theorem w_265 {a0 Z} (hw : OW a0 Z) : Jvm.Cond.before (.lays "java/util/HashMap$Node" "java/util/HashMap$Node" "value" "Ljava/lang/Object;") a0 Z := hw _ (mo 265 rfl)
theorem w_267 {a0 Z} (hw : OW a0 Z) : Jvm.Cond.before (.lays "java/util/HashMap$Node" "java/util/HashMap$Node" "next" "Ljava/util/HashMap$Node;") a0 Z := hw _ (mo 267 rfl)
theorem d35_3 : decode Kc35 3 = .ok (.dup, 1) := by decide +kernel
theorem d35_4 : decode Kc35 4 = .ok (.iload_n 1, 1) := by decide +kernel
theorem d35_5 : decode Kc35 5 = .ok (.aload_n 2, 1) := by decide +kernel
theorem d35_6 : decode Kc35 6 = .ok (.aload_n 3, 1) := by decide +kernel
theorem d35_7 : decode Kc35 7 = .ok (.aload 4, 2) := by decide +kernel
theorem d35_9 : decode Kc35 9 = .ok (.invokespecial 375, 3) := by decide +kernel
abbrev Kc36 := jdk_70_method_1_code
theorem d36_0 : decode Kc36 0 = .ok (.aload_n 0, 1) := by decide +kernel
theorem d36_1 : decode Kc36 1 = .ok (.invokespecial 1, 3) := by decide +kernel
theorem w_259 {a0 Z} (hw : OW a0 Z) : Jvm.Cond.before (.methodLink "java/util/HashMap$Node" 1 y_0) a0 Z := hw _ (mo 259 rfl)
theorem d36_4 : decode Kc36 4 = .ok (.aload_n 0, 1) := by decide +kernel
theorem d36_5 : decode Kc36 5 = .ok (.iload_n 1, 1) := by decide +kernel
theorem d36_6 : decode Kc36 6 = .ok (.putfield 7, 3) := by decide +kernel
theorem w_260 {a0 Z} (hw : OW a0 Z) : Jvm.Cond.before (.fieldLink "java/util/HashMap$Node" 7 "java/util/HashMap$Node" "hash" "I") a0 Z := hw _ (mo 260 rfl)
theorem d36_9 : decode Kc36 9 = .ok (.aload_n 0, 1) := by decide +kernel
theorem d36_10 : decode Kc36 10 = .ok (.aload_n 2, 1) := by decide +kernel
theorem d36_11 : decode Kc36 11 = .ok (.putfield 13, 3) := by decide +kernel
theorem w_262 {a0 Z} (hw : OW a0 Z) : Jvm.Cond.before (.fieldLink "java/util/HashMap$Node" 13 "java/util/HashMap$Node" "key" "Ljava/lang/Object;") a0 Z := hw _ (mo 262 rfl)
theorem d36_14 : decode Kc36 14 = .ok (.aload_n 0, 1) := by decide +kernel
theorem d36_15 : decode Kc36 15 = .ok (.aload_n 3, 1) := by decide +kernel
theorem d36_16 : decode Kc36 16 = .ok (.putfield 17, 3) := by decide +kernel
theorem w_264 {a0 Z} (hw : OW a0 Z) : Jvm.Cond.before (.fieldLink "java/util/HashMap$Node" 17 "java/util/HashMap$Node" "value" "Ljava/lang/Object;") a0 Z := hw _ (mo 264 rfl)
theorem d36_19 : decode Kc36 19 = .ok (.aload_n 0, 1) := by decide +kernel
theorem d36_20 : decode Kc36 20 = .ok (.aload 4, 2) := by decide +kernel
theorem d36_22 : decode Kc36 22 = .ok (.putfield 20, 3) := by decide +kernel
theorem w_266 {a0 Z} (hw : OW a0 Z) : Jvm.Cond.before (.fieldLink "java/util/HashMap$Node" 20 "java/util/HashMap$Node" "next" "Ljava/util/HashMap$Node;") a0 Z := hw _ (mo 266 rfl)
theorem d36_25 : decode Kc36 25 = .ok (.return_, 1) := by decide +kernel
theorem ef_d69cd8 (a1 : Addr) (i2 : Int32) (a3 : Addr) (a4 : Addr) (m : MethodId) : entryFrame m #[(.ref a1), (.int i2), (.ref a3), (.ref a4), .null] 5 = mkF m 0 #[.val (.ref a1), .val (.int i2), .val (.ref a3), .val (.ref a4), .val .null] [] := by first | (simp [entryFrame, mkF, argsToLocals, Value.category]; done) | rfl
abbrev y_35 : MethodName := ⟨"java/util/HashMap$Node", "<init>", "(ILjava/lang/Object;Ljava/lang/Object;Ljava/util/HashMap$Node;)V"⟩
theorem pn_11 : plainName "java/util/HashMap$Node" = true := by first | (simp [plainName, overriddenIn]; done) | decide +kernel
abbrev Rm33 : Room := rmk 1 0 0 12
def Q33 (Z : State) (a1 : Addr) (i2 : Int32) (a3 a4 : Addr) (h0 : Heap) (n0 : Nat) (v : Option Value) (h : Heap) (L : List Loc) : Prop := v = none ∧ Fr n0 L ∧ Keep h0 h [a1] ∧ Exa Z h a1 "java/util/HashMap$Node" ∧ Fld Z h a1 "java/util/HashMap$Node" "hash" "I" (.int i2) ∧ Fld Z h a1 "java/util/HashMap$Node" "key" "Ljava/lang/Object;" (.ref a3) ∧ Fld Z h a1 "java/util/HashMap$Node" "next" "Ljava/util/HashMap$Node;" .null ∧ Fld Z h a1 "java/util/HashMap$Node" "value" "Ljava/lang/Object;" (.ref a4)
theorem rm33 (l : Launch) (Z : State) {a0 : Array Value} (hw : OW a0 Z) (a1 : Addr) (i2 : Int32) (a3 a4 : Addr) (h0 : Heap) (n0 : Nat) (Z0 : n0 ≤ h0.size) (F_hash_a1 : Fld Z h0 a1 "java/util/HashMap$Node" "hash" "I" (.int 0)) (E_a1 : Exa Z h0 a1 "java/util/HashMap$Node") (g_a1 : n0 ≤ a1) (F_key_a1 : Fld Z h0 a1 "java/util/HashMap$Node" "key" "Ljava/lang/Object;" .null) (F_value_a1 : Fld Z h0 a1 "java/util/HashMap$Node" "value" "Ljava/lang/Object;" .null) (F_next_a1 : Fld Z h0 a1 "java/util/HashMap$Node" "next" "Ljava/util/HashMap$Node;" .null) :
    OwnMet l Z y_35 jdk_70_method_1_code 5 none [] Rm33 #[(.ref a1), (.int i2), (.ref a3), (.ref a4), .null] h0 (Q33 Z a1 i2 a3 a4 h0 n0) := by
  refine own_body (plainFor_of_name pn_11) (ef_d69cd8 a1 i2 a3 a4) ?_
  intro p e s m below meth c s₁ hx hby hml hown hnm hret hZ hH hnd X0 e0
  have N0 := Fr.nil n0
  have B := hbx hby
  obtain ⟨T1, X1, e1, st1⟩ := initO X0 hx hZ hown (w_259 hw) (w_8 hw) (w_9 hw) e0 (g := (mkF m 1 #[vr a1, vi i2, vr a3, vr a4, .val .null] [(.ref a1)])) rfl hml.symm rfl (B d36_1) (by decide) (W := 0) (by show 2 * 0 + _ ≤ _; exact Nat.le_of_eq rfl) (by decide)
  obtain ⟨T2, h2, X2, e2, W2, st2⟩ := putF X1 hx hZ hown (host := "") (Or.inl (w_260 hw)) Via.refl e1 F_hash_a1 E_a1 (Or.inr ⟨(w_261 hw), rfl, hnm⟩) (w_253 hw) (ty := .int) (by decide) rfl rfl (g := (mkF m 6 #[vr a1, vi i2, vr a3, vr a4, .val .null] [(.int i2), (.ref a1)])) rfl rfl (B d36_6)
  have s0 := (Keep.of_wr W2).1
  have N2 := Fr.snoc X2 N0 g_a1
  have Fw2 : Fld Z h2 a1 "java/util/HashMap$Node" "hash" "I" (.int i2) := F_hash_a1.same W2
  have Ex3 := (E_a1.wr W2)
  have Fl4 := (F_key_a1.other W2 (Or.inr (slot_ne (Or.inr (w_263 hw)) (Or.inr (w_261 hw)) (by decide) (t := (.object "java/lang/Object")) (t' := .int) (by decide) (by decide))))
  obtain ⟨T5, h5, X5, e5, W5, st5⟩ := putF X2 hx hZ hown (host := "") (Or.inl (w_262 hw)) Via.refl e2 Fl4 Ex3 (Or.inr ⟨(w_263 hw), rfl, hnm⟩) (w_253 hw) (ty := (.object "java/lang/Object")) (by decide) rfl rfl (g := (mkF m 11 #[vr a1, vi i2, vr a3, vr a4, .val .null] [(.ref a3), (.ref a1)])) rfl rfl (B d36_11)
  have s1 := (Keep.of_wr W5).1
  have N5 := Fr.snoc X5 N2 g_a1
  have Fw5 : Fld Z h5 a1 "java/util/HashMap$Node" "key" "Ljava/lang/Object;" (.ref a3) := Fl4.same W5
  have Ex6 := (Ex3.wr W5)
  have Fl7 := ((F_value_a1.other W2 (Or.inr (slot_ne (Or.inl (w_265 hw)) (Or.inr (w_261 hw)) (by decide) (t := (.object "java/lang/Object")) (t' := .int) (by decide) (by decide)))).other W5 (Or.inr (slot_ne (Or.inl (w_265 hw)) (Or.inr (w_263 hw)) (by decide) (t := (.object "java/lang/Object")) (t' := (.object "java/lang/Object")) (by decide) (by decide))))
  obtain ⟨T8, h8, X8, e8, W8, st8⟩ := putF X5 hx hZ hown (host := "") (Or.inl (w_264 hw)) Via.refl e5 Fl7 Ex6 (Or.inl (w_265 hw)) (w_253 hw) (ty := (.object "java/lang/Object")) (by decide) rfl rfl (g := (mkF m 16 #[vr a1, vi i2, vr a3, vr a4, .val .null] [(.ref a4), (.ref a1)])) rfl rfl (B d36_16)
  have s2 := (Keep.of_wr W8).1
  have N8 := Fr.snoc X8 N5 g_a1
  have Fw8 : Fld Z h8 a1 "java/util/HashMap$Node" "value" "Ljava/lang/Object;" (.ref a4) := Fl7.same W8
  have Ex9 := (Ex6.wr W8)
  have Fl10 := (((F_next_a1.other W2 (Or.inr (slot_ne (Or.inl (w_267 hw)) (Or.inr (w_261 hw)) (by decide) (t := (.object "java/util/HashMap$Node")) (t' := .int) (by decide) (by decide)))).other W5 (Or.inr (slot_ne (Or.inl (w_267 hw)) (Or.inr (w_263 hw)) (by decide) (t := (.object "java/util/HashMap$Node")) (t' := (.object "java/lang/Object")) (by decide) (by decide)))).other W8 (Or.inr (slot_ne (Or.inl (w_267 hw)) (Or.inl (w_265 hw)) (by decide) (t := (.object "java/util/HashMap$Node")) (t' := (.object "java/lang/Object")) (by decide) (by decide))))
  obtain ⟨T11, h11, X11, e11, W11, st11⟩ := putF X8 hx hZ hown (host := "") (Or.inl (w_266 hw)) Via.refl e8 Fl10 Ex9 (Or.inl (w_267 hw)) (w_253 hw) (ty := (.object "java/util/HashMap$Node")) (by decide) rfl rfl (g := (mkF m 22 #[vr a1, vi i2, vr a3, vr a4, .val .null] [.null, (.ref a1)])) rfl rfl (B d36_22)
  have s3 := (Keep.of_wr W11).1
  have N11 := Fr.snoc X11 N8 g_a1
  have Fw11 : Fld Z h11 a1 "java/util/HashMap$Node" "next" "Ljava/util/HashMap$Node;" .null := Fl10.same W11
  have Ex12 := (Ex9.wr W11)
  have Fl13 := (((Fw2.other W5 (Or.inr (slot_ne (Or.inr (w_261 hw)) (Or.inr (w_263 hw)) (by decide) (t := .int) (t' := (.object "java/lang/Object")) (by decide) (by decide)))).other W8 (Or.inr (slot_ne (Or.inr (w_261 hw)) (Or.inl (w_265 hw)) (by decide) (t := .int) (t' := (.object "java/lang/Object")) (by decide) (by decide)))).other W11 (Or.inr (slot_ne (Or.inr (w_261 hw)) (Or.inl (w_267 hw)) (by decide) (t := .int) (t' := (.object "java/util/HashMap$Node")) (by decide) (by decide))))
  have Fl14 := ((Fw5.other W8 (Or.inr (slot_ne (Or.inr (w_263 hw)) (Or.inl (w_265 hw)) (by decide) (t := (.object "java/lang/Object")) (t' := (.object "java/lang/Object")) (by decide) (by decide)))).other W11 (Or.inr (slot_ne (Or.inr (w_263 hw)) (Or.inl (w_267 hw)) (by decide) (t := (.object "java/lang/Object")) (t' := (.object "java/util/HashMap$Node")) (by decide) (by decide))))
  have Fl15 := (Fw8.other W11 (Or.inr (slot_ne (Or.inl (w_265 hw)) (Or.inl (w_267 hw)) (by decide) (t := (.object "java/lang/Object")) (t' := (.object "java/util/HashMap$Node")) (by decide) (by decide))))
  have Kp0 := (Keep.refl h0 [a1]).wr W2 own_m0
  have Kp1 := Kp0.wr W5 own_m0
  have Kp2 := Kp1.wr W8 own_m0
  have Kp3 := Kp2.wr W11 own_m0
  refine ⟨T11, _, _, _, none, X11, (fun _ => rfl), by decide, by decide, ?_, fun fs hr => ?_⟩
  · rw [e11]
    exact ⟨rfl, N11, Kp3, Ex12, Fl13, Fl14, Fw11, Fl15⟩
  · refine sA X0 hx (B d36_0) rfl rfl ?_
    refine st1 _ ?_
    refine sA X1 hx (B d36_4) rfl rfl ?_
    refine sI X1 hx (B d36_5) rfl ?_
    refine st2 _ ?_
    refine sA X2 hx (B d36_9) rfl rfl ?_
    refine sA X2 hx (B d36_10) rfl rfl ?_
    refine st5 _ ?_
    refine sA X5 hx (B d36_14) rfl rfl ?_
    refine sA X5 hx (B d36_15) rfl rfl ?_
    refine st8 _ ?_
    refine sA X8 hx (B d36_19) rfl rfl ?_
    refine sB X8 hx (B d36_20) rfl rfl ?_
    refine st11 _ ?_
    exact X11.returnOut hx hret (B d36_25) hr
theorem pd_19 : parseMethodDescriptor "(ILjava/lang/Object;Ljava/lang/Object;Ljava/util/HashMap$Node;)V" = some ⟨[.int, (.object "java/lang/Object"), (.object "java/lang/Object"), (.object "java/util/HashMap$Node")], none⟩ := by decide +kernel
theorem w_258 {a0 Z} (hw : OW a0 Z) : Jvm.Cond.before (.code y_35 jdk_70_method_1_code 5 none) a0 Z := hw _ (mo 258 rfl)
theorem w_255 {a0 Z} (hw : OW a0 Z) : Jvm.Cond.before (.methodLink "java/util/HashMap" 375 y_35) a0 Z := hw _ (mo 255 rfl)
theorem w_256 {a0 Z} (hw : OW a0 Z) : Jvm.Cond.before (.instanceMethod y_35) a0 Z := hw _ (mo 256 rfl)
theorem d35_12 : decode Kc35 12 = .ok (.areturn, 1) := by decide +kernel
abbrev y_36 : MethodName := ⟨"java/util/HashMap", "newNode", "(ILjava/lang/Object;Ljava/lang/Object;Ljava/util/HashMap$Node;)Ljava/util/HashMap$Node;"⟩
abbrev Rm34 : Room := rmk 2 1 4 29
def Q34 (Z : State) (a1 : Addr) (i2 : Int32) (a3 a4 : Addr) (h0 : Heap) (n0 : Nat) (v : Option Value) (h : Heap) (L : List Loc) : Prop := ∃ b1 : Addr, v = some (.ref b1) ∧ Fr n0 L ∧ Keep h0 h [] ∧ h0.size ≤ b1 ∧ Exa Z h b1 "java/util/HashMap$Node" ∧ Fld Z h b1 "java/util/HashMap$Node" "hash" "I" (.int i2) ∧ Fld Z h b1 "java/util/HashMap$Node" "key" "Ljava/lang/Object;" (.ref a3) ∧ Fld Z h b1 "java/util/HashMap$Node" "next" "Ljava/util/HashMap$Node;" .null ∧ Fld Z h b1 "java/util/HashMap$Node" "value" "Ljava/lang/Object;" (.ref a4)
theorem rm34 (l : Launch) (Z : State) {a0 : Array Value} (hw : OW a0 Z) (a1 : Addr) (i2 : Int32) (a3 a4 : Addr) (h0 : Heap) (n0 : Nat) (Z0 : n0 ≤ h0.size) :
    OwnMet l Z y_36 jdk_69_method_46_code 5 (some (.object "java/util/HashMap$Node")) [] Rm34 #[(.ref a1), (.int i2), (.ref a3), (.ref a4), .null] h0 (Q34 Z a1 i2 a3 a4 h0 n0) := by
  refine own_body (plainFor_of_name pn_1) (ef_d69cd8 a1 i2 a3 a4) ?_
  intro p e s m below meth c s₁ hx hby hml hown hnm hret hZ hH hnd X0 e0
  have N0 := Fr.nil n0
  have B := hbx hby
  obtain ⟨T1, h1, X1, e1, E1, A1, D1, -, st1⟩ := newO X0 hx hZ hown (w_172 hw) (w_253 hw) (w_254 hw) e0 (g := (mkF m 0 #[vr a1, vi i2, vr a3, vr a4, .val .null] [])) rfl (B d35_0) (by decide) (by decide)
  obtain ⟨b1, g1⟩ : ∃ z, z = h0.size := ⟨_, rfl⟩
  rw [← g1] at A1 D1 st1
  have s0 := E1.1
  have Fn1_hash : Fld Z h1 b1 "java/util/HashMap$Node" "hash" "I" (.int 0) := D1 (Or.inr (w_261 hw)) (ty := .int) (by decide)
  have Fn1_key : Fld Z h1 b1 "java/util/HashMap$Node" "key" "Ljava/lang/Object;" .null := D1 (Or.inr (w_263 hw)) (ty := (.object "java/lang/Object")) (by decide)
  have Fn1_value : Fld Z h1 b1 "java/util/HashMap$Node" "value" "Ljava/lang/Object;" .null := D1 (Or.inl (w_265 hw)) (ty := (.object "java/lang/Object")) (by decide)
  have Fn1_next : Fld Z h1 b1 "java/util/HashMap$Node" "next" "Ljava/util/HashMap$Node;" .null := D1 (Or.inl (w_267 hw)) (ty := (.object "java/util/HashMap$Node")) (by decide)
  have g_b1 : n0 ≤ b1 := Nat.le_trans Z0 (Nat.le_of_eq g1.symm)
  have z1 := Nat.le_trans Z0 s0
  obtain ⟨_, T2, L2, X2, hQ2, st2⟩ := own_special X1 hx hZ hH hown (y := y_35) (a := b1) (w_255 hw) (w_256 hw) (w_254 hw) (w_258 hw) (rm33 l Z hw b1 i2 a3 a4 h1 n0 z1 Fn1_hash A1 g_b1 Fn1_key Fn1_value Fn1_next) e1 (Ls := #[vr a1, vi i2, vr a3, vr a4, .val .null]) hml.symm (argsL := [(.int i2), (.ref a3), (.ref a4), .null]) (rest := [(.ref b1)]) (lenOf pd_19 rfl) (B d35_9) (W := 1)
  obtain ⟨rfl, Nq2, K2, o2_0, o2_1, o2_2, o2_3, o2_4⟩ := hQ2
  have N2 := Fr.app N0 Nq2
  have s1 := K2.1
  have sz_b1 : h0.size ≤ b1 := (Nat.le_of_eq g1.symm)
  have Kp0 := (Keep.refl h0 []).ext E1
  have Kp1 := Kp0.trans K2 (allS (Or.inr sz_b1) all0)
  refine ⟨T2, _, _, _, (some (.ref b1)), X2, nofun, by decide, by decide, ?_, fun fs hr => ?_⟩
  · exact ⟨b1, rfl, N2, Kp1, sz_b1, o2_0, o2_1, o2_2, o2_3, o2_4⟩
  · refine st1 _ ?_
    refine XS.dup X1.here hx rfl (B d35_3) rfl rfl ?_
    refine sI X1 hx (B d35_4) rfl ?_
    refine sA X1 hx (B d35_5) rfl rfl ?_
    refine sA X1 hx (B d35_6) rfl rfl ?_
    refine sB X1 hx (B d35_7) rfl rfl ?_
    refine st2 _ ?_
    exact retOut X2 hx hret rfl (Or.inr (Or.inr (Or.inr (Or.inr ⟨rfl, rfl, rfl⟩)))) (B d35_12) hr
theorem pd_20 : parseMethodDescriptor "(ILjava/lang/Object;Ljava/lang/Object;Ljava/util/HashMap$Node;)Ljava/util/HashMap$Node;" = some ⟨[.int, (.object "java/lang/Object"), (.object "java/lang/Object"), (.object "java/util/HashMap$Node")], some (.object "java/util/HashMap$Node")⟩ := by decide +kernel
theorem w_252 {a0 Z} (hw : OW a0 Z) : Jvm.Cond.before (.code y_36 jdk_69_method_46_code 5 (some (.object "java/util/HashMap$Node"))) a0 Z := hw _ (mo 252 rfl)
theorem w_248 {a0 Z} (hw : OW a0 Z) : Jvm.Cond.before (.methodLink "java/util/HashMap" 186 y_36) a0 Z := hw _ (mo 248 rfl)
theorem w_251 {a0 Z} (hw : OW a0 Z) : Jvm.Cond.before (.selects "java/util/HashMap" y_36 y_36) a0 Z := hw _ (mo 251 rfl)
theorem w_249 {a0 Z} (hw : OW a0 Z) : Jvm.Cond.before (.declares y_36) a0 Z := hw _ (mo 249 rfl)
theorem w_250 {a0 Z} (hw : OW a0 Z) : Jvm.Cond.before (.instanceMethod y_36) a0 Z := hw _ (mo 250 rfl)
theorem d18_289 : decode Kc18 289 = .ok (.aastore, 1) := by decide +kernel
theorem d18_290 : decode Kc18 290 = .ok (.iload 8, 2) := by decide +kernel
theorem d18_292 : decode Kc18 292 = .ok (.bipush 7, 2) := by decide +kernel
theorem d18_294 : decode Kc18 294 = .ok (.if_icmp .lt 10, 3) := by decide +kernel
theorem d18_304 : decode Kc18 304 = .ok (.aload_n 0, 1) := by decide +kernel
theorem d18_305 : decode Kc18 305 = .ok (.iload 11, 2) := by decide +kernel
theorem d18_307 : decode Kc18 307 = .ok (.iconst 1, 1) := by decide +kernel
theorem d18_308 : decode Kc18 308 = .ok (.iadd, 1) := by decide +kernel
theorem d18_309 : decode Kc18 309 = .ok (.putfield 202, 3) := by decide +kernel
theorem d18_312 : decode Kc18 312 = .ok (.aload_n 0, 1) := by decide +kernel
theorem d18_313 : decode Kc18 313 = .ok (.dup, 1) := by decide +kernel
theorem d18_314 : decode Kc18 314 = .ok (.getfield 156, 3) := by decide +kernel
theorem d18_317 : decode Kc18 317 = .ok (.iconst 1, 1) := by decide +kernel
theorem d18_318 : decode Kc18 318 = .ok (.iadd, 1) := by decide +kernel
theorem d18_319 : decode Kc18 319 = .ok (.putfield 156, 3) := by decide +kernel
theorem d18_322 : decode Kc18 322 = .ok (.aload_n 0, 1) := by decide +kernel
theorem d18_323 : decode Kc18 323 = .ok (.iconst 1, 1) := by decide +kernel
theorem d18_324 : decode Kc18 324 = .ok (.invokevirtual 205, 3) := by decide +kernel
abbrev Kc37 := jdk_69_method_52_code
theorem d37_0 : decode Kc37 0 = .ok (.return_, 1) := by decide +kernel
abbrev y_37 : MethodName := ⟨"java/util/HashMap", "afterNodeInsertion", "(Z)V"⟩
abbrev Rm35 : Room := rmk 0 0 0 0
def Q35 (Z : State) (a1 : Addr) (h0 : Heap) (n0 : Nat) (v : Option Value) (h : Heap) (L : List Loc) : Prop := v = none ∧ Fr n0 L ∧ h = h0
theorem rm35 (l : Launch) (Z : State) {a0 : Array Value} (hw : OW a0 Z) (a1 : Addr) (h0 : Heap) (n0 : Nat) (Z0 : n0 ≤ h0.size) :
    OwnMet l Z y_37 jdk_69_method_52_code 2 none [] Rm35 #[(.ref a1), (.int 1)] h0 (Q35 Z a1 h0 n0) := by
  refine own_body (plainFor_of_name pn_1) (ef_218e7d a1) ?_
  intro p e s m below meth c s₁ hx hby hml hown hnm hret hZ hH hnd X0 e0
  have N0 := Fr.nil n0
  have B := hbx hby
  refine ⟨s₁, _, _, _, none, X0, (fun _ => rfl), by decide, by decide, ?_, fun fs hr => ?_⟩
  · rw [e0]
    exact ⟨rfl, N0, rfl⟩
  · exact X0.returnOut hx hret (B d37_0) hr
theorem pd_21 : parseMethodDescriptor "(Z)V" = some ⟨[.boolean], none⟩ := by decide +kernel
theorem w_272 {a0 Z} (hw : OW a0 Z) : Jvm.Cond.before (.code y_37 jdk_69_method_52_code 2 none) a0 Z := hw _ (mo 272 rfl)
theorem w_268 {a0 Z} (hw : OW a0 Z) : Jvm.Cond.before (.methodLink "java/util/HashMap" 205 y_37) a0 Z := hw _ (mo 268 rfl)
theorem w_271 {a0 Z} (hw : OW a0 Z) : Jvm.Cond.before (.selects "java/util/HashMap" y_37 y_37) a0 Z := hw _ (mo 271 rfl)
theorem w_269 {a0 Z} (hw : OW a0 Z) : Jvm.Cond.before (.declares y_37) a0 Z := hw _ (mo 269 rfl)
theorem w_270 {a0 Z} (hw : OW a0 Z) : Jvm.Cond.before (.instanceMethod y_37) a0 Z := hw _ (mo 270 rfl)
theorem d18_327 : decode Kc18 327 = .ok (.aload 12, 2) := by decide +kernel
theorem d18_329 : decode Kc18 329 = .ok (.areturn, 1) := by decide +kernel
theorem ef_a0a7ae (a1 : Addr) (a2 : Addr) (a3 : Addr) (m : MethodId) : entryFrame m #[(.ref a1), (.ref a2), (.ref a3)] 13 = mkF m 0 #[.val (.ref a1), .val (.ref a2), .val (.ref a3), .unset, .unset, .unset, .unset, .unset, .unset, .unset, .unset, .unset, .unset] [] := by first | (simp [entryFrame, mkF, argsToLocals, Value.category]; done) | rfl
abbrev y_38 : MethodName := ⟨"java/util/HashMap", "computeIfAbsent", "(Ljava/lang/Object;Ljava/util/function/Function;)Ljava/lang/Object;"⟩
abbrev Rm36 : Room := rmk 7 3 30 95
def Q36 (Z : State) (a1 a2 a3 : Addr) (i4 : Int32) (a6 : Addr) (i7 : Int32) (ck8 ck9 : ClassId) (a10 a11 a12 : Addr) (ck13 : ClassId) (a14 : Addr) (u15 : List Value) (ck16 : ClassId) (a17 : Addr) (h0 : Heap) (n0 : Nat) (v : Option Value) (h : Heap) (L : List Loc) : Prop := ∃ b13_0 : Addr, ∃ k13_1 : ClassId, ∃ ul43 : List Value, ∃ b35_0 : Addr, ∃ k35_1 : ClassId, v = some (.ref a17) ∧ Fr n0 L ∧ Keep h0 h [a2, a1, a11, a10] ∧ Exa Z h a2 jS ∧ Fld Z h a2 jS "coder" "B" (.int 0) ∧ Fld Z h a2 jS "hash" "I" (.int (if (i7 &&& (255 : Int32)) = 0 then (0 : Int32) else (i7 &&& (255 : Int32)))) ∧ Fld Z h a2 jS "hashIsZero" "Z" (.int (if (i7 &&& (255 : Int32)) = 0 then (1 : Int32) else (0 : Int32))) ∧ Fld Z h a2 jS "value" "[B" (.ref a6) ∧ Exa Z h a1 "java/util/HashMap" ∧ Fld Z h a1 "java/util/HashMap" "loadFactor" "F" (.float 1061158912) ∧ Fld Z h a1 "java/util/HashMap" "modCount" "I" (.int 1) ∧ Fld Z h a1 "java/util/HashMap" "size" "I" (.int 1) ∧ Fld Z h a1 "java/util/HashMap" "table" "[Ljava/util/HashMap$Node;" (.ref b13_0) ∧ Fld Z h a1 "java/util/HashMap" "threshold" "I" (.int 12) ∧ Exa Z h a11 "java/util/ArrayList" ∧ Fld Z h a11 "java/util/AbstractList" "modCount" "I" (.int 1) ∧ Fld Z h a11 "java/util/ArrayList" "elementData" "[Ljava/lang/Object;" (.ref b35_0) ∧ Fld Z h a11 "java/util/ArrayList" "size" "I" (.int 1) ∧ Exa Z h a10 "com/example/informal_search/informalsearch/index/Numbering" ∧ Fld Z h a10 "com/example/informal_search/informalsearch/index/Numbering" "bytes" "J" (.long 163) ∧ Fld Z h a10 "com/example/informal_search/informalsearch/index/Numbering" "numbers" "Ljava/util/Map;" (.ref a1) ∧ Fld Z h a10 "com/example/informal_search/informalsearch/index/Numbering" "strings" "Ljava/util/List;" (.ref a11) ∧ h0.size ≤ b13_0 ∧ Exa Z h b13_0 "[Ljava/util/HashMap$Node;" ∧ Ovr Z k13_1 "java/util/HashMap$Node" ∧ Arv Z h b13_0 k13_1 (.object "java/util/HashMap$Node") 16 ul43 .null ∧ h0.size ≤ b35_0 ∧ Exa Z h b35_0 "[Ljava/lang/Object;" ∧ Ovr Z k35_1 "java/lang/Object" ∧ Arv Z h b35_0 k35_1 (.object "java/lang/Object") 10 [(.ref a2), .null, .null, .null, .null, .null, .null, .null, .null, .null] .null ∧ b13_0 ≠ b35_0
theorem rm36 (l : Launch) (Z : State) {a0 : Array Value} (hw : OW a0 Z) (a1 a2 a3 : Addr) (i4 : Int32) (a6 : Addr) (i7 : Int32) (ck8 ck9 : ClassId) (a10 a11 a12 : Addr) (ck13 : ClassId) (a14 : Addr) (u15 : List Value) (ck16 : ClassId) (a17 : Addr) (h0 : Heap) (n0 : Nat) (Z0 : n0 ≤ h0.size) (E_a2 : Exa Z h0 a2 jS) (F_hash_a2 : Fld Z h0 a2 jS "hash" "I" (.int 0)) (F_hashIsZero_a2 : Fld Z h0 a2 jS "hashIsZero" "Z" (.int 0)) (S_COMPACT_STRINGS : Sta Z Z.heap "java/lang/String" "COMPACT_STRINGS" "Z" (.int i4)) (Od0 : Old Z n0 h0) (c5 : ¬ (i4 = 0)) (F_coder_a2 : Fld Z h0 a2 jS "coder" "B" (.int 0)) (F_value_a2 : Fld Z h0 a2 jS "value" "[B" (.ref a6)) (V_a6 : Arv Z h0 a6 ck8 .byte 1 [(.int i7)] (.int 0)) (g_a2 : n0 ≤ a2) (F_size_a1 : Fld Z h0 a1 "java/util/HashMap" "size" "I" (.int 0)) (ne_a1_a2 : a1 ≠ a2) (F_threshold_a1 : Fld Z h0 a1 "java/util/HashMap" "threshold" "I" (.int 0)) (F_table_a1 : Fld Z h0 a1 "java/util/HashMap" "table" "[Ljava/util/HashMap$Node;" .null) (E_a1 : Exa Z h0 a1 "java/util/HashMap") (g_a1 : n0 ≤ a1) (F_loadFactor_a1 : Fld Z h0 a1 "java/util/HashMap" "loadFactor" "F" (.float 1061158912)) (F_modCount_a1 : Fld Z h0 a1 "java/util/HashMap" "modCount" "I" (.int 0)) (L_a3 : OwnFn h0 a3 ck9 a10) (ne_a3_a2 : a3 ≠ a2) (ne_a3_a1 : a3 ≠ a1) (E_a10 : Exa Z h0 a10 "com/example/informal_search/informalsearch/index/Numbering") (Site : OwnSite Z ck9) (F_strings_a10 : Fld Z h0 a10 "com/example/informal_search/informalsearch/index/Numbering" "strings" "Ljava/util/List;" (.ref a11)) (ne_a10_a2 : a10 ≠ a2) (ne_a10_a1 : a10 ≠ a1) (E_a11 : Exa Z h0 a11 "java/util/ArrayList") (F_modCount_a11 : Fld Z h0 a11 "java/util/AbstractList" "modCount" "I" (.int 0)) (ne_a11_a2 : a11 ≠ a2) (ne_a11_a1 : a11 ≠ a1) (g_a11 : n0 ≤ a11) (F_elementData_a11 : Fld Z h0 a11 "java/util/ArrayList" "elementData" "[Ljava/lang/Object;" (.ref a12)) (F_size_a11 : Fld Z h0 a11 "java/util/ArrayList" "size" "I" (.int 0)) (V_a12 : Arv Z h0 a12 ck13 (.object "java/lang/Object") 0 [] .null) (ne_a12_a2 : a12 ≠ a2) (ne_a12_a1 : a12 ≠ a1) (ne_a12_a11 : a12 ≠ a11) (S_DEFAULTCAPACITY_EMPTY_ELEMENTDATA : Sta Z Z.heap "java/util/ArrayList" "DEFAULTCAPACITY_EMPTY_ELEMENTDATA" "[Ljava/lang/Object;" (.ref a12)) (F_bytes_a10 : Fld Z h0 a10 "com/example/informal_search/informalsearch/index/Numbering" "bytes" "J" (.long 0)) (ne_a10_a11 : a10 ≠ a11) (ne_a6_a2 : a6 ≠ a2) (ne_a6_a1 : a6 ≠ a1) (ne_a6_a11 : a6 ≠ a11) (g_a10 : n0 ≤ a10) (F_numbers_a10 : Fld Z h0 a10 "com/example/informal_search/informalsearch/index/Numbering" "numbers" "Ljava/util/Map;" (.ref a1)) (S_high : Sta Z Z.heap "java/lang/Integer$IntegerCache" "high" "I" (.int 127)) (S_cache : Sta Z Z.heap "java/lang/Integer$IntegerCache" "cache" "[Ljava/lang/Integer;" (.ref a14)) (V_a14 : Arv Z h0 a14 ck16 (.object "java/lang/Integer") 256 u15 .null) (ne_a14_a2 : a14 ≠ a2) (ne_a14_a1 : a14 ≠ a1) (ne_a14_a11 : a14 ≠ a11) (ne_a14_a10 : a14 ≠ a10) (rd18 : u15.getD ((128 : Int32)).toNatClampNeg .null = (.ref a17)) :
    OwnMet l Z y_38 jdk_69_method_35_code 13 (some (.object "java/lang/Object")) [] Rm36 #[(.ref a1), (.ref a2), (.ref a3)] h0 (Q36 Z a1 a2 a3 i4 a6 i7 ck8 ck9 a10 a11 a12 ck13 a14 u15 ck16 a17 h0 n0) := by
  refine own_body (plainFor_of_name pn_1) (ef_a0a7ae a1 a2 a3) ?_
  intro p e s m below meth c s₁ hx hby hml hown hnm hret hZ hH hnd X0 e0
  have N0 := Fr.nil n0
  have B := hbx hby
  obtain ⟨_, T1, L1, X1, hQ1, st1⟩ := own_callS X0 hx hZ hH hown (y := y_19) (w_139 hw) (w_140 hw) (w_25 hw) (w_141 hw) (rm20 l Z hw a2 i4 a6 i7 ck8 h0 n0 Z0 E_a2 F_hash_a2 F_hashIsZero_a2 S_COMPACT_STRINGS Od0 c5 F_coder_a2 F_value_a2 V_a6 g_a2) e0 (Ls := #[vr a1, vr a2, vr a3, un, un, un, un, un, un, un, un, un, un]) hml.symm (argsL := [(.ref a2)]) (rest := []) (lenOf pd_10 rfl) (B d18_13) (W := 0)
  obtain ⟨rfl, Nq1, K1, o1_0, o1_1, o1_2, o1_3, o1_4⟩ := hQ1
  have N1 := Fr.app N0 Nq1
  have s0 := K1.1
  obtain ⟨x2, ex2⟩ : ∃ z, z = (if (i7 &&& (255 : Int32)) = 0 then (0 : Int32) else (i7 &&& (255 : Int32))) := ⟨_, rfl⟩
  have o1_2' : Fld Z T1.heap a2 jS "hash" "I" (.int x2) := by rw [ex2]; exact o1_2
  obtain ⟨x3, ex3⟩ : ∃ z, z = (if (i7 &&& (255 : Int32)) = 0 then (1 : Int32) else (0 : Int32)) := ⟨_, rfl⟩
  have o1_3' : Fld Z T1.heap a2 jS "hashIsZero" "Z" (.int x3) := by rw [ex3]; exact o1_3
  have Fl4 := (F_size_a1.keep K1 (ninS ne_a1_a2 nin0))
  obtain ⟨T5, X5, e5, st5⟩ := getF X1 hx hZ hown (host := "") (Or.inl (w_161 hw)) Via.refl rfl Fl4 (g := (mkF m 27 #[vr a1, vr a2, vr a3, vi ((i7 &&& (255 : Int32)) ^^^ (((i7 &&& (255 : Int32)).toUInt32 >>> ((16 : Int32) &&& 31).toUInt32).toInt32)), un, un, un, un, vi 0, .val .null, .val .null, un, un] [(.ref a1)])) rfl rfl (B d18_27)
  have Fl6 := (F_threshold_a1.keep K1 (ninS ne_a1_a2 nin0))
  obtain ⟨T7, X7, e7, st7⟩ := getF X5 hx hZ hown (host := "") (Or.inl (w_163 hw)) Via.refl e5 Fl6 (g := (mkF m 31 #[vr a1, vr a2, vr a3, vi ((i7 &&& (255 : Int32)) ^^^ (((i7 &&& (255 : Int32)).toUInt32 >>> ((16 : Int32) &&& 31).toUInt32).toInt32)), un, un, un, un, vi 0, .val .null, .val .null, un, un] [(.ref a1), (.int 0)])) rfl rfl (B d18_31)
  have Fl8 := (F_table_a1.keep K1 (ninS ne_a1_a2 nin0))
  obtain ⟨T9, X9, e9, st9⟩ := getF X7 hx hZ hown (host := "") (Or.inl (w_165 hw)) Via.refl e7 Fl8 (g := (mkF m 38 #[vr a1, vr a2, vr a3, vi ((i7 &&& (255 : Int32)) ^^^ (((i7 &&& (255 : Int32)).toUInt32 >>> ((16 : Int32) &&& 31).toUInt32).toInt32)), un, un, un, un, vi 0, .val .null, .val .null, un, un] [(.ref a1)])) rfl rfl (B d18_38)
  have Ex10 := (E_a1.keep K1)
  have Fl11 := (F_loadFactor_a1.keep K1 (ninS ne_a1_a2 nin0))
  have Fl12 := (F_modCount_a1.keep K1 (ninS ne_a1_a2 nin0))
  have z1 := Nat.le_trans Z0 s0
  obtain ⟨_, T13, L13, X13, hQ13, st13⟩ := own_virtual X9 hx hZ hH hown (y := y_20) (z := y_20) Ex10 (w_167 hw) (w_168 hw) (own_nf hZ (w_170 hw)) (w_170 hw) (w_169 hw) (w_25 hw) (w_171 hw) (rm21 l Z hw a1 T1.heap n0 z1 Fl8 Fl6 Ex10 g_a1 Fl11 Fl12 Fl4) e9 (Ls := #[vr a1, vr a2, vr a3, vi ((i7 &&& (255 : Int32)) ^^^ (((i7 &&& (255 : Int32)).toUInt32 >>> ((16 : Int32) &&& 31).toUInt32).toInt32)), .val .null, un, un, un, vi 0, .val .null, .val .null, un, un]) hml.symm (argsL := []) (rest := []) (lenOf pd_11 rfl) (B d18_57) (W := 0)
  obtain ⟨b13_0, k13_1, rfl, Nq13, K13, o13_0, o13_1, o13_2, o13_3, o13_4, o13_5, o13_6, o13_7, o13_8, o13_9⟩ := hQ13
  have N13 := Fr.app N1 Nq13
  have s1 := K13.1
  obtain ⟨cl14, Ar14, q14, S14, M14, Hs14, G14⟩ := id o13_9
  have cd15 : ¬ (((15 : Int32) &&& ((i7 &&& (255 : Int32)) ^^^ (((i7 &&& (255 : Int32)).toUInt32 >>> ((16 : Int32) &&& 31).toUInt32).toInt32))) < 0) := (by rw [Int32.lt_iff_toInt_lt]; have := rng32 ((15 : Int32) &&& ((i7 &&& (255 : Int32)) ^^^ (((i7 &&& (255 : Int32)).toUInt32 >>> ((16 : Int32) &&& 31).toUInt32).toInt32))); have := rng32 ((i7 &&& (255 : Int32)) ^^^ (((i7 &&& (255 : Int32)).toUInt32 >>> ((16 : Int32) &&& 31).toUInt32).toInt32)); have := rng32 (i7 &&& (255 : Int32)); have := rng32 i7; have := own_mask i7 (255 : Int32) 8 (by decide) (by decide) 256 (by decide); have := rng32 (((i7 &&& (255 : Int32)).toUInt32 >>> ((16 : Int32) &&& 31).toUInt32).toInt32); have : ((16 : Int32)).toInt = 16 := (by decide); have := own_ushr (i7 &&& (255 : Int32)) (16 : Int32) 16 (by decide) (by decide) 65536 (by decide); have : ((15 : Int32)).toInt = 15 := (by decide); have := c_and' (15 : Int32) ((i7 &&& (255 : Int32)) ^^^ (((i7 &&& (255 : Int32)).toUInt32 >>> ((16 : Int32) &&& 31).toUInt32).toInt32)) (by decide); have : ((0 : Int32)).toInt = 0 := (by decide); omega)
  have cd16 : ((15 : Int32) &&& ((i7 &&& (255 : Int32)) ^^^ (((i7 &&& (255 : Int32)).toUInt32 >>> ((16 : Int32) &&& 31).toUInt32).toInt32))) < 16 := (by rw [Int32.lt_iff_toInt_lt]; have := rng32 ((15 : Int32) &&& ((i7 &&& (255 : Int32)) ^^^ (((i7 &&& (255 : Int32)).toUInt32 >>> ((16 : Int32) &&& 31).toUInt32).toInt32))); have := rng32 ((i7 &&& (255 : Int32)) ^^^ (((i7 &&& (255 : Int32)).toUInt32 >>> ((16 : Int32) &&& 31).toUInt32).toInt32)); have := rng32 (i7 &&& (255 : Int32)); have := rng32 i7; have := own_mask i7 (255 : Int32) 8 (by decide) (by decide) 256 (by decide); have := rng32 (((i7 &&& (255 : Int32)).toUInt32 >>> ((16 : Int32) &&& 31).toUInt32).toInt32); have : ((16 : Int32)).toInt = 16 := (by decide); have := own_ushr (i7 &&& (255 : Int32)) (16 : Int32) 16 (by decide) (by decide) 65536 (by decide); have : ((15 : Int32)).toInt = 15 := (by decide); have := c_and' (15 : Int32) ((i7 &&& (255 : Int32)) ^^^ (((i7 &&& (255 : Int32)).toUInt32 >>> ((16 : Int32) &&& 31).toUInt32).toInt32)) (by decide); omega)
  have hin17 := inb_of (j := ((15 : Int32) &&& ((i7 &&& (255 : Int32)) ^^^ (((i7 &&& (255 : Int32)).toUInt32 >>> ((16 : Int32) &&& 31).toUInt32).toInt32)))) S14 ⟨cd15, cd16⟩
  obtain ⟨T18, X18, e18, st18⟩ := getF X13 hx hZ hown (host := "") (Or.inl (w_174 hw)) Via.refl rfl o13_2 (g := (mkF m 195 #[vr a1, vr a2, vr a3, vi ((i7 &&& (255 : Int32)) ^^^ (((i7 &&& (255 : Int32)).toUInt32 >>> ((16 : Int32) &&& 31).toUInt32).toInt32)), vr b13_0, .val .null, vi 16, vi ((15 : Int32) &&& ((i7 &&& (255 : Int32)) ^^^ (((i7 &&& (255 : Int32)).toUInt32 >>> ((16 : Int32) &&& 31).toUInt32).toInt32))), vi 0, .val .null, .val .null, un, un] [(.ref a1)])) rfl rfl (B d18_195)
  have Lf19 := ((L_a3.keep K1 (ninS ne_a3_a2 nin0)).keep K13 (ninS ne_a3_a1 nin0))
  have Ex20 := ((E_a10.keep K1).keep K13)
  have Ex21 := (o1_0.keep K13)
  have Fl22 := ((F_strings_a10.keep K1 (ninS ne_a10_a2 nin0)).keep K13 (ninS ne_a10_a1 nin0))
  have Ex23 := ((E_a11.keep K1).keep K13)
  have Fl24 := ((F_modCount_a11.keep K1 (ninS ne_a11_a2 nin0)).keep K13 (ninS ne_a11_a1 nin0))
  have Fl25 := ((F_elementData_a11.keep K1 (ninS ne_a11_a2 nin0)).keep K13 (ninS ne_a11_a1 nin0))
  have Fl26 := ((F_size_a11.keep K1 (ninS ne_a11_a2 nin0)).keep K13 (ninS ne_a11_a1 nin0))
  have Va27 := ((V_a12.keep K1 (ninS ne_a12_a2 nin0)).keep K13 (ninS ne_a12_a1 nin0))
  have Od1 := Od0.keep K1 (allS g_a2 all0)
  have Od2 := Od1.keep K13 (allS g_a1 all0)
  have Fl28 := ((F_bytes_a10.keep K1 (ninS ne_a10_a2 nin0)).keep K13 (ninS ne_a10_a1 nin0))
  have Fl29 := (o1_4.keep K13 (ninS (Ne.symm ne_a1_a2) nin0))
  have Va30 := ((V_a6.keep K1 (ninS ne_a6_a2 nin0)).keep K13 (ninS ne_a6_a1 nin0))
  have Fl31 := (o1_1.keep K13 (ninS (Ne.symm ne_a1_a2) nin0))
  have Fl32 := ((F_numbers_a10.keep K1 (ninS ne_a10_a2 nin0)).keep K13 (ninS ne_a10_a1 nin0))
  have z2 := Nat.le_trans Z0 (Nat.le_trans s0 s1)
  obtain ⟨T35, La35, Lb35, X35, hQ35, hR35, st35⟩ := own_apply X18 hx hH hown Site (w_176 hw) (w_177 hw) (w_178 hw) (w_129 hw) (w_90 hw) (w_181 hw) (w_179 hw) (fun U hU => Jvm.Kit.selects_private (by decide) (mvT hU.wide (w_17 hw)) (mvP hU.wide (w_180 hw)) (mvT hU.wide (w_179 hw))) (w_18 hw) (w_244 hw) (w_242 hw) (w_243 hw) Lf19 Ex20 Ex21 (rm31 l Z hw a10 a2 a11 a12 ck13 a6 i7 ck8 i4 a1 T13.heap n0 z2 Fl22 Ex23 Fl24 g_a11 Fl25 Fl26 Va27 ne_a12_a11 S_DEFAULTCAPACITY_EMPTY_ELEMENTDATA Od2 Ex21 Fl28 ne_a10_a11 Fl29 (Ne.symm ne_a11_a2) Va30 ne_a6_a11 S_COMPACT_STRINGS c5 Fl31 Ex20 g_a10 Fl32) (fun _ _ _ q => by obtain ⟨_, _, e_, -⟩ := q; exact e_) (fun h' L q => by obtain ⟨b33_0, k33_1, -, Nq33, K33, o33_0, o33_1, o33_2, o33_3, o33_4, o33_5, o33_6, o33_7, o33_8, o33_9, o33_10, o33_11⟩ := q; have N33 := Fr.app N13 Nq33; have s2 := K33.1; have Od3 := Od2.keep K33 (allS g_a11 (allS g_a10 all0)); have Va34 := (((V_a14.keep K1 (ninS ne_a14_a2 nin0)).keep K13 (ninS ne_a14_a1 nin0)).keep K33 (ninS ne_a14_a11 (ninS ne_a14_a10 nin0))); have z3 := Nat.le_trans Z0 (Nat.le_trans (Nat.le_trans s0 s1) s2); exact (rm32 l Z hw a14 u15 ck16 a17 h' n0 z3 S_high Od3 S_cache Va34 rd18)) (fun _ _ _ _ q => by obtain ⟨a_, -, b_⟩ := q; exact ⟨a_, b_⟩) e18 (Ls := #[vr a1, vr a2, vr a3, vi ((i7 &&& (255 : Int32)) ^^^ (((i7 &&& (255 : Int32)).toUInt32 >>> ((16 : Int32) &&& 31).toUInt32).toInt32)), vr b13_0, .val .null, vi 16, vi ((15 : Int32) &&& ((i7 &&& (255 : Int32)) ^^^ (((i7 &&& (255 : Int32)).toUInt32 >>> ((16 : Int32) &&& 31).toUInt32).toInt32))), vi 0, .val .null, .val .null, vi 0, un]) (rest := []) hml.symm (B d18_202) (W := 0) (Nat.le_of_eq rfl) (Rk := rmk 6 1 10 82) (by decide) (by decide) (by decide) (by decide) (by decide) (by decide) (by decide) (by decide) (by decide) (by decide)
  obtain ⟨b35_0, k35_1, -, Nq35, K35, o35_0, o35_1, o35_2, o35_3, o35_4, o35_5, o35_6, o35_7, o35_8, o35_9, o35_10, o35_11⟩ := hQ35
  have N35 := Fr.app N13 (Fr.app Nq35 hR35.2.1)
  have s2 := K35.1
  have Fl36 := (o13_2.keep K35 (ninS (Ne.symm ne_a11_a1) (ninS (Ne.symm ne_a10_a1) nin0)))
  obtain ⟨T37, X37, e37, st37⟩ := getF X35 hx hZ hown (host := "") (Or.inl (w_174 hw)) Via.refl rfl Fl36 (g := (mkF m 212 #[vr a1, vr a2, vr a3, vi ((i7 &&& (255 : Int32)) ^^^ (((i7 &&& (255 : Int32)).toUInt32 >>> ((16 : Int32) &&& 31).toUInt32).toInt32)), vr b13_0, .val .null, vi 16, vi ((15 : Int32) &&& ((i7 &&& (255 : Int32)) ^^^ (((i7 &&& (255 : Int32)).toUInt32 >>> ((16 : Int32) &&& 31).toUInt32).toInt32))), vi 0, .val .null, .val .null, vi 0, vr a17] [(.ref a1), (.int 0)])) rfl rfl (B d18_212)
  have Ex38 := (o13_0.keep K35)
  have z3 := Nat.le_trans Z0 (Nat.le_trans (Nat.le_trans s0 s1) s2)
  obtain ⟨_, T39, L39, X39, hQ39, st39⟩ := own_virtual X37 hx hZ hH hown (y := y_36) (z := y_36) Ex38 (w_248 hw) (w_249 hw) (own_nf hZ (w_251 hw)) (w_251 hw) (w_250 hw) (w_25 hw) (w_252 hw) (rm34 l Z hw a1 ((i7 &&& (255 : Int32)) ^^^ (((i7 &&& (255 : Int32)).toUInt32 >>> ((16 : Int32) &&& 31).toUInt32).toInt32)) a2 a17 T35.heap n0 z3) e37 (Ls := #[vr a1, vr a2, vr a3, vi ((i7 &&& (255 : Int32)) ^^^ (((i7 &&& (255 : Int32)).toUInt32 >>> ((16 : Int32) &&& 31).toUInt32).toInt32)), vr b13_0, .val .null, vi 16, vi ((15 : Int32) &&& ((i7 &&& (255 : Int32)) ^^^ (((i7 &&& (255 : Int32)).toUInt32 >>> ((16 : Int32) &&& 31).toUInt32).toInt32))), vi 0, .val .null, .val .null, vi 0, vr a17]) hml.symm (argsL := [(.int ((i7 &&& (255 : Int32)) ^^^ (((i7 &&& (255 : Int32)).toUInt32 >>> ((16 : Int32) &&& 31).toUInt32).toInt32))), (.ref a2), (.ref a17), .null]) (rest := [(.int ((15 : Int32) &&& ((i7 &&& (255 : Int32)) ^^^ (((i7 &&& (255 : Int32)).toUInt32 >>> ((16 : Int32) &&& 31).toUInt32).toInt32)))), (.ref b13_0)]) (lenOf pd_20 rfl) (B d18_286) (W := 2)
  obtain ⟨b39_0, rfl, Nq39, K39, o39_0, o39_1, o39_2, o39_3, o39_4, o39_5⟩ := hQ39
  have N39 := Fr.app N35 Nq39
  have s3 := K39.1
  have ne_a11_b13_0 := Nat.ne_of_lt (Nat.lt_of_lt_of_le (Nat.lt_of_lt_of_le F_size_a11.lt s0) o13_6)
  have ne_a10_b13_0 := Nat.ne_of_lt (Nat.lt_of_lt_of_le (Nat.lt_of_lt_of_le F_strings_a10.lt s0) o13_6)
  have Va40 := ((o13_9.keep K35 (ninS (Ne.symm ne_a11_b13_0) (ninS (Ne.symm ne_a10_b13_0) nin0))).keep K39 nin0)
  obtain ⟨cl41, Ar41, q41, S41, M41, Hs41, G41⟩ := id Va40
  have hin42 := inb_of (j := ((15 : Int32) &&& ((i7 &&& (255 : Int32)) ^^^ (((i7 &&& (255 : Int32)).toUInt32 >>> ((16 : Int32) &&& 31).toUInt32).toInt32)))) S41 ⟨cd15, cd16⟩
  obtain ⟨T43, h43, X43, e43, W43, st43⟩ := stR X39 hx hZ rfl Ar41 (j := ((15 : Int32) &&& ((i7 &&& (255 : Int32)) ^^^ (((i7 &&& (255 : Int32)).toUInt32 >>> ((16 : Int32) &&& 31).toUInt32).toInt32)))) hin42 rfl (Sto.ofV Ar41 q41 o13_8 (Ins.self o39_1)) (g := (mkF m 289 #[vr a1, vr a2, vr a3, vi ((i7 &&& (255 : Int32)) ^^^ (((i7 &&& (255 : Int32)).toUInt32 >>> ((16 : Int32) &&& 31).toUInt32).toInt32)), vr b13_0, .val .null, vi 16, vi ((15 : Int32) &&& ((i7 &&& (255 : Int32)) ^^^ (((i7 &&& (255 : Int32)).toUInt32 >>> ((16 : Int32) &&& 31).toUInt32).toInt32))), vi 0, .val .null, .val .null, vi 0, vr a17] [(.ref b39_0), (.int ((15 : Int32) &&& ((i7 &&& (255 : Int32)) ^^^ (((i7 &&& (255 : Int32)).toUInt32 >>> ((16 : Int32) &&& 31).toUInt32).toInt32)))), (.ref b13_0)])) rfl rfl (B d18_289)
  have s4 := (Keep.of_wr W43).1
  have g_b13_0 : n0 ≤ b13_0 := Nat.le_trans z1 o13_6
  have N43 := Fr.snoc X43 N39 g_b13_0
  obtain ⟨ul43, Vs43⟩ : ∃ u, Arv Z h43 b13_0 k13_1 (.object "java/util/HashMap$Node") (16 : Int32) u .null := ⟨_, Arv.set Ar41 q41 S41 M41 Hs41 G41 rfl W43 _ rfl (Nat.lt_of_not_le (fun y => hin42 (Or.inr (by rw [S41]; exact y))))⟩
  have ne_a1_b13_0 := Nat.ne_of_lt (Nat.lt_of_lt_of_le Fl8.lt o13_6)
  have Fl44 := ((Fl36.keep K39 nin0).other W43 (Or.inl ne_a1_b13_0))
  have Ex45 := ((Ex38.keep K39).wr W43)
  obtain ⟨T46, h46, X46, e46, W46, st46⟩ := putF X43 hx hZ hown (host := "") (Or.inl (w_174 hw)) Via.refl e43 Fl44 Ex45 (Or.inl (w_175 hw)) (w_24 hw) (ty := .int) (by decide) rfl rfl (g := (mkF m 309 #[vr a1, vr a2, vr a3, vi ((i7 &&& (255 : Int32)) ^^^ (((i7 &&& (255 : Int32)).toUInt32 >>> ((16 : Int32) &&& 31).toUInt32).toInt32)), vr b13_0, .val .null, vi 16, vi ((15 : Int32) &&& ((i7 &&& (255 : Int32)) ^^^ (((i7 &&& (255 : Int32)).toUInt32 >>> ((16 : Int32) &&& 31).toUInt32).toInt32))), vi 0, .val .null, .val .null, vi 0, vr a17] [(.int 1), (.ref a1)])) rfl rfl (B d18_309)
  have s5 := (Keep.of_wr W46).1
  have N46 := Fr.snoc X46 N43 g_a1
  have Fw46 : Fld Z h46 a1 "java/util/HashMap" "modCount" "I" (.int 1) := Fl44.same W46
  have Ex47 := (Ex45.wr W46)
  have Fl48 := ((((o13_3.keep K35 (ninS (Ne.symm ne_a11_a1) (ninS (Ne.symm ne_a10_a1) nin0))).keep K39 nin0).other W43 (Or.inl ne_a1_b13_0)).other W46 (Or.inr (slot_ne (Or.inl (w_162 hw)) (Or.inl (w_175 hw)) (by decide) (t := .int) (t' := .int) (by decide) (by decide))))
  obtain ⟨T49, X49, e49, st49⟩ := getF X46 hx hZ hown (host := "") (Or.inl (w_161 hw)) Via.refl e46 Fl48 (g := (mkF m 314 #[vr a1, vr a2, vr a3, vi ((i7 &&& (255 : Int32)) ^^^ (((i7 &&& (255 : Int32)).toUInt32 >>> ((16 : Int32) &&& 31).toUInt32).toInt32)), vr b13_0, .val .null, vi 16, vi ((15 : Int32) &&& ((i7 &&& (255 : Int32)) ^^^ (((i7 &&& (255 : Int32)).toUInt32 >>> ((16 : Int32) &&& 31).toUInt32).toInt32))), vi 0, .val .null, .val .null, vi 0, vr a17] [(.ref a1), (.ref a1)])) rfl rfl (B d18_314)
  obtain ⟨T50, h50, X50, e50, W50, st50⟩ := putF X49 hx hZ hown (host := "") (Or.inl (w_161 hw)) Via.refl e49 Fl48 Ex47 (Or.inl (w_162 hw)) (w_24 hw) (ty := .int) (by decide) rfl rfl (g := (mkF m 319 #[vr a1, vr a2, vr a3, vi ((i7 &&& (255 : Int32)) ^^^ (((i7 &&& (255 : Int32)).toUInt32 >>> ((16 : Int32) &&& 31).toUInt32).toInt32)), vr b13_0, .val .null, vi 16, vi ((15 : Int32) &&& ((i7 &&& (255 : Int32)) ^^^ (((i7 &&& (255 : Int32)).toUInt32 >>> ((16 : Int32) &&& 31).toUInt32).toInt32))), vi 0, .val .null, .val .null, vi 0, vr a17] [(.int 1), (.ref a1)])) rfl rfl (B d18_319)
  have s6 := (Keep.of_wr W50).1
  have N50 := Fr.snoc X50 N46 g_a1
  have Fw50 : Fld Z h50 a1 "java/util/HashMap" "size" "I" (.int 1) := Fl48.same W50
  have Ex51 := (Ex47.wr W50)
  have z7 := Nat.le_trans Z0 (Nat.le_trans (Nat.le_trans (Nat.le_trans (Nat.le_trans (Nat.le_trans (Nat.le_trans s0 s1) s2) s3) s4) s5) s6)
  obtain ⟨_, T52, L52, X52, hQ52, st52⟩ := own_virtual X50 hx hZ hH hown (y := y_37) (z := y_37) Ex51 (w_268 hw) (w_269 hw) (own_nf hZ (w_271 hw)) (w_271 hw) (w_270 hw) (w_25 hw) (w_272 hw) (rm35 l Z hw a1 h50 n0 z7) e50 (Ls := #[vr a1, vr a2, vr a3, vi ((i7 &&& (255 : Int32)) ^^^ (((i7 &&& (255 : Int32)).toUInt32 >>> ((16 : Int32) &&& 31).toUInt32).toInt32)), vr b13_0, .val .null, vi 16, vi ((15 : Int32) &&& ((i7 &&& (255 : Int32)) ^^^ (((i7 &&& (255 : Int32)).toUInt32 >>> ((16 : Int32) &&& 31).toUInt32).toInt32))), vi 0, .val .null, .val .null, vi 0, vr a17]) hml.symm (argsL := [(.int 1)]) (rest := []) (lenOf pd_21 rfl) (B d18_324) (W := 0)
  obtain ⟨rfl, Nq52, e52⟩ := hQ52
  have N52 := Fr.app N50 Nq52
  have Ex53 := (((((Ex21.keep K35).keep K39).wr W43).wr W46).wr W50)
  have ne_a2_b13_0 := Nat.ne_of_lt (Nat.lt_of_lt_of_le o1_4.lt o13_6)
  have Fl54 := (((((Fl31.keep K35 (ninS (Ne.symm ne_a11_a2) (ninS (Ne.symm ne_a10_a2) nin0))).keep K39 nin0).other W43 (Or.inl ne_a2_b13_0)).other W46 (Or.inl (Ne.symm ne_a1_a2))).other W50 (Or.inl (Ne.symm ne_a1_a2)))
  have Fl55 := ((((((o1_2'.keep K13 (ninS (Ne.symm ne_a1_a2) nin0)).keep K35 (ninS (Ne.symm ne_a11_a2) (ninS (Ne.symm ne_a10_a2) nin0))).keep K39 nin0).other W43 (Or.inl ne_a2_b13_0)).other W46 (Or.inl (Ne.symm ne_a1_a2))).other W50 (Or.inl (Ne.symm ne_a1_a2)))
  have Fl56 := ((((((o1_3'.keep K13 (ninS (Ne.symm ne_a1_a2) nin0)).keep K35 (ninS (Ne.symm ne_a11_a2) (ninS (Ne.symm ne_a10_a2) nin0))).keep K39 nin0).other W43 (Or.inl ne_a2_b13_0)).other W46 (Or.inl (Ne.symm ne_a1_a2))).other W50 (Or.inl (Ne.symm ne_a1_a2)))
  have Fl57 := (((((Fl29.keep K35 (ninS (Ne.symm ne_a11_a2) (ninS (Ne.symm ne_a10_a2) nin0))).keep K39 nin0).other W43 (Or.inl ne_a2_b13_0)).other W46 (Or.inl (Ne.symm ne_a1_a2))).other W50 (Or.inl (Ne.symm ne_a1_a2)))
  have Fl58 := (((((o13_1.keep K35 (ninS (Ne.symm ne_a11_a1) (ninS (Ne.symm ne_a10_a1) nin0))).keep K39 nin0).other W43 (Or.inl ne_a1_b13_0)).other W46 (Or.inr (slot_ne (Or.inr (w_38 hw)) (Or.inl (w_175 hw)) (by decide) (t := .float) (t' := .int) (by decide) (by decide)))).other W50 (Or.inr (slot_ne (Or.inr (w_38 hw)) (Or.inl (w_162 hw)) (by decide) (t := .float) (t' := .int) (by decide) (by decide))))
  have Fl59 := (Fw46.other W50 (Or.inr (slot_ne (Or.inl (w_175 hw)) (Or.inl (w_162 hw)) (by decide) (t := .int) (t' := .int) (by decide) (by decide))))
  have Fl60 := (((((o13_4.keep K35 (ninS (Ne.symm ne_a11_a1) (ninS (Ne.symm ne_a10_a1) nin0))).keep K39 nin0).other W43 (Or.inl ne_a1_b13_0)).other W46 (Or.inr (slot_ne (Or.inl (w_166 hw)) (Or.inl (w_175 hw)) (by decide) (t := (.array (.object "java/util/HashMap$Node"))) (t' := .int) (by decide) (by decide)))).other W50 (Or.inr (slot_ne (Or.inl (w_166 hw)) (Or.inl (w_162 hw)) (by decide) (t := (.array (.object "java/util/HashMap$Node"))) (t' := .int) (by decide) (by decide))))
  have Fl61 := (((((o13_5.keep K35 (ninS (Ne.symm ne_a11_a1) (ninS (Ne.symm ne_a10_a1) nin0))).keep K39 nin0).other W43 (Or.inl ne_a1_b13_0)).other W46 (Or.inr (slot_ne (Or.inl (w_164 hw)) (Or.inl (w_175 hw)) (by decide) (t := .int) (t' := .int) (by decide) (by decide)))).other W50 (Or.inr (slot_ne (Or.inl (w_164 hw)) (Or.inl (w_162 hw)) (by decide) (t := .int) (t' := .int) (by decide) (by decide))))
  have Ex62 := ((((o35_0.keep K39).wr W43).wr W46).wr W50)
  have Fl63 := ((((o35_1.keep K39 nin0).other W43 (Or.inl ne_a11_b13_0)).other W46 (Or.inl ne_a11_a1)).other W50 (Or.inl ne_a11_a1))
  have Fl64 := ((((o35_2.keep K39 nin0).other W43 (Or.inl ne_a11_b13_0)).other W46 (Or.inl ne_a11_a1)).other W50 (Or.inl ne_a11_a1))
  have Fl65 := ((((o35_3.keep K39 nin0).other W43 (Or.inl ne_a11_b13_0)).other W46 (Or.inl ne_a11_a1)).other W50 (Or.inl ne_a11_a1))
  have Ex66 := ((((o35_4.keep K39).wr W43).wr W46).wr W50)
  have Fl67 := ((((o35_5.keep K39 nin0).other W43 (Or.inl ne_a10_b13_0)).other W46 (Or.inl ne_a10_a1)).other W50 (Or.inl ne_a10_a1))
  have Fl68 := ((((o35_6.keep K39 nin0).other W43 (Or.inl ne_a10_b13_0)).other W46 (Or.inl ne_a10_a1)).other W50 (Or.inl ne_a10_a1))
  have Fl69 := ((((o35_7.keep K39 nin0).other W43 (Or.inl ne_a10_b13_0)).other W46 (Or.inl ne_a10_a1)).other W50 (Or.inl ne_a10_a1))
  have sz_b13_0 : h0.size ≤ b13_0 := Nat.le_trans s0 o13_6
  have Ex70 := (((((o13_7.keep K35).keep K39).wr W43).wr W46).wr W50)
  have Va71 := ((Vs43.other W46 (Ne.symm ne_a1_b13_0)).other W50 (Ne.symm ne_a1_b13_0))
  have sz_b35_0 : h0.size ≤ b35_0 := Nat.le_trans (Nat.le_trans s0 s1) o35_8
  have Ex72 := ((((o35_9.keep K39).wr W43).wr W46).wr W50)
  have ne_b13_0_b35_0 := Nat.ne_of_lt (Nat.lt_of_lt_of_le o13_9.lt o35_8)
  have ne_a1_b35_0 := Nat.ne_of_lt (Nat.lt_of_lt_of_le o13_5.lt o35_8)
  have Va73 := ((((o35_11.keep K39 nin0).other W43 (Ne.symm ne_b13_0_b35_0)).other W46 (Ne.symm ne_a1_b35_0)).other W50 (Ne.symm ne_a1_b35_0))
  have Kp0 := (Keep.refl h0 [a2, a1, a11, a10]).trans K1 (allS own_m0 all0)
  have Kp1 := Kp0.trans K13 (allS (Or.inl (List.mem_of_getElem? (i := 1) rfl)) all0)
  have Kp2 := Kp1.trans K35 (allS (Or.inl (List.mem_of_getElem? (i := 2) rfl)) (allS (Or.inl (List.mem_of_getElem? (i := 3) rfl)) all0))
  have Kp3 := Kp2.trans K39 all0
  have Kp4 := Kp3.wr W43 (Or.inr sz_b13_0)
  have Kp5 := Kp4.wr W46 (Or.inl (List.mem_of_getElem? (i := 1) rfl))
  have Kp6 := Kp5.wr W50 (Or.inl (List.mem_of_getElem? (i := 1) rfl))
  refine ⟨T52, _, _, _, (some (.ref a17)), X52, nofun, by decide, by decide, ?_, fun fs hr => ?_⟩
  · rw [e52]
    subst ex3
    subst ex2
    exact ⟨b13_0, k13_1, ul43, b35_0, k35_1, rfl, N52, Kp6, Ex53, Fl54, Fl55, Fl56, Fl57, Ex51, Fl58, Fl59, Fw50, Fl60, Fl61, Ex62, Fl63, Fl64, Fl65, Ex66, Fl67, Fl68, Fl69, sz_b13_0, Ex70, o13_8, Va71, sz_b35_0, Ex72, o35_10, Va73, ne_b13_0_b35_0⟩
  · refine sA X0 hx (B d18_0) rfl rfl ?_
    refine XS.ifnonnullYes X0.here hx rfl (pc0 := 1) (pc' := 12) rfl (B d18_1) rfl (by decide) (by decide) ?_
    refine sA X0 hx (B d18_12) rfl rfl ?_
    refine st1 _ ?_
    refine XS.istoreN X1.here hx rfl (B d18_16) rfl (l' := #[vr a1, vr a2, vr a3, vi ((i7 &&& (255 : Int32)) ^^^ (((i7 &&& (255 : Int32)).toUInt32 >>> ((16 : Int32) &&& 31).toUInt32).toInt32)), un, un, un, un, un, un, un, un, un]) rfl ?_
    refine sC X1 hx (B d18_17) ?_
    refine XS.istore X1.here hx rfl (B d18_18) rfl (l' := #[vr a1, vr a2, vr a3, vi ((i7 &&& (255 : Int32)) ^^^ (((i7 &&& (255 : Int32)).toUInt32 >>> ((16 : Int32) &&& 31).toUInt32).toInt32)), un, un, un, un, vi 0, un, un, un, un]) rfl ?_
    refine XS.aconstNull X1.here hx rfl (B d18_20) ?_
    refine XS.astore X1.here hx rfl (B d18_21) rfl rfl (l' := #[vr a1, vr a2, vr a3, vi ((i7 &&& (255 : Int32)) ^^^ (((i7 &&& (255 : Int32)).toUInt32 >>> ((16 : Int32) &&& 31).toUInt32).toInt32)), un, un, un, un, vi 0, .val .null, un, un, un]) rfl ?_
    refine XS.aconstNull X1.here hx rfl (B d18_23) ?_
    refine XS.astore X1.here hx rfl (B d18_24) rfl rfl (l' := #[vr a1, vr a2, vr a3, vi ((i7 &&& (255 : Int32)) ^^^ (((i7 &&& (255 : Int32)).toUInt32 >>> ((16 : Int32) &&& 31).toUInt32).toInt32)), un, un, un, un, vi 0, .val .null, .val .null, un, un]) rfl ?_
    refine sA X1 hx (B d18_26) rfl rfl ?_
    refine st5 _ ?_
    refine sA X5 hx (B d18_30) rfl rfl ?_
    refine st7 _ ?_
    refine XS.icmpNo X7.here hx rfl (B d18_34) rfl (flt (by decide : ¬ ((0 : Int32) < (0 : Int32)))).2.2.1 ?_
    refine sA X7 hx (B d18_37) rfl rfl ?_
    refine st9 _ ?_
    refine XS.dup X9.here hx rfl (B d18_41) rfl rfl ?_
    refine XS.astore X9.here hx rfl (B d18_42) rfl rfl (l' := #[vr a1, vr a2, vr a3, vi ((i7 &&& (255 : Int32)) ^^^ (((i7 &&& (255 : Int32)).toUInt32 >>> ((16 : Int32) &&& 31).toUInt32).toInt32)), .val .null, un, un, un, vi 0, .val .null, .val .null, un, un]) rfl ?_
    refine XS.ifnullYes X9.here hx rfl (pc0 := 44) (pc' := 56) rfl (B d18_44) rfl (by decide) (by decide) ?_
    refine sA X9 hx (B d18_56) rfl rfl ?_
    refine st13 _ ?_
    refine XS.dup X13.here hx rfl (B d18_60) rfl rfl ?_
    refine XS.astore X13.here hx rfl (B d18_61) rfl rfl (l' := #[vr a1, vr a2, vr a3, vi ((i7 &&& (255 : Int32)) ^^^ (((i7 &&& (255 : Int32)).toUInt32 >>> ((16 : Int32) &&& 31).toUInt32).toInt32)), vr b13_0, un, un, un, vi 0, .val .null, .val .null, un, un]) rfl ?_
    refine X13.arraylength hx (Ar14.1) (State.isArrayOf_alike hZ.alike Ar14.2.1) (g := (mkF m 63 #[vr a1, vr a2, vr a3, vi ((i7 &&& (255 : Int32)) ^^^ (((i7 &&& (255 : Int32)).toUInt32 >>> ((16 : Int32) &&& 31).toUInt32).toInt32)), vr b13_0, un, un, un, vi 0, .val .null, .val .null, un, un] [(.ref b13_0)])) rfl rfl (B d18_63) _ ?_
    show Steps p.tables e below (T13.setTop (mkF m 64 #[vr a1, vr a2, vr a3, vi ((i7 &&& (255 : Int32)) ^^^ (((i7 &&& (255 : Int32)).toUInt32 >>> ((16 : Int32) &&& 31).toUInt32).toInt32)), vr b13_0, un, un, un, vi 0, .val .null, .val .null, un, un] [(.int cl14.slots.size.toInt32)])) _
    rw [len_of S14 M14]
    refine XS.istore X13.here hx rfl (B d18_64) rfl (l' := #[vr a1, vr a2, vr a3, vi ((i7 &&& (255 : Int32)) ^^^ (((i7 &&& (255 : Int32)).toUInt32 >>> ((16 : Int32) &&& 31).toUInt32).toInt32)), vr b13_0, un, vi 16, un, vi 0, .val .null, .val .null, un, un]) rfl ?_
    refine sB X13 hx (B d18_66) rfl rfl ?_
    refine sJ X13 hx (B d18_68) rfl ?_
    refine sC X13 hx (B d18_70) ?_
    refine XS.isub X13.here hx rfl (B d18_71) rfl ?_
    refine sI X13 hx (B d18_72) rfl ?_
    refine XS.iand X13.here hx rfl (B d18_73) rfl ?_
    refine XS.dup X13.here hx rfl (B d18_74) rfl rfl ?_
    refine XS.istore X13.here hx rfl (B d18_75) rfl (l' := #[vr a1, vr a2, vr a3, vi ((i7 &&& (255 : Int32)) ^^^ (((i7 &&& (255 : Int32)).toUInt32 >>> ((16 : Int32) &&& 31).toUInt32).toInt32)), vr b13_0, un, vi 16, vi ((15 : Int32) &&& ((i7 &&& (255 : Int32)) ^^^ (((i7 &&& (255 : Int32)).toUInt32 >>> ((16 : Int32) &&& 31).toUInt32).toInt32))), vi 0, .val .null, .val .null, un, un]) rfl ?_
    refine X13.aaload hx (j := ((15 : Int32) &&& ((i7 &&& (255 : Int32)) ^^^ (((i7 &&& (255 : Int32)).toUInt32 >>> ((16 : Int32) &&& 31).toUInt32).toInt32)))) (v := .null) (Ar14.1) (State.isArrayOf_alike hZ.alike Ar14.2.1) rfl Ar14.2.2 hin17 (Has.at Hs14 hin17 (own_getD_all _ .null 16)) (g := (mkF m 77 #[vr a1, vr a2, vr a3, vi ((i7 &&& (255 : Int32)) ^^^ (((i7 &&& (255 : Int32)).toUInt32 >>> ((16 : Int32) &&& 31).toUInt32).toInt32)), vr b13_0, un, vi 16, vi ((15 : Int32) &&& ((i7 &&& (255 : Int32)) ^^^ (((i7 &&& (255 : Int32)).toUInt32 >>> ((16 : Int32) &&& 31).toUInt32).toInt32))), vi 0, .val .null, .val .null, un, un] [(.int ((15 : Int32) &&& ((i7 &&& (255 : Int32)) ^^^ (((i7 &&& (255 : Int32)).toUInt32 >>> ((16 : Int32) &&& 31).toUInt32).toInt32)))), (.ref b13_0)])) rfl rfl (B d18_77) _ ?_
    refine XS.dup X13.here hx rfl (B d18_78) rfl rfl ?_
    refine XS.astore X13.here hx rfl (B d18_79) rfl rfl (l' := #[vr a1, vr a2, vr a3, vi ((i7 &&& (255 : Int32)) ^^^ (((i7 &&& (255 : Int32)).toUInt32 >>> ((16 : Int32) &&& 31).toUInt32).toInt32)), vr b13_0, .val .null, vi 16, vi ((15 : Int32) &&& ((i7 &&& (255 : Int32)) ^^^ (((i7 &&& (255 : Int32)).toUInt32 >>> ((16 : Int32) &&& 31).toUInt32).toInt32))), vi 0, .val .null, .val .null, un, un]) rfl ?_
    refine XS.ifnullYes X13.here hx rfl (pc0 := 81) (pc' := 194) rfl (B d18_81) rfl (by decide) (by decide) ?_
    refine sA X13 hx (B d18_194) rfl rfl ?_
    refine st18 _ ?_
    refine XS.istore X18.here hx rfl (B d18_198) rfl (l' := #[vr a1, vr a2, vr a3, vi ((i7 &&& (255 : Int32)) ^^^ (((i7 &&& (255 : Int32)).toUInt32 >>> ((16 : Int32) &&& 31).toUInt32).toInt32)), vr b13_0, .val .null, vi 16, vi ((15 : Int32) &&& ((i7 &&& (255 : Int32)) ^^^ (((i7 &&& (255 : Int32)).toUInt32 >>> ((16 : Int32) &&& 31).toUInt32).toInt32))), vi 0, .val .null, .val .null, vi 0, un]) rfl ?_
    refine sA X18 hx (B d18_200) rfl rfl ?_
    refine sA X18 hx (B d18_201) rfl rfl ?_
    refine st35 _ ?_
    refine XS.astore X35.here hx rfl (B d18_207) rfl rfl (l' := #[vr a1, vr a2, vr a3, vi ((i7 &&& (255 : Int32)) ^^^ (((i7 &&& (255 : Int32)).toUInt32 >>> ((16 : Int32) &&& 31).toUInt32).toInt32)), vr b13_0, .val .null, vi 16, vi ((15 : Int32) &&& ((i7 &&& (255 : Int32)) ^^^ (((i7 &&& (255 : Int32)).toUInt32 >>> ((16 : Int32) &&& 31).toUInt32).toInt32))), vi 0, .val .null, .val .null, vi 0, vr a17]) rfl ?_
    refine sJ X35 hx (B d18_209) rfl ?_
    refine sA X35 hx (B d18_211) rfl rfl ?_
    refine st37 _ ?_
    refine XS.icmpYes X37.here hx rfl (pc0 := 215) (pc' := 226) rfl (B d18_215) rfl (teq (by decide : (0 : Int32) = (0 : Int32))).1 (by decide) (by decide) ?_
    refine sB X37 hx (B d18_226) rfl rfl ?_
    refine XS.ifnonnullYes X37.here hx rfl (pc0 := 228) (pc' := 233) rfl (B d18_228) rfl (by decide) (by decide) ?_
    refine sB X37 hx (B d18_233) rfl rfl ?_
    refine XS.ifnullYes X37.here hx rfl (pc0 := 235) (pc' := 254) rfl (B d18_235) rfl (by decide) (by decide) ?_
    refine sB X37 hx (B d18_254) rfl rfl ?_
    refine XS.ifnullYes X37.here hx rfl (pc0 := 256) (pc' := 275) rfl (B d18_256) rfl (by decide) (by decide) ?_
    refine sB X37 hx (B d18_275) rfl rfl ?_
    refine sJ X37 hx (B d18_277) rfl ?_
    refine sA X37 hx (B d18_279) rfl rfl ?_
    refine sI X37 hx (B d18_280) rfl ?_
    refine sA X37 hx (B d18_281) rfl rfl ?_
    refine sB X37 hx (B d18_282) rfl rfl ?_
    refine sB X37 hx (B d18_284) rfl rfl ?_
    refine st39 _ ?_
    refine st43 _ ?_
    refine sJ X43 hx (B d18_290) rfl ?_
    refine XS.bipush X43.here hx rfl (B d18_292) ?_
    refine XS.icmpYes X43.here hx rfl (pc0 := 294) (pc' := 304) rfl (B d18_294) rfl (tlt (by decide : (0 : Int32) < (7 : Int32))).1 (by decide) (by decide) ?_
    refine sA X43 hx (B d18_304) rfl rfl ?_
    refine sJ X43 hx (B d18_305) rfl ?_
    refine sC X43 hx (B d18_307) ?_
    refine XS.iadd X43.here hx rfl (B d18_308) rfl ?_
    refine st46 _ ?_
    refine sA X46 hx (B d18_312) rfl rfl ?_
    refine XS.dup X46.here hx rfl (B d18_313) rfl rfl ?_
    refine st49 _ ?_
    refine sC X49 hx (B d18_317) ?_
    refine XS.iadd X49.here hx rfl (B d18_318) rfl ?_
    refine st50 _ ?_
    refine sA X50 hx (B d18_322) rfl rfl ?_
    refine sC X50 hx (B d18_323) ?_
    refine st52 _ ?_
    refine sB X52 hx (B d18_327) rfl rfl ?_
    exact retOut X52 hx hret rfl (Or.inr (Or.inr (Or.inr (Or.inr ⟨rfl, rfl, rfl⟩)))) (B d18_329) hr
theorem pd_22 : parseMethodDescriptor "(Ljava/lang/Object;Ljava/util/function/Function;)Ljava/lang/Object;" = some ⟨[(.object "java/lang/Object"), (.object "java/util/function/Function")], some (.object "java/lang/Object")⟩ := by decide +kernel
theorem w_138 {a0 Z} (hw : OW a0 Z) : Jvm.Cond.before (.code y_38 jdk_69_method_35_code 13 (some (.object "java/lang/Object"))) a0 Z := hw _ (mo 138 rfl)
abbrev y_39 : MethodName := ⟨"java/util/Map", "computeIfAbsent", "(Ljava/lang/Object;Ljava/util/function/Function;)Ljava/lang/Object;"⟩
theorem w_130 {a0 Z} (hw : OW a0 Z) : Jvm.Cond.before (.methodLink "com/example/informal_search/informalsearch/index/Numbering" 27 y_39) a0 Z := hw _ (mo 130 rfl)
theorem w_133 {a0 Z} (hw : OW a0 Z) : Jvm.Cond.before (.selects "java/util/HashMap" y_39 y_38) a0 Z := hw _ (mo 133 rfl)
theorem w_131 {a0 Z} (hw : OW a0 Z) : Jvm.Cond.before (.declares y_39) a0 Z := hw _ (mo 131 rfl)
theorem w_132 {a0 Z} (hw : OW a0 Z) : Jvm.Cond.before (.interfaceMethod "java/util/Map" "java/util/Map" "computeIfAbsent" "(Ljava/lang/Object;Ljava/util/function/Function;)Ljava/lang/Object;") a0 Z := hw _ (mo 132 rfl)
theorem w_134 {a0 Z} (hw : OW a0 Z) : Jvm.Cond.before (.instanceMethod y_38) a0 Z := hw _ (mo 134 rfl)
theorem w_135 {a0 Z} (hw : OW a0 Z) : Jvm.Cond.before (.publicMethod y_38) a0 Z := hw _ (mo 135 rfl)
theorem w_136 {a0 Z} (hw : OW a0 Z) : Jvm.Cond.before (.unhidden "java/util/HashMap" "computeIfAbsent" "(Ljava/lang/Object;Ljava/util/function/Function;)Ljava/lang/Object;") a0 Z := hw _ (mo 136 rfl)
theorem w_137 {a0 Z} (hw : OW a0 Z) : Jvm.Cond.before (.castable "java/util/HashMap" "java/util/Map") a0 Z := hw _ (mo 137 rfl)
theorem d17_16 : decode Kc17 16 = .ok (.checkcast 33, 3) := by decide +kernel
theorem w_273 {a0 Z} (hw : OW a0 Z) : Jvm.Cond.before (.classLink "com/example/informal_search/informalsearch/index/Numbering" 33 "java/lang/Integer") a0 Z := hw _ (mo 273 rfl)
theorem d17_19 : decode Kc17 19 = .ok (.invokevirtual 35, 3) := by decide +kernel
abbrev Kc38 := jdk_33_method_27_code
theorem d38_0 : decode Kc38 0 = .ok (.aload_n 0, 1) := by decide +kernel
theorem d38_1 : decode Kc38 1 = .ok (.getfield 205, 3) := by decide +kernel
theorem w_280 {a0 Z} (hw : OW a0 Z) : Jvm.Cond.before (.fieldLink "java/lang/Integer" 205 "java/lang/Integer" "value" "I") a0 Z := hw _ (mo 280 rfl)
theorem d38_4 : decode Kc38 4 = .ok (.ireturn, 1) := by decide +kernel
abbrev y_40 : MethodName := ⟨"java/lang/Integer", "intValue", "()I"⟩
abbrev Rm37 : Room := rmk 0 0 0 0
def Q37 (Z : State) (a1 : Addr) (h0 : Heap) (n0 : Nat) (v : Option Value) (h : Heap) (L : List Loc) : Prop := v = some (.int 0) ∧ Fr n0 L ∧ h = h0
theorem rm37 (l : Launch) (Z : State) {a0 : Array Value} (hw : OW a0 Z) (a1 : Addr) (h0 : Heap) (n0 : Nat) (Z0 : n0 ≤ h0.size) (F_value_a1 : Fld Z h0 a1 "java/lang/Integer" "value" "I" (.int 0)) :
    OwnMet l Z y_40 jdk_33_method_27_code 1 (some .int) [] Rm37 #[(.ref a1)] h0 (Q37 Z a1 h0 n0) := by
  refine own_body (plainFor_of_name pn_10) (ef_26f21a a1) ?_
  intro p e s m below meth c s₁ hx hby hml hown hnm hret hZ hH hnd X0 e0
  have N0 := Fr.nil n0
  have B := hbx hby
  obtain ⟨T1, X1, e1, st1⟩ := getF X0 hx hZ hown (host := "") (Or.inl (w_280 hw)) Via.refl e0 F_value_a1 (g := (mkF m 1 #[vr a1] [(.ref a1)])) rfl rfl (B d38_1)
  refine ⟨T1, _, _, _, (some (.int 0)), X1, nofun, by decide, by decide, ?_, fun fs hr => ?_⟩
  · rw [e1]
    exact ⟨rfl, N0, rfl⟩
  · refine sA X0 hx (B d38_0) rfl rfl ?_
    refine st1 _ ?_
    exact retI X1 hx hret (B d38_4) hr
theorem w_279 {a0 Z} (hw : OW a0 Z) : Jvm.Cond.before (.code y_40 jdk_33_method_27_code 1 (some .int)) a0 Z := hw _ (mo 279 rfl)
theorem w_275 {a0 Z} (hw : OW a0 Z) : Jvm.Cond.before (.methodLink "com/example/informal_search/informalsearch/index/Numbering" 35 y_40) a0 Z := hw _ (mo 275 rfl)
theorem w_278 {a0 Z} (hw : OW a0 Z) : Jvm.Cond.before (.selects "java/lang/Integer" y_40 y_40) a0 Z := hw _ (mo 278 rfl)
theorem w_276 {a0 Z} (hw : OW a0 Z) : Jvm.Cond.before (.declares y_40) a0 Z := hw _ (mo 276 rfl)
theorem w_277 {a0 Z} (hw : OW a0 Z) : Jvm.Cond.before (.instanceMethod y_40) a0 Z := hw _ (mo 277 rfl)
theorem d17_22 : decode Kc17 22 = .ok (.ireturn, 1) := by decide +kernel
abbrev y_41 : MethodName := ⟨"com/example/informal_search/informalsearch/index/Numbering", "number", "(Ljava/lang/String;)I"⟩
abbrev Rm38 : Room := rmk 8 4 31 3075
def Q38 (Z : State) (a1 a2 a3 : Addr) (ck4 : ClassId) (i5 : Int32) (a7 : Addr) (i8 : Int32) (ck9 : ClassId) (a10 a11 : Addr) (ck12 : ClassId) (a13 : Addr) (u14 : List Value) (ck15 : ClassId) (a16 : Addr) (h0 : Heap) (n0 : Nat) (v : Option Value) (h : Heap) (L : List Loc) : Prop := ∃ b25_0 : Addr, ∃ k25_1 : ClassId, ∃ u25_2 : List Value, ∃ b25_3 : Addr, ∃ k25_4 : ClassId, v = some (.int 0) ∧ Fr n0 L ∧ Keep h0 h [a2, a3, a10, a1] ∧ Exa Z h a2 jS ∧ Fld Z h a2 jS "coder" "B" (.int 0) ∧ Fld Z h a2 jS "hash" "I" (.int (if (i8 &&& (255 : Int32)) = 0 then (0 : Int32) else (i8 &&& (255 : Int32)))) ∧ Fld Z h a2 jS "hashIsZero" "Z" (.int (if (i8 &&& (255 : Int32)) = 0 then (1 : Int32) else (0 : Int32))) ∧ Fld Z h a2 jS "value" "[B" (.ref a7) ∧ Exa Z h a3 "java/util/HashMap" ∧ Fld Z h a3 "java/util/HashMap" "loadFactor" "F" (.float 1061158912) ∧ Fld Z h a3 "java/util/HashMap" "modCount" "I" (.int 1) ∧ Fld Z h a3 "java/util/HashMap" "size" "I" (.int 1) ∧ Fld Z h a3 "java/util/HashMap" "table" "[Ljava/util/HashMap$Node;" (.ref b25_0) ∧ Fld Z h a3 "java/util/HashMap" "threshold" "I" (.int 12) ∧ Exa Z h a10 "java/util/ArrayList" ∧ Fld Z h a10 "java/util/AbstractList" "modCount" "I" (.int 1) ∧ Fld Z h a10 "java/util/ArrayList" "elementData" "[Ljava/lang/Object;" (.ref b25_3) ∧ Fld Z h a10 "java/util/ArrayList" "size" "I" (.int 1) ∧ Exa Z h a1 "com/example/informal_search/informalsearch/index/Numbering" ∧ Fld Z h a1 "com/example/informal_search/informalsearch/index/Numbering" "bytes" "J" (.long 163) ∧ Fld Z h a1 "com/example/informal_search/informalsearch/index/Numbering" "numbers" "Ljava/util/Map;" (.ref a3) ∧ Fld Z h a1 "com/example/informal_search/informalsearch/index/Numbering" "strings" "Ljava/util/List;" (.ref a10) ∧ h0.size ≤ b25_0 ∧ Exa Z h b25_0 "[Ljava/util/HashMap$Node;" ∧ Ovr Z k25_1 "java/util/HashMap$Node" ∧ Arv Z h b25_0 k25_1 (.object "java/util/HashMap$Node") 16 u25_2 .null ∧ h0.size ≤ b25_3 ∧ Exa Z h b25_3 "[Ljava/lang/Object;" ∧ Ovr Z k25_4 "java/lang/Object" ∧ Arv Z h b25_3 k25_4 (.object "java/lang/Object") 10 [(.ref a2), .null, .null, .null, .null, .null, .null, .null, .null, .null] .null ∧ b25_0 ≠ b25_3
theorem rm38 (l : Launch) (Z : State) {a0 : Array Value} (hw : OW a0 Z) (a1 a2 a3 : Addr) (ck4 : ClassId) (i5 : Int32) (a7 : Addr) (i8 : Int32) (ck9 : ClassId) (a10 a11 : Addr) (ck12 : ClassId) (a13 : Addr) (u14 : List Value) (ck15 : ClassId) (a16 : Addr) (h0 : Heap) (n0 : Nat) (Z0 : n0 ≤ h0.size) (F_numbers_a1 : Fld Z h0 a1 "com/example/informal_search/informalsearch/index/Numbering" "numbers" "Ljava/util/Map;" (.ref a3)) (Site : OwnSite Z ck4) (E_a3 : Exa Z h0 a3 "java/util/HashMap") (E_a2 : Exa Z h0 a2 jS) (F_hash_a2 : Fld Z h0 a2 jS "hash" "I" (.int 0)) (F_hashIsZero_a2 : Fld Z h0 a2 jS "hashIsZero" "Z" (.int 0)) (S_COMPACT_STRINGS : Sta Z Z.heap "java/lang/String" "COMPACT_STRINGS" "Z" (.int i5)) (Od0 : Old Z n0 h0) (c6 : ¬ (i5 = 0)) (F_coder_a2 : Fld Z h0 a2 jS "coder" "B" (.int 0)) (F_value_a2 : Fld Z h0 a2 jS "value" "[B" (.ref a7)) (V_a7 : Arv Z h0 a7 ck9 .byte 1 [(.int i8)] (.int 0)) (g_a2 : n0 ≤ a2) (F_size_a3 : Fld Z h0 a3 "java/util/HashMap" "size" "I" (.int 0)) (ne_a3_a2 : a3 ≠ a2) (F_threshold_a3 : Fld Z h0 a3 "java/util/HashMap" "threshold" "I" (.int 0)) (F_table_a3 : Fld Z h0 a3 "java/util/HashMap" "table" "[Ljava/util/HashMap$Node;" .null) (g_a3 : n0 ≤ a3) (F_loadFactor_a3 : Fld Z h0 a3 "java/util/HashMap" "loadFactor" "F" (.float 1061158912)) (F_modCount_a3 : Fld Z h0 a3 "java/util/HashMap" "modCount" "I" (.int 0)) (E_a1 : Exa Z h0 a1 "com/example/informal_search/informalsearch/index/Numbering") (F_strings_a1 : Fld Z h0 a1 "com/example/informal_search/informalsearch/index/Numbering" "strings" "Ljava/util/List;" (.ref a10)) (ne_a1_a2 : a1 ≠ a2) (ne_a1_a3 : a1 ≠ a3) (E_a10 : Exa Z h0 a10 "java/util/ArrayList") (F_modCount_a10 : Fld Z h0 a10 "java/util/AbstractList" "modCount" "I" (.int 0)) (ne_a10_a2 : a10 ≠ a2) (ne_a10_a3 : a10 ≠ a3) (g_a10 : n0 ≤ a10) (F_elementData_a10 : Fld Z h0 a10 "java/util/ArrayList" "elementData" "[Ljava/lang/Object;" (.ref a11)) (F_size_a10 : Fld Z h0 a10 "java/util/ArrayList" "size" "I" (.int 0)) (V_a11 : Arv Z h0 a11 ck12 (.object "java/lang/Object") 0 [] .null) (ne_a11_a2 : a11 ≠ a2) (ne_a11_a3 : a11 ≠ a3) (ne_a11_a10 : a11 ≠ a10) (S_DEFAULTCAPACITY_EMPTY_ELEMENTDATA : Sta Z Z.heap "java/util/ArrayList" "DEFAULTCAPACITY_EMPTY_ELEMENTDATA" "[Ljava/lang/Object;" (.ref a11)) (F_bytes_a1 : Fld Z h0 a1 "com/example/informal_search/informalsearch/index/Numbering" "bytes" "J" (.long 0)) (ne_a1_a10 : a1 ≠ a10) (ne_a7_a2 : a7 ≠ a2) (ne_a7_a3 : a7 ≠ a3) (ne_a7_a10 : a7 ≠ a10) (g_a1 : n0 ≤ a1) (S_high : Sta Z Z.heap "java/lang/Integer$IntegerCache" "high" "I" (.int 127)) (S_cache : Sta Z Z.heap "java/lang/Integer$IntegerCache" "cache" "[Ljava/lang/Integer;" (.ref a13)) (V_a13 : Arv Z h0 a13 ck15 (.object "java/lang/Integer") 256 u14 .null) (ne_a13_a2 : a13 ≠ a2) (ne_a13_a3 : a13 ≠ a3) (ne_a13_a10 : a13 ≠ a10) (ne_a13_a1 : a13 ≠ a1) (rd17 : u14.getD ((128 : Int32)).toNatClampNeg .null = (.ref a16)) (E_a16 : Exa Z h0 a16 "java/lang/Integer") (F_value_a16 : Fld Z h0 a16 "java/lang/Integer" "value" "I" (.int 0)) (ne_a16_a2 : a16 ≠ a2) (ne_a16_a3 : a16 ≠ a3) (ne_a16_a10 : a16 ≠ a10) (ne_a16_a1 : a16 ≠ a1) :
    OwnMet l Z y_41 prog_38_method_2_code 2 (some .int) [] Rm38 #[(.ref a1), (.ref a2)] h0 (Q38 Z a1 a2 a3 ck4 i5 a7 i8 ck9 a10 a11 ck12 a13 u14 ck15 a16 h0 n0) := by
  refine own_body (plainFor_of_name pn_5) (ef_463e93 a1 a2) ?_
  intro p e s m below meth c s₁ hx hby hml hown hnm hret hZ hH hnd X0 e0
  have N0 := Fr.nil n0
  have B := hbx hby
  obtain ⟨T1, X1, e1, st1⟩ := getF X0 hx hZ hown (host := "") (Or.inl (w_39 hw)) Via.refl e0 F_numbers_a1 (g := (mkF m 1 #[vr a1, vr a2] [(.ref a1)])) rfl rfl (B d17_1)
  obtain ⟨T2, h2, X2, e2, E2, F2, st2⟩ := own_lamNew X1 hx hZ hnd Site (w_129 hw) e1 (th := a1) (Ls := #[vr a1, vr a2]) (rest := [(.ref a2), (.ref a3)]) hml.symm (B d17_6) (W := 2) (Nat.le_of_eq rfl) (by decide) (by decide) (by decide)
  obtain ⟨b2, g2⟩ : ∃ z, z = h0.size := ⟨_, rfl⟩
  rw [← g2] at F2 st2
  have s0 := E2.1
  have Ex3 := (E_a3.ext E2)
  have Ex4 := (E_a2.ext E2)
  have Fl5 := (F_hash_a2.ext E2)
  have Fl6 := (F_hashIsZero_a2.ext E2)
  have Od1 := Od0.ext E2
  have Fl7 := (F_coder_a2.ext E2)
  have Fl8 := (F_value_a2.ext E2)
  have Va9 := (V_a7.ext E2)
  have Fl10 := (F_size_a3.ext E2)
  have Fl11 := (F_threshold_a3.ext E2)
  have Fl12 := (F_table_a3.ext E2)
  have Fl13 := (F_loadFactor_a3.ext E2)
  have Fl14 := (F_modCount_a3.ext E2)
  have ne_a2_b2 := Nat.ne_of_lt (Nat.lt_of_lt_of_le F_value_a2.lt (Nat.le_of_eq g2.symm))
  have ne_a3_b2 := Nat.ne_of_lt (Nat.lt_of_lt_of_le F_threshold_a3.lt (Nat.le_of_eq g2.symm))
  have Ex15 := (E_a1.ext E2)
  have Fl16 := (F_strings_a1.ext E2)
  have Ex17 := (E_a10.ext E2)
  have Fl18 := (F_modCount_a10.ext E2)
  have Fl19 := (F_elementData_a10.ext E2)
  have Fl20 := (F_size_a10.ext E2)
  have Va21 := (V_a11.ext E2)
  have Fl22 := (F_bytes_a1.ext E2)
  have Fl23 := (F_numbers_a1.ext E2)
  have Va24 := (V_a13.ext E2)
  have z1 := Nat.le_trans Z0 s0
  obtain ⟨_, T25, L25, X25, hQ25, st25⟩ := own_iface X2 hx hZ hH hown (y := y_39) (z := y_38) Ex3 (w_130 hw) (w_131 hw) (w_132 hw) (w_133 hw) (w_134 hw) (w_135 hw) (w_136 hw) (w_137 hw) (w_25 hw) (w_138 hw) (rm36 l Z hw a3 a2 b2 i5 a7 i8 ck9 ck4 a1 a10 a11 ck12 a13 u14 ck15 a16 h2 n0 z1 Ex4 Fl5 Fl6 S_COMPACT_STRINGS Od1 c6 Fl7 Fl8 Va9 g_a2 Fl10 ne_a3_a2 Fl11 Fl12 Ex3 g_a3 Fl13 Fl14 F2 (Ne.symm ne_a2_b2) (Ne.symm ne_a3_b2) Ex15 Site Fl16 ne_a1_a2 ne_a1_a3 Ex17 Fl18 ne_a10_a2 ne_a10_a3 g_a10 Fl19 Fl20 Va21 ne_a11_a2 ne_a11_a3 ne_a11_a10 S_DEFAULTCAPACITY_EMPTY_ELEMENTDATA Fl22 ne_a1_a10 ne_a7_a2 ne_a7_a3 ne_a7_a10 g_a1 Fl23 S_high S_cache Va24 ne_a13_a2 ne_a13_a3 ne_a13_a10 ne_a13_a1 rd17) e2 (Ls := #[vr a1, vr a2]) hml.symm (argsL := [(.ref a2), (.ref b2)]) (rest := []) (lenOf pd_22 rfl) (B d17_11) (W := 0)
  obtain ⟨b25_0, k25_1, u25_2, b25_3, k25_4, rfl, Nq25, K25, o25_0, o25_1, o25_2, o25_3, o25_4, o25_5, o25_6, o25_7, o25_8, o25_9, o25_10, o25_11, o25_12, o25_13, o25_14, o25_15, o25_16, o25_17, o25_18, o25_19, o25_20, o25_21, o25_22, o25_23, o25_24, o25_25, o25_26, o25_27⟩ := hQ25
  have N25 := Fr.app N0 Nq25
  have s1 := K25.1
  obtain ⟨x26, ex26⟩ : ∃ z, z = (if (i8 &&& (255 : Int32)) = 0 then (0 : Int32) else (i8 &&& (255 : Int32))) := ⟨_, rfl⟩
  have o25_2' : Fld Z T25.heap a2 jS "hash" "I" (.int x26) := by rw [ex26]; exact o25_2
  obtain ⟨x27, ex27⟩ : ∃ z, z = (if (i8 &&& (255 : Int32)) = 0 then (1 : Int32) else (0 : Int32)) := ⟨_, rfl⟩
  have o25_3' : Fld Z T25.heap a2 jS "hashIsZero" "Z" (.int x27) := by rw [ex27]; exact o25_3
  have Ex28 := ((E_a16.ext E2).keep K25)
  obtain ⟨T29, X29, e29, st29⟩ := castY X25 hx hZ hown (w_273 hw) rfl (Ins.self Ex28) (g := (mkF m 16 #[vr a1, vr a2] [(.ref a16)])) rfl rfl (B d17_16)
  have Fl30 := ((F_value_a16.ext E2).keep K25 (ninS ne_a16_a2 (ninS ne_a16_a3 (ninS ne_a16_a10 (ninS ne_a16_a1 nin0)))))
  have z2 := Nat.le_trans Z0 (Nat.le_trans s0 s1)
  obtain ⟨_, T31, L31, X31, hQ31, st31⟩ := own_virtual X29 hx hZ hH hown (y := y_40) (z := y_40) Ex28 (w_275 hw) (w_276 hw) (own_nf hZ (w_278 hw)) (w_278 hw) (w_277 hw) (w_243 hw) (w_279 hw) (rm37 l Z hw a16 T25.heap n0 z2 Fl30) e29 (Ls := #[vr a1, vr a2]) hml.symm (argsL := []) (rest := []) (lenOf pd_9 rfl) (B d17_19) (W := 0)
  obtain ⟨rfl, Nq31, e31⟩ := hQ31
  have N31 := Fr.app N25 Nq31
  have sz_b25_0 : h0.size ≤ b25_0 := Nat.le_trans s0 o25_19
  have sz_b25_3 : h0.size ≤ b25_3 := Nat.le_trans s0 o25_23
  have Kp0 := (Keep.refl h0 [a2, a3, a10, a1]).ext E2
  have Kp1 := Kp0.trans K25 (allS own_m0 (allS (Or.inl (List.mem_of_getElem? (i := 1) rfl)) (allS (Or.inl (List.mem_of_getElem? (i := 2) rfl)) (allS (Or.inl (List.mem_of_getElem? (i := 3) rfl)) all0))))
  refine ⟨T31, _, _, _, (some (.int 0)), X31, nofun, by decide, by decide, ?_, fun fs hr => ?_⟩
  · rw [e31]
    subst ex27
    subst ex26
    exact ⟨b25_0, k25_1, u25_2, b25_3, k25_4, rfl, N31, Kp1, o25_0, o25_1, o25_2', o25_3', o25_4, o25_5, o25_6, o25_7, o25_8, o25_9, o25_10, o25_11, o25_12, o25_13, o25_14, o25_15, o25_16, o25_17, o25_18, sz_b25_0, o25_20, o25_21, o25_22, sz_b25_3, o25_24, o25_25, o25_26, o25_27⟩
  · refine sA X0 hx (B d17_0) rfl rfl ?_
    refine st1 _ ?_
    refine sA X1 hx (B d17_4) rfl rfl ?_
    refine sA X1 hx (B d17_5) rfl rfl ?_
    refine st2 _ ?_
    refine st25 _ ?_
    refine st29 _ ?_
    refine st31 _ ?_
    exact retI X31 hx hret (B d17_22) hr
theorem pd_23 : parseMethodDescriptor "(Ljava/lang/String;)I" = some ⟨[(.object "java/lang/String")], some .int⟩ := by decide +kernel
theorem w_125 {a0 Z} (hw : OW a0 Z) : Jvm.Cond.before (.code y_41 prog_38_method_2_code 2 (some .int)) a0 Z := hw _ (mo 125 rfl)
theorem w_121 {a0 Z} (hw : OW a0 Z) : Jvm.Cond.before (.methodLink "com/example/informal_search/informalsearch/index/PostingBuffer" 22 y_41) a0 Z := hw _ (mo 121 rfl)
theorem w_124 {a0 Z} (hw : OW a0 Z) : Jvm.Cond.before (.selects "com/example/informal_search/informalsearch/index/Numbering" y_41 y_41) a0 Z := hw _ (mo 124 rfl)
theorem w_122 {a0 Z} (hw : OW a0 Z) : Jvm.Cond.before (.declares y_41) a0 Z := hw _ (mo 122 rfl)
theorem w_123 {a0 Z} (hw : OW a0 Z) : Jvm.Cond.before (.instanceMethod y_41) a0 Z := hw _ (mo 123 rfl)
theorem d16_8 : decode Kc16 8 = .ok (.ireturn, 1) := by decide +kernel
abbrev y_42 : MethodName := ⟨"com/example/informal_search/informalsearch/index/PostingBuffer", "term", "(Ljava/lang/String;)I"⟩
abbrev Rm39 : Room := rmk 9 4 31 3088
def Q39 (Z : State) (a1 a2 a3 a4 : Addr) (ck5 : ClassId) (i6 : Int32) (a8 : Addr) (i9 : Int32) (ck10 : ClassId) (a11 a12 : Addr) (ck13 : ClassId) (a14 : Addr) (u15 : List Value) (ck16 : ClassId) (a17 : Addr) (h0 : Heap) (n0 : Nat) (v : Option Value) (h : Heap) (L : List Loc) : Prop := ∃ b2_0 : Addr, ∃ k2_1 : ClassId, ∃ u2_2 : List Value, ∃ b2_3 : Addr, ∃ k2_4 : ClassId, v = some (.int 0) ∧ Fr n0 L ∧ Keep h0 h [a2, a4, a11, a3] ∧ Exa Z h a2 jS ∧ Fld Z h a2 jS "coder" "B" (.int 0) ∧ Fld Z h a2 jS "hash" "I" (.int (if (i9 &&& (255 : Int32)) = 0 then (0 : Int32) else (i9 &&& (255 : Int32)))) ∧ Fld Z h a2 jS "hashIsZero" "Z" (.int (if (i9 &&& (255 : Int32)) = 0 then (1 : Int32) else (0 : Int32))) ∧ Fld Z h a2 jS "value" "[B" (.ref a8) ∧ Exa Z h a4 "java/util/HashMap" ∧ Fld Z h a4 "java/util/HashMap" "loadFactor" "F" (.float 1061158912) ∧ Fld Z h a4 "java/util/HashMap" "modCount" "I" (.int 1) ∧ Fld Z h a4 "java/util/HashMap" "size" "I" (.int 1) ∧ Fld Z h a4 "java/util/HashMap" "table" "[Ljava/util/HashMap$Node;" (.ref b2_0) ∧ Fld Z h a4 "java/util/HashMap" "threshold" "I" (.int 12) ∧ Exa Z h a11 "java/util/ArrayList" ∧ Fld Z h a11 "java/util/AbstractList" "modCount" "I" (.int 1) ∧ Fld Z h a11 "java/util/ArrayList" "elementData" "[Ljava/lang/Object;" (.ref b2_3) ∧ Fld Z h a11 "java/util/ArrayList" "size" "I" (.int 1) ∧ Exa Z h a3 "com/example/informal_search/informalsearch/index/Numbering" ∧ Fld Z h a3 "com/example/informal_search/informalsearch/index/Numbering" "bytes" "J" (.long 163) ∧ Fld Z h a3 "com/example/informal_search/informalsearch/index/Numbering" "numbers" "Ljava/util/Map;" (.ref a4) ∧ Fld Z h a3 "com/example/informal_search/informalsearch/index/Numbering" "strings" "Ljava/util/List;" (.ref a11) ∧ h0.size ≤ b2_0 ∧ Exa Z h b2_0 "[Ljava/util/HashMap$Node;" ∧ Ovr Z k2_1 "java/util/HashMap$Node" ∧ Arv Z h b2_0 k2_1 (.object "java/util/HashMap$Node") 16 u2_2 .null ∧ h0.size ≤ b2_3 ∧ Exa Z h b2_3 "[Ljava/lang/Object;" ∧ Ovr Z k2_4 "java/lang/Object" ∧ Arv Z h b2_3 k2_4 (.object "java/lang/Object") 10 [(.ref a2), .null, .null, .null, .null, .null, .null, .null, .null, .null] .null ∧ b2_0 ≠ b2_3
theorem rm39 (l : Launch) (Z : State) {a0 : Array Value} (hw : OW a0 Z) (a1 a2 a3 a4 : Addr) (ck5 : ClassId) (i6 : Int32) (a8 : Addr) (i9 : Int32) (ck10 : ClassId) (a11 a12 : Addr) (ck13 : ClassId) (a14 : Addr) (u15 : List Value) (ck16 : ClassId) (a17 : Addr) (h0 : Heap) (n0 : Nat) (Z0 : n0 ≤ h0.size) (F_terms_a1 : Fld Z h0 a1 "com/example/informal_search/informalsearch/index/PostingBuffer" "terms" "Lcom/example/informal_search/informalsearch/index/Numbering;" (.ref a3)) (E_a3 : Exa Z h0 a3 "com/example/informal_search/informalsearch/index/Numbering") (F_numbers_a3 : Fld Z h0 a3 "com/example/informal_search/informalsearch/index/Numbering" "numbers" "Ljava/util/Map;" (.ref a4)) (Site : OwnSite Z ck5) (E_a4 : Exa Z h0 a4 "java/util/HashMap") (E_a2 : Exa Z h0 a2 jS) (F_hash_a2 : Fld Z h0 a2 jS "hash" "I" (.int 0)) (F_hashIsZero_a2 : Fld Z h0 a2 jS "hashIsZero" "Z" (.int 0)) (S_COMPACT_STRINGS : Sta Z Z.heap "java/lang/String" "COMPACT_STRINGS" "Z" (.int i6)) (Od0 : Old Z n0 h0) (c7 : ¬ (i6 = 0)) (F_coder_a2 : Fld Z h0 a2 jS "coder" "B" (.int 0)) (F_value_a2 : Fld Z h0 a2 jS "value" "[B" (.ref a8)) (V_a8 : Arv Z h0 a8 ck10 .byte 1 [(.int i9)] (.int 0)) (g_a2 : n0 ≤ a2) (F_size_a4 : Fld Z h0 a4 "java/util/HashMap" "size" "I" (.int 0)) (ne_a4_a2 : a4 ≠ a2) (F_threshold_a4 : Fld Z h0 a4 "java/util/HashMap" "threshold" "I" (.int 0)) (F_table_a4 : Fld Z h0 a4 "java/util/HashMap" "table" "[Ljava/util/HashMap$Node;" .null) (g_a4 : n0 ≤ a4) (F_loadFactor_a4 : Fld Z h0 a4 "java/util/HashMap" "loadFactor" "F" (.float 1061158912)) (F_modCount_a4 : Fld Z h0 a4 "java/util/HashMap" "modCount" "I" (.int 0)) (F_strings_a3 : Fld Z h0 a3 "com/example/informal_search/informalsearch/index/Numbering" "strings" "Ljava/util/List;" (.ref a11)) (ne_a3_a2 : a3 ≠ a2) (ne_a3_a4 : a3 ≠ a4) (E_a11 : Exa Z h0 a11 "java/util/ArrayList") (F_modCount_a11 : Fld Z h0 a11 "java/util/AbstractList" "modCount" "I" (.int 0)) (ne_a11_a2 : a11 ≠ a2) (ne_a11_a4 : a11 ≠ a4) (g_a11 : n0 ≤ a11) (F_elementData_a11 : Fld Z h0 a11 "java/util/ArrayList" "elementData" "[Ljava/lang/Object;" (.ref a12)) (F_size_a11 : Fld Z h0 a11 "java/util/ArrayList" "size" "I" (.int 0)) (V_a12 : Arv Z h0 a12 ck13 (.object "java/lang/Object") 0 [] .null) (ne_a12_a2 : a12 ≠ a2) (ne_a12_a4 : a12 ≠ a4) (ne_a12_a11 : a12 ≠ a11) (S_DEFAULTCAPACITY_EMPTY_ELEMENTDATA : Sta Z Z.heap "java/util/ArrayList" "DEFAULTCAPACITY_EMPTY_ELEMENTDATA" "[Ljava/lang/Object;" (.ref a12)) (F_bytes_a3 : Fld Z h0 a3 "com/example/informal_search/informalsearch/index/Numbering" "bytes" "J" (.long 0)) (ne_a3_a11 : a3 ≠ a11) (ne_a8_a2 : a8 ≠ a2) (ne_a8_a4 : a8 ≠ a4) (ne_a8_a11 : a8 ≠ a11) (g_a3 : n0 ≤ a3) (S_high : Sta Z Z.heap "java/lang/Integer$IntegerCache" "high" "I" (.int 127)) (S_cache : Sta Z Z.heap "java/lang/Integer$IntegerCache" "cache" "[Ljava/lang/Integer;" (.ref a14)) (V_a14 : Arv Z h0 a14 ck16 (.object "java/lang/Integer") 256 u15 .null) (ne_a14_a2 : a14 ≠ a2) (ne_a14_a4 : a14 ≠ a4) (ne_a14_a11 : a14 ≠ a11) (ne_a14_a3 : a14 ≠ a3) (rd18 : u15.getD ((128 : Int32)).toNatClampNeg .null = (.ref a17)) (E_a17 : Exa Z h0 a17 "java/lang/Integer") (F_value_a17 : Fld Z h0 a17 "java/lang/Integer" "value" "I" (.int 0)) (ne_a17_a2 : a17 ≠ a2) (ne_a17_a4 : a17 ≠ a4) (ne_a17_a11 : a17 ≠ a11) (ne_a17_a3 : a17 ≠ a3) :
    OwnMet l Z y_42 prog_42_method_2_code 2 (some .int) [] Rm39 #[(.ref a1), (.ref a2)] h0 (Q39 Z a1 a2 a3 a4 ck5 i6 a8 i9 ck10 a11 a12 ck13 a14 u15 ck16 a17 h0 n0) := by
  refine own_body (plainFor_of_name pn_6) (ef_463e93 a1 a2) ?_
  intro p e s m below meth c s₁ hx hby hml hown hnm hret hZ hH hnd X0 e0
  have N0 := Fr.nil n0
  have B := hbx hby
  obtain ⟨T1, X1, e1, st1⟩ := getF X0 hx hZ hown (host := "") (Or.inl (w_67 hw)) Via.refl e0 F_terms_a1 (g := (mkF m 1 #[vr a1, vr a2] [(.ref a1)])) rfl rfl (B d16_1)
  obtain ⟨_, T2, L2, X2, hQ2, st2⟩ := own_virtual X1 hx hZ hH hown (y := y_41) (z := y_41) E_a3 (w_121 hw) (w_122 hw) (own_nf hZ (w_124 hw)) (w_124 hw) (w_123 hw) (w_18 hw) (w_125 hw) (rm38 l Z hw a3 a2 a4 ck5 i6 a8 i9 ck10 a11 a12 ck13 a14 u15 ck16 a17 h0 n0 Z0 F_numbers_a3 Site E_a4 E_a2 F_hash_a2 F_hashIsZero_a2 S_COMPACT_STRINGS Od0 c7 F_coder_a2 F_value_a2 V_a8 g_a2 F_size_a4 ne_a4_a2 F_threshold_a4 F_table_a4 g_a4 F_loadFactor_a4 F_modCount_a4 E_a3 F_strings_a3 ne_a3_a2 ne_a3_a4 E_a11 F_modCount_a11 ne_a11_a2 ne_a11_a4 g_a11 F_elementData_a11 F_size_a11 V_a12 ne_a12_a2 ne_a12_a4 ne_a12_a11 S_DEFAULTCAPACITY_EMPTY_ELEMENTDATA F_bytes_a3 ne_a3_a11 ne_a8_a2 ne_a8_a4 ne_a8_a11 g_a3 S_high S_cache V_a14 ne_a14_a2 ne_a14_a4 ne_a14_a11 ne_a14_a3 rd18 E_a17 F_value_a17 ne_a17_a2 ne_a17_a4 ne_a17_a11 ne_a17_a3) e1 (Ls := #[vr a1, vr a2]) hml.symm (argsL := [(.ref a2)]) (rest := []) (lenOf pd_23 rfl) (B d16_5) (W := 0)
  obtain ⟨b2_0, k2_1, u2_2, b2_3, k2_4, rfl, Nq2, K2, o2_0, o2_1, o2_2, o2_3, o2_4, o2_5, o2_6, o2_7, o2_8, o2_9, o2_10, o2_11, o2_12, o2_13, o2_14, o2_15, o2_16, o2_17, o2_18, o2_19, o2_20, o2_21, o2_22, o2_23, o2_24, o2_25, o2_26, o2_27⟩ := hQ2
  have N2 := Fr.app N0 Nq2
  have s0 := K2.1
  obtain ⟨x3, ex3⟩ : ∃ z, z = (if (i9 &&& (255 : Int32)) = 0 then (0 : Int32) else (i9 &&& (255 : Int32))) := ⟨_, rfl⟩
  have o2_2' : Fld Z T2.heap a2 jS "hash" "I" (.int x3) := by rw [ex3]; exact o2_2
  obtain ⟨x4, ex4⟩ : ∃ z, z = (if (i9 &&& (255 : Int32)) = 0 then (1 : Int32) else (0 : Int32)) := ⟨_, rfl⟩
  have o2_3' : Fld Z T2.heap a2 jS "hashIsZero" "Z" (.int x4) := by rw [ex4]; exact o2_3
  have sz_b2_0 : h0.size ≤ b2_0 := o2_19
  have sz_b2_3 : h0.size ≤ b2_3 := o2_23
  have Kp0 := (Keep.refl h0 [a2, a4, a11, a3]).trans K2 (allS own_m0 (allS (Or.inl (List.mem_of_getElem? (i := 1) rfl)) (allS (Or.inl (List.mem_of_getElem? (i := 2) rfl)) (allS (Or.inl (List.mem_of_getElem? (i := 3) rfl)) all0))))
  refine ⟨T2, _, _, _, (some (.int 0)), X2, nofun, by decide, by decide, ?_, fun fs hr => ?_⟩
  · subst ex4
    subst ex3
    exact ⟨b2_0, k2_1, u2_2, b2_3, k2_4, rfl, N2, Kp0, o2_0, o2_1, o2_2', o2_3', o2_4, o2_5, o2_6, o2_7, o2_8, o2_9, o2_10, o2_11, o2_12, o2_13, o2_14, o2_15, o2_16, o2_17, o2_18, sz_b2_0, o2_20, o2_21, o2_22, sz_b2_3, o2_24, o2_25, o2_26, o2_27⟩
  · refine sA X0 hx (B d16_0) rfl rfl ?_
    refine st1 _ ?_
    refine sA X1 hx (B d16_4) rfl rfl ?_
    refine st2 _ ?_
    exact retI X2 hx hret (B d16_8) hr
theorem w_120 {a0 Z} (hw : OW a0 Z) : Jvm.Cond.before (.code y_42 prog_42_method_2_code 2 (some .int)) a0 Z := hw _ (mo 120 rfl)
theorem w_116 {a0 Z} (hw : OW a0 Z) : Jvm.Cond.before (.methodLink "com/example/informal_search/informalsearch/index/PostingBufferIsEmptyPinLaw" 21 y_42) a0 Z := hw _ (mo 116 rfl)
theorem w_119 {a0 Z} (hw : OW a0 Z) : Jvm.Cond.before (.selects "com/example/informal_search/informalsearch/index/PostingBuffer" y_42 y_42) a0 Z := hw _ (mo 119 rfl)
theorem w_117 {a0 Z} (hw : OW a0 Z) : Jvm.Cond.before (.declares y_42) a0 Z := hw _ (mo 117 rfl)
theorem w_118 {a0 Z} (hw : OW a0 Z) : Jvm.Cond.before (.instanceMethod y_42) a0 Z := hw _ (mo 118 rfl)
theorem pn_12 : plainName "com/example/informal_search/informalsearch/index/PostingBufferIsEmptyPinLaw" = true := by first | (simp [plainName, overriddenIn]; done) | decide +kernel
theorem rm0_0 (l : Launch) (Z : State) {a0 : Array Value} (hw : OW a0 Z) (ws : List Jvm.Cond) (p1 p2 p3 p4 p5 p6 : Int32) (sa1 sa2 sa3 : Addr) (sr4 : Value) (si5 : Int32) (sk9 sk11 skc : ClassId) (suc : List Value) (sbi : Addr) (sck : ClassId) (h0 : Heap) (n0 : Nat) (Z0 : n0 ≤ h0.size) (Od0 : Old Z n0 h0) (R_sr4 : sr4.isRef = true) (nc7 : ¬ (si5 = 0)) (S8_EMPTY_ELEMENTDATA : Sta Z Z.heap "java/util/ArrayList" "EMPTY_ELEMENTDATA" "[Ljava/lang/Object;" (.ref sa1)) (E_sa1 : Exa Z h0 sa1 "[Ljava/lang/Object;") (V_sa1 : Arv Z h0 sa1 sk9 (.object "java/lang/Object") (0 : Int32) [] .null) (S10_DEFAULTCAPACITY_EMPTY_ELEMENTDATA : Sta Z Z.heap "java/util/ArrayList" "DEFAULTCAPACITY_EMPTY_ELEMENTDATA" "[Ljava/lang/Object;" (.ref sa2)) (E_sa2 : Exa Z h0 sa2 "[Ljava/lang/Object;") (V_sa2 : Arv Z h0 sa2 sk11 (.object "java/lang/Object") (0 : Int32) [] .null) (S12_cache : Sta Z Z.heap "java/lang/Integer$IntegerCache" "cache" "[Ljava/lang/Integer;" (.ref sa3)) (E_sa3 : Exa Z h0 sa3 "[Ljava/lang/Integer;") (S14_SIOOBE_FORMATTER : Sta Z Z.heap "jdk/internal/util/Preconditions" "SIOOBE_FORMATTER" "Ljava/util/function/BiFunction;" sr4) (S15_COMPACT_STRINGS : Sta Z Z.heap "java/lang/String" "COMPACT_STRINGS" "Z" (.int si5)) (S16_high : Sta Z Z.heap "java/lang/Integer$IntegerCache" "high" "I" (.int 127)) (V_sa3 : Arv Z h0 sa3 skc (.object "java/lang/Integer") 256 suc .null) (rd_c : suc.getD (128 : Int32).toNatClampNeg .null = .ref sbi) (E_sbi : Exa Z h0 sbi "java/lang/Integer") (F_sbi : Fld Z h0 sbi "java/lang/Integer" "value" "I" (.int 0)) (Site : OwnSite Z sck) (hk : (p1 &&& (3 : Int32)) = (0 : Int32)) :
    OwnMet l Z x code maxLocals ret ws room_1 #[(.int p1), (.int p2), (.int p3), (.int p4), (.int p5), (.int p6)] h0 (Q0 n0) := by
  refine own_body (plainFor_of_name pn_12) (ef0 p1 p2 p3 p4 p5 p6) ?_
  intro p e s m below meth c s₁ hx hby hml hown hnm hret hZ hH hnd X0 e0
  have N0 := Fr.nil n0
  have B := hbx hby
  obtain ⟨T1, h1, k1, X1, e1, E1, A1, B1, st1⟩ := newPE (aty := .boolean) X0 hx hZ (w_0 hw) e0 (g := (mkF m 1 #[vi p1, vi p2, vi p3, vi p4, vi p5, vi p6, un, un, un, un, un, un] [(.int 2)])) rfl (B at_1) rfl (by decide) (cap := 2) (by decide) (by decide) (by decide) (by decide) (ad := "[Z") (by decide)
  obtain ⟨b1, g1⟩ : ∃ z, z = h0.size := ⟨_, rfl⟩
  rw [← g1] at A1 B1 st1
  have s0 := E1.1
  have Vn1 : Arv Z h1 b1 k1 .boolean 2 [(.int 0), (.int 0)] (.int 0) := (Arv.new A1 (by decide)).pad (pad_rep [] (.int 0) 2)
  have z1 := Nat.le_trans Z0 s0
  obtain ⟨T2, L2, X2, e2, N2, st2⟩ := tn1 l Z hw p1 p2 p3 p4 p5 p6 b1 h1 n0 z1 hx hby hml hown hZ X1 e1 N0 (by decide) (by decide)
  obtain ⟨cl3, Ar3, q3, S3, M3, Hs3, G3⟩ := id Vn1
  have hin4 := inb_of (j := 0) S3 ⟨by decide, by decide⟩
  obtain ⟨T5, h5, X5, e5, W5, st5⟩ := stZ X2 hx hZ e2 Ar3 (j := 0) hin4 (g := (mkF m 17 #[vi p1, vi p2, vi p3, vi p4, vi p5, vi p6, un, un, un, un, un, un] [(.int (if (p6 &&& (1 : Int32)) = 0 then (0 : Int32) else (1 : Int32))), (.int 0), (.ref b1), (.ref b1)])) rfl rfl (B at_17)
  have s1 := (Keep.of_wr W5).1
  have g_b1 : n0 ≤ b1 := Nat.le_trans Z0 (Nat.le_of_eq g1.symm)
  have N5 := Fr.snoc X5 N2 g_b1
  have Vs5 : Arv Z h5 b1 k1 .boolean 2 [(.int (nar .boolean (if (p6 &&& (1 : Int32)) = 0 then (0 : Int32) else (1 : Int32)))), (.int 0)] (.int 0) := Arv.set Ar3 q3 S3 M3 Hs3 G3 (fits_nar_bool _) W5 0 rfl (nl rfl)
  have z2 := Nat.le_trans Z0 (Nat.le_trans s0 s1)
  obtain ⟨T6, L6, X6, e6, N6, st6⟩ := tn2 l Z hw p1 p2 p3 p4 p5 p6 b1 h5 n0 z2 hx hby hml hown hZ X5 e5 N5 (by decide) (by decide)
  obtain ⟨cl7, Ar7, q7, S7, M7, Hs7, G7⟩ := id Vs5
  have hin8 := inb_of (j := 1) S7 ⟨by decide, by decide⟩
  obtain ⟨T9, h9, X9, e9, W9, st9⟩ := stZ X6 hx hZ e6 Ar7 (j := 1) hin8 (g := (mkF m 32 #[vi p1, vi p2, vi p3, vi p4, vi p5, vi p6, un, un, un, un, un, un] [(.int (if (p6 &&& (2 : Int32)) = 0 then (0 : Int32) else (1 : Int32))), (.int 1), (.ref b1), (.ref b1)])) rfl rfl (B at_32)
  have s2 := (Keep.of_wr W9).1
  have N9 := Fr.snoc X9 N6 g_b1
  have Vs9 : Arv Z h9 b1 k1 .boolean 2 [(.int (nar .boolean (if (p6 &&& (1 : Int32)) = 0 then (0 : Int32) else (1 : Int32)))), (.int (nar .boolean (if (p6 &&& (2 : Int32)) = 0 then (0 : Int32) else (1 : Int32))))] (.int 0) := Arv.set Ar7 q7 S7 M7 Hs7 G7 (fits_nar_bool _) W9 1 rfl (nl rfl)
  obtain ⟨T10, h10, X10, e10, E10, A10, D10, -, st10⟩ := newO X9 hx hZ hown (w_1 hw) (w_2 hw) (w_3 hw) e9 (g := (mkF m 35 #[vi p1, vi p2, vi p3, vi p4, vi p5, vi p6, vr b1, un, un, un, un, un] [])) rfl (B at_35) (by decide) (by decide)
  obtain ⟨b10, g10⟩ : ∃ z, z = h9.size := ⟨_, rfl⟩
  rw [← g10] at A10 D10 st10
  have s3 := E10.1
  have Fn10_literal : Fld Z h10 b10 "com/example/informal_search/informalsearch/index/PostingBuffer" "literal" "[Z" .null := D10 (Or.inr (w_11 hw)) (ty := (.array .boolean)) (by decide)
  have Fn10_terms : Fld Z h10 b10 "com/example/informal_search/informalsearch/index/PostingBuffer" "terms" "Lcom/example/informal_search/informalsearch/index/Numbering;" .null := D10 (Or.inl (w_68 hw)) (ty := (.object "com/example/informal_search/informalsearch/index/Numbering")) (by decide)
  have Fn10_termOf : Fld Z h10 b10 "com/example/informal_search/informalsearch/index/PostingBuffer" "termOf" "[I" .null := D10 (Or.inl (w_71 hw)) (ty := (.array .int)) (by decide)
  have Fn10_entityOf : Fld Z h10 b10 "com/example/informal_search/informalsearch/index/PostingBuffer" "entityOf" "[I" .null := D10 (Or.inl (w_73 hw)) (ty := (.array .int)) (by decide)
  have Fn10_fieldOf : Fld Z h10 b10 "com/example/informal_search/informalsearch/index/PostingBuffer" "fieldOf" "[I" .null := D10 (Or.inl (w_75 hw)) (ty := (.array .int)) (by decide)
  have Fn10_countOf : Fld Z h10 b10 "com/example/informal_search/informalsearch/index/PostingBuffer" "countOf" "[I" .null := D10 (Or.inl (w_77 hw)) (ty := (.array .int)) (by decide)
  have Fn10_size : Fld Z h10 b10 "com/example/informal_search/informalsearch/index/PostingBuffer" "size" "I" (.int 0) := D10 (Or.inl (w_79 hw)) (ty := .int) (by decide)
  have Fn10_bytes : Fld Z h10 b10 "com/example/informal_search/informalsearch/index/PostingBuffer" "bytes" "J" (.long 0) := D10 (Or.inl (w_82 hw)) (ty := .long) (by decide)
  have z3 := Nat.le_trans Z0 (Nat.le_trans (Nat.le_trans s0 s1) s2)
  have g_b10 : n0 ≤ b10 := Nat.le_trans z3 (Nat.le_of_eq g10.symm)
  have Od1 := Od0.ext E1
  have Od2 := Od1.wr W5 g_b1
  have Od3 := Od2.wr W9 g_b1
  have Od4 := Od3.ext E10
  have z4 := Nat.le_trans Z0 (Nat.le_trans (Nat.le_trans (Nat.le_trans s0 s1) s2) s3)
  obtain ⟨_, T11, L11, X11, hQ11, st11⟩ := own_special X10 hx hZ hH hown (y := y_8) (a := b10) (w_4 hw) (w_5 hw) (w_3 hw) (w_6 hw) (rm10 l Z hw b10 b1 sa2 h10 n0 z4 Fn10_literal A10 g_b10 S10_DEFAULTCAPACITY_EMPTY_ELEMENTDATA Od4 Fn10_terms Fn10_termOf Fn10_entityOf Fn10_fieldOf Fn10_countOf Fn10_size Fn10_bytes) e10 (Ls := #[vi p1, vi p2, vi p3, vi p4, vi p5, vi p6, vr b1, un, un, un, un, un]) hml.symm (argsL := [(.ref b1)]) (rest := [(.ref b10)]) (lenOf pd_1 rfl) (B at_41) (W := 1)
  obtain ⟨b11_0, k11_1, b11_2, k11_3, b11_4, k11_5, b11_6, k11_7, b11_8, b11_9, b11_10, rfl, Nq11, K11, o11_0, o11_1, o11_2, o11_3, o11_4, o11_5, o11_6, o11_7, o11_8, o11_9, o11_10, o11_11, o11_12, o11_13, o11_14, o11_15, o11_16, o11_17, o11_18, o11_19, o11_20, o11_21, o11_22, o11_23, o11_24, o11_25, o11_26, o11_27, o11_28, o11_29, o11_30, o11_31, o11_32, o11_33, o11_34, o11_35, o11_36, o11_37, o11_38, o11_39, o11_40, o11_41, o11_42, o11_43, o11_44, o11_45, o11_46, o11_47, o11_48, o11_49, o11_50, o11_51, o11_52, o11_53, o11_54, o11_55, o11_56, o11_57, o11_58⟩ := hQ11
  have N11 := Fr.app N9 Nq11
  have s4 := K11.1
  have z5 := Nat.le_trans Z0 (Nat.le_trans (Nat.le_trans (Nat.le_trans (Nat.le_trans s0 s1) s2) s3) s4)
  obtain ⟨_, T12, L12, X12, hQ12, st12⟩ := own_virtual X11 hx hZ hH hown (y := y_9) (z := y_9) o11_0 (w_83 hw) (w_84 hw) (own_nf hZ (w_86 hw)) (w_86 hw) (w_85 hw) (w_3 hw) (w_87 hw) (rm11 l Z hw b10 T11.heap n0 z5 o11_6) rfl (Ls := #[vi p1, vi p2, vi p3, vi p4, vi p5, vi p6, vr b1, vr b10, un, un, un, un]) hml.symm (argsL := []) (rest := []) (lenOf pd_2 rfl) (B at_48) (W := 0)
  obtain ⟨rfl, Nq12, e12⟩ := hQ12
  have N12 := Fr.app N11 Nq12
  by_cases cc1 : (p6 &&& (4 : Int32)) = 0
  · obtain ⟨_, T13, L13, X13, hQ13, st13⟩ := own_virtual X12 hx hZ hH hown (y := y_9) (z := y_9) o11_0 (w_83 hw) (w_84 hw) (own_nf hZ (w_86 hw)) (w_86 hw) (w_85 hw) (w_3 hw) (w_87 hw) (rm11 l Z hw b10 T11.heap n0 z5 o11_6) e12 (Ls := #[vi p1, vi p2, vi p3, vi p4, vi p5, vi p6, vr b1, vr b10, vi 1, un, un, un]) hml.symm (argsL := []) (rest := []) (lenOf pd_2 rfl) (B at_91) (W := 0)
    obtain ⟨rfl, Nq13, e13⟩ := hQ13
    have N13 := Fr.app N12 Nq13
    obtain ⟨_, T14, L14, X14, hQ14, st14⟩ := own_virtual X13 hx hZ hH hown (y := y_9) (z := y_9) o11_0 (w_83 hw) (w_84 hw) (own_nf hZ (w_86 hw)) (w_86 hw) (w_85 hw) (w_3 hw) (w_87 hw) (rm11 l Z hw b10 T11.heap n0 z5 o11_6) e13 (Ls := #[vi p1, vi p2, vi p3, vi p4, vi p5, vi p6, vr b1, vr b10, vi 1, vi 1, vi 0, un]) hml.symm (argsL := []) (rest := []) (lenOf pd_2 rfl) (B at_151) (W := 0)
    obtain ⟨rfl, Nq14, e14⟩ := hQ14
    have N14 := Fr.app N13 Nq14
    refine ⟨T14, _, _, _, (some (.int 1)), X14, nofun, by decide, by decide, ?_, fun fs hr => ?_⟩
    · show Q0 n0 _ T14.heap _
      rw [e14]
      exact ⟨rfl, N14⟩
    · refine sC X0 hx (B at_0) ?_
      refine st1 _ ?_
      refine XS.dup X1.here hx rfl (B at_3) rfl rfl ?_
      refine sC X1 hx (B at_4) ?_
      refine st2 _ ?_
      refine st5 _ ?_
      refine XS.dup X5.here hx rfl (B at_18) rfl rfl ?_
      refine sC X5 hx (B at_19) ?_
      refine st6 _ ?_
      refine st9 _ ?_
      refine XS.astore X9.here hx rfl (B at_33) rfl rfl (l' := #[vi p1, vi p2, vi p3, vi p4, vi p5, vi p6, vr b1, un, un, un, un, un]) rfl ?_
      refine st10 _ ?_
      refine XS.dup X10.here hx rfl (B at_38) rfl rfl ?_
      refine sB X10 hx (B at_39) rfl rfl ?_
      refine st11 _ ?_
      refine XS.astore X11.here hx rfl (B at_44) rfl rfl (l' := #[vi p1, vi p2, vi p3, vi p4, vi p5, vi p6, vr b1, vr b10, un, un, un, un]) rfl ?_
      refine sB X11 hx (B at_46) rfl rfl ?_
      refine st12 _ ?_
      refine XS.istore X12.here hx rfl (B at_51) rfl (l' := #[vi p1, vi p2, vi p3, vi p4, vi p5, vi p6, vr b1, vr b10, vi 1, un, un, un]) rfl ?_
      refine sJ X12 hx (B at_53) rfl ?_
      refine sC X12 hx (B at_55) ?_
      refine XS.iand X12.here hx rfl (B at_56) rfl ?_
      refine XS.ifYes X12.here hx rfl (pc0 := 57) (pc' := 89) rfl (B at_57) rfl ((if0 _ _).trans (teq cc1).1) (by decide) (by decide) ?_
      refine sB X12 hx (B at_89) rfl rfl ?_
      refine st13 _ ?_
      refine XS.istore X13.here hx rfl (B at_94) rfl (l' := #[vi p1, vi p2, vi p3, vi p4, vi p5, vi p6, vr b1, vr b10, vi 1, vi 1, un, un]) rfl ?_
      refine sI X13 hx (B at_96) rfl ?_
      refine sC X13 hx (B at_97) ?_
      refine XS.iand X13.here hx rfl (B at_98) rfl ?_
      show Steps p.tables e below (T13.setTop (mkF m 99 #[vi p1, vi p2, vi p3, vi p4, vi p5, vi p6, vr b1, vr b10, vi 1, vi 1, un, un] [(.int (p1 &&& (3 : Int32)))])) _
      rw [hk]
      refine XS.istore X13.here hx rfl (B at_99) rfl (l' := #[vi p1, vi p2, vi p3, vi p4, vi p5, vi p6, vr b1, vr b10, vi 1, vi 1, vi 0, un]) rfl ?_
      refine sJ X13 hx (B at_101) rfl ?_
      refine sC X13 hx (B at_103) ?_
      refine XS.icmpYes X13.here hx rfl (pc0 := 104) (pc' := 117) rfl (B at_104) rfl (tlt (by decide : (0 : Int32) < (1 : Int32))).1 (by decide) (by decide) ?_
      refine sJ X13 hx (B at_117) rfl ?_
      refine sC X13 hx (B at_119) ?_
      refine XS.icmpYes X13.here hx rfl (pc0 := 120) (pc' := 133) rfl (B at_120) rfl (tlt (by decide : (0 : Int32) < (2 : Int32))).1 (by decide) (by decide) ?_
      refine sJ X13 hx (B at_133) rfl ?_
      refine sC X13 hx (B at_135) ?_
      refine XS.icmpYes X13.here hx rfl (pc0 := 136) (pc' := 149) rfl (B at_136) rfl (tlt (by decide : (0 : Int32) < (3 : Int32))).1 (by decide) (by decide) ?_
      refine sB X13 hx (B at_149) rfl rfl ?_
      refine st14 _ ?_
      refine XS.istore X14.here hx rfl (B at_154) rfl (l' := #[vi p1, vi p2, vi p3, vi p4, vi p5, vi p6, vr b1, vr b10, vi 1, vi 1, vi 0, vi 1]) rfl ?_
      refine sJ X14 hx (B at_156) rfl ?_
      refine XS.ifNo X14.here hx rfl (B at_158) rfl ((if0 _ _).trans (feq (by decide : ¬ ((1 : Int32) = (0 : Int32)))).1) ?_
      refine sJ X14 hx (B at_161) rfl ?_
      refine XS.ifNo X14.here hx rfl (B at_163) rfl ((if0 _ _).trans (feq (by decide : ¬ ((1 : Int32) = (0 : Int32)))).1) ?_
      refine sJ X14 hx (B at_166) rfl ?_
      refine sJ X14 hx (B at_168) rfl ?_
      refine XS.ifNo X14.here hx rfl (B at_170) rfl ((if0 _ _).trans (teq (by decide : (0 : Int32) = (0 : Int32))).2) ?_
      refine sC X14 hx (B at_173) ?_
      refine XS.goto X14.here hx rfl (pc0 := 174) (pc' := 178) rfl (B at_174) (by decide) (by decide) ?_
      refine XS.icmpNo X14.here hx rfl (B at_178) rfl (teq (by decide : (1 : Int32) = (1 : Int32))).2 ?_
      refine sC X14 hx (B at_181) ?_
      refine XS.goto X14.here hx rfl (pc0 := 182) (pc' := 186) rfl (B at_182) (by decide) (by decide) ?_
      exact retN X14 hx (t := .boolean) hret (by simp) (B at_186) hr
  · obtain ⟨T13, h13, k13, X13, e13, E13, A13, B13, st13⟩ := newPE (aty := .char) X12 hx hZ (w_88 hw) e12 (g := (mkF m 61 #[vi p1, vi p2, vi p3, vi p4, vi p5, vi p6, vr b1, vr b10, vi 1, un, un, un] [(.int 1)])) rfl (B at_61) rfl (by decide) (cap := 1) (by decide) (by decide) (by decide) (by decide) (ad := "[C") (by decide)
    obtain ⟨b13, g13⟩ : ∃ z, z = T11.heap.size := ⟨_, rfl⟩
    rw [← g13] at A13 B13 st13
    have s5 := E13.1
    have Vn13 : Arv Z h13 b13 k13 .char 1 [(.int 0)] (.int 0) := (Arv.new A13 (by decide)).pad (pad_rep [] (.int 0) 1)
    obtain ⟨cl14, Ar14, q14, S14, M14, Hs14, G14⟩ := id Vn13
    have hin15 := inb_of (j := 0) S14 ⟨by decide, by decide⟩
    obtain ⟨T16, h16, X16, e16, W16, st16⟩ := stC X13 hx hZ e13 Ar14 (j := 0) hin15 (g := (mkF m 71 #[vi p1, vi p2, vi p3, vi p4, vi p5, vi p6, vr b1, vr b10, vi 1, un, un, un] [(.int ((p2 &&& (255 : Int32)).toUInt32.toUInt16.toUInt32.toInt32)), (.int 0), (.ref b13), (.ref b13)])) rfl rfl (B at_71)
    have s6 := (Keep.of_wr W16).1
    have g_b13 : n0 ≤ b13 := Nat.le_trans z5 (Nat.le_of_eq g13.symm)
    have N16 := Fr.snoc X16 N12 g_b13
    have Vs16 : Arv Z h16 b13 k13 .char 1 [(.int (nar .char ((p2 &&& (255 : Int32)).toUInt32.toUInt16.toUInt32.toInt32)))] (.int 0) := Arv.set Ar14 q14 S14 M14 Hs14 G14 (fits_nar_char _) W16 0 rfl (nl rfl)
    obtain ⟨T17, h17, X17, e17, E17, A17, D17, -, st17⟩ := newO X16 hx hZ hown (w_89 hw) (w_90 hw) (w_91 hw) e16 (g := (mkF m 76 #[vi p1, vi p2, vi p3, vi p4, vi p5, vi p6, vr b1, vr b10, vi 1, vr b13, un, un] [(.ref b10)])) rfl (B at_76) (by decide) (by decide)
    obtain ⟨b17, g17⟩ : ∃ z, z = h16.size := ⟨_, rfl⟩
    rw [← g17] at A17 D17 st17
    have s7 := E17.1
    have Fn17_coder : Fld Z h17 b17 jS "coder" "B" (.int 0) := D17 (Or.inr (w_113 hw)) (ty := .byte) (by decide)
    have Fn17_value : Fld Z h17 b17 jS "value" "[B" .null := D17 (Or.inr (w_115 hw)) (ty := (.array .byte)) (by decide)
    have Fn17_hash : Fld Z h17 b17 jS "hash" "I" (.int 0) := D17 (Or.inl (w_149 hw)) (ty := .int) (by decide)
    have Fn17_hashIsZero : Fld Z h17 b17 jS "hashIsZero" "Z" (.int 0) := D17 (Or.inl (w_151 hw)) (ty := .boolean) (by decide)
    have Va18 := (Vs16.ext E17)
    have Od5 := Od4.keep K11 (allS g_b10 all0)
    have Od6 := Od5.ext E13
    have Od7 := Od6.wr W16 g_b13
    have Od8 := Od7.ext E17
    have cd19 : ¬ (255 < (nar .char ((p2 &&& (255 : Int32)).toUInt32.toUInt16.toUInt32.toInt32))) := (by rw [Int32.lt_iff_toInt_lt]; have : ((255 : Int32)).toInt = 255 := (by decide); have := rng32 (nar .char ((p2 &&& (255 : Int32)).toUInt32.toUInt16.toUInt32.toInt32)); have := rng32 ((p2 &&& (255 : Int32)).toUInt32.toUInt16.toUInt32.toInt32); have := rng32 (p2 &&& (255 : Int32)); have := rng32 p2; have := own_mask p2 (255 : Int32) 8 (by decide) (by decide) 256 (by decide); have := c_i2c (p2 &&& (255 : Int32)); have := own_c_nar_char ((p2 &&& (255 : Int32)).toUInt32.toUInt16.toUInt32.toInt32); omega)
    have z7 := Nat.le_trans Z0 (Nat.le_trans (Nat.le_trans (Nat.le_trans (Nat.le_trans (Nat.le_trans (Nat.le_trans s0 s1) s2) s3) s4) s5) s6)
    have g_b17 : n0 ≤ b17 := Nat.le_trans z7 (Nat.le_of_eq g17.symm)
    have z8 := Nat.le_trans Z0 (Nat.le_trans (Nat.le_trans (Nat.le_trans (Nat.le_trans (Nat.le_trans (Nat.le_trans (Nat.le_trans s0 s1) s2) s3) s4) s5) s6) s7)
    obtain ⟨_, T20, L20, X20, hQ20, st20⟩ := own_special X17 hx hZ hH hown (y := y_14) (a := b17) (w_92 hw) (w_93 hw) (w_91 hw) (w_94 hw) (rm16 l Z hw b17 b13 (nar .char ((p2 &&& (255 : Int32)).toUInt32.toUInt16.toUInt32.toInt32)) k13 si5 h17 n0 z8 Va18 S15_COMPACT_STRINGS Od8 nc7 cd19 Fn17_coder A17 g_b17 Fn17_value Fn17_hash Fn17_hashIsZero) e17 (Ls := #[vi p1, vi p2, vi p3, vi p4, vi p5, vi p6, vr b1, vr b10, vi 1, vr b13, un, un]) hml.symm (argsL := [(.ref b13)]) (rest := [(.ref b17), (.ref b10)]) (lenOf pd_7 rfl) (B at_82) (W := 2)
    obtain ⟨b20_0, k20_1, rfl, Nq20, K20, o20_0, o20_1, o20_2, o20_3, o20_4, o20_5, o20_6, o20_7⟩ := hQ20
    have N20 := Fr.app N16 Nq20
    have s8 := K20.1
    have Ex21 := ((((o11_0.ext E13).wr W16).ext E17).keep K20)
    have ne_b10_b13 := Nat.ne_of_lt (Nat.lt_of_lt_of_le o11_8.lt (Nat.le_of_eq g13.symm))
    have ne_b10_b17 := Nat.ne_of_lt (Nat.lt_of_lt_of_le (Nat.lt_of_lt_of_le o11_8.lt (Nat.le_trans s5 s6)) (Nat.le_of_eq g17.symm))
    have Fl22 := ((((o11_8.ext E13).other W16 (Or.inl ne_b10_b13)).ext E17).keep K20 (ninS ne_b10_b17 nin0))
    have Ex23 := ((((o11_22.ext E13).wr W16).ext E17).keep K20)
    have ne_b11_8_b13 := Nat.ne_of_lt (Nat.lt_of_lt_of_le o11_25.lt (Nat.le_of_eq g13.symm))
    have ne_b11_8_b17 := Nat.ne_of_lt (Nat.lt_of_lt_of_le (Nat.lt_of_lt_of_le o11_25.lt (Nat.le_trans s5 s6)) (Nat.le_of_eq g17.symm))
    have Fl24 := ((((o11_24.ext E13).other W16 (Or.inl ne_b11_8_b13)).ext E17).keep K20 (ninS ne_b11_8_b17 nin0))
    have Ex25 := ((((o11_27.ext E13).wr W16).ext E17).keep K20)
    have Od9 := Od8.keep K20 (allS g_b17 all0)
    have ne_b11_9_b13 := Nat.ne_of_lt (Nat.lt_of_lt_of_le o11_32.lt (Nat.le_of_eq g13.symm))
    have ne_b11_9_b17 := Nat.ne_of_lt (Nat.lt_of_lt_of_le (Nat.lt_of_lt_of_le o11_32.lt (Nat.le_trans s5 s6)) (Nat.le_of_eq g17.symm))
    have Fl26 := ((((o11_30.ext E13).other W16 (Or.inl ne_b11_9_b13)).ext E17).keep K20 (ninS ne_b11_9_b17 nin0))
    have Fl27 := ((((o11_32.ext E13).other W16 (Or.inl ne_b11_9_b13)).ext E17).keep K20 (ninS ne_b11_9_b17 nin0))
    have Fl28 := ((((o11_31.ext E13).other W16 (Or.inl ne_b11_9_b13)).ext E17).keep K20 (ninS ne_b11_9_b17 nin0))
    have g_b11_9 : n0 ≤ b11_9 := Nat.le_trans z4 o11_26
    have Fl29 := ((((o11_28.ext E13).other W16 (Or.inl ne_b11_9_b13)).ext E17).keep K20 (ninS ne_b11_9_b17 nin0))
    have Fl30 := ((((o11_29.ext E13).other W16 (Or.inl ne_b11_9_b13)).ext E17).keep K20 (ninS ne_b11_9_b17 nin0))
    have Fl31 := ((((o11_25.ext E13).other W16 (Or.inl ne_b11_8_b13)).ext E17).keep K20 (ninS ne_b11_8_b17 nin0))
    have Ex32 := ((((o11_34.ext E13).wr W16).ext E17).keep K20)
    have ne_b11_10_b13 := Nat.ne_of_lt (Nat.lt_of_lt_of_le o11_37.lt (Nat.le_of_eq g13.symm))
    have ne_b11_10_b17 := Nat.ne_of_lt (Nat.lt_of_lt_of_le (Nat.lt_of_lt_of_le o11_37.lt (Nat.le_trans s5 s6)) (Nat.le_of_eq g17.symm))
    have Fl33 := ((((o11_35.ext E13).other W16 (Or.inl ne_b11_10_b13)).ext E17).keep K20 (ninS ne_b11_10_b17 nin0))
    have g_b11_10 : n0 ≤ b11_10 := Nat.le_trans z4 o11_33
    have Fl34 := ((((o11_36.ext E13).other W16 (Or.inl ne_b11_10_b13)).ext E17).keep K20 (ninS ne_b11_10_b17 nin0))
    have Fl35 := ((((o11_37.ext E13).other W16 (Or.inl ne_b11_10_b13)).ext E17).keep K20 (ninS ne_b11_10_b17 nin0))
    have ne_sa2_b1 := Nat.ne_of_lt (Nat.lt_of_lt_of_le V_sa2.lt (Nat.le_of_eq g1.symm))
    have ne_sa2_b10 := Nat.ne_of_lt (Nat.lt_of_lt_of_le (Nat.lt_of_lt_of_le V_sa2.lt (Nat.le_trans (Nat.le_trans s0 s1) s2)) (Nat.le_of_eq g10.symm))
    have ne_sa2_b13 := Nat.ne_of_lt (Nat.lt_of_lt_of_le (Nat.lt_of_lt_of_le V_sa2.lt (Nat.le_trans (Nat.le_trans (Nat.le_trans (Nat.le_trans s0 s1) s2) s3) s4)) (Nat.le_of_eq g13.symm))
    have ne_sa2_b17 := Nat.ne_of_lt (Nat.lt_of_lt_of_le (Nat.lt_of_lt_of_le V_sa2.lt (Nat.le_trans (Nat.le_trans (Nat.le_trans (Nat.le_trans (Nat.le_trans (Nat.le_trans s0 s1) s2) s3) s4) s5) s6)) (Nat.le_of_eq g17.symm))
    have Va36 := (((((((((V_sa2.ext E1).other W5 ne_sa2_b1).other W9 ne_sa2_b1).ext E10).keep K11 (ninS ne_sa2_b10 nin0)).ext E13).other W16 ne_sa2_b13).ext E17).keep K20 (ninS ne_sa2_b17 nin0))
    have ne_sa2_b11_9 := Nat.ne_of_lt (Nat.lt_of_lt_of_le (Nat.lt_of_lt_of_le V_sa2.lt (Nat.le_trans (Nat.le_trans (Nat.le_trans s0 s1) s2) s3)) o11_26)
    have ne_sa2_b11_10 := Nat.ne_of_lt (Nat.lt_of_lt_of_le (Nat.lt_of_lt_of_le V_sa2.lt (Nat.le_trans (Nat.le_trans (Nat.le_trans s0 s1) s2) s3)) o11_33)
    have Fl37 := ((((o11_23.ext E13).other W16 (Or.inl ne_b11_8_b13)).ext E17).keep K20 (ninS ne_b11_8_b17 nin0))
    have ne_b17_b20_0 := Nat.ne_of_lt (Nat.lt_of_lt_of_le Fn17_value.lt o20_5)
    have ne_b11_9_b20_0 := Nat.ne_of_lt (Nat.lt_of_lt_of_le (Nat.lt_of_lt_of_le o11_32.lt (Nat.le_trans (Nat.le_trans s5 s6) s7)) o20_5)
    have ne_b11_10_b20_0 := Nat.ne_of_lt (Nat.lt_of_lt_of_le (Nat.lt_of_lt_of_le o11_37.lt (Nat.le_trans (Nat.le_trans s5 s6) s7)) o20_5)
    have g_b11_8 : n0 ≤ b11_8 := Nat.le_trans z4 o11_21
    have ne_sa3_b1 := Nat.ne_of_lt (Nat.lt_of_lt_of_le V_sa3.lt (Nat.le_of_eq g1.symm))
    have ne_sa3_b10 := Nat.ne_of_lt (Nat.lt_of_lt_of_le (Nat.lt_of_lt_of_le V_sa3.lt (Nat.le_trans (Nat.le_trans s0 s1) s2)) (Nat.le_of_eq g10.symm))
    have ne_sa3_b13 := Nat.ne_of_lt (Nat.lt_of_lt_of_le (Nat.lt_of_lt_of_le V_sa3.lt (Nat.le_trans (Nat.le_trans (Nat.le_trans (Nat.le_trans s0 s1) s2) s3) s4)) (Nat.le_of_eq g13.symm))
    have ne_sa3_b17 := Nat.ne_of_lt (Nat.lt_of_lt_of_le (Nat.lt_of_lt_of_le V_sa3.lt (Nat.le_trans (Nat.le_trans (Nat.le_trans (Nat.le_trans (Nat.le_trans (Nat.le_trans s0 s1) s2) s3) s4) s5) s6)) (Nat.le_of_eq g17.symm))
    have Va38 := (((((((((V_sa3.ext E1).other W5 ne_sa3_b1).other W9 ne_sa3_b1).ext E10).keep K11 (ninS ne_sa3_b10 nin0)).ext E13).other W16 ne_sa3_b13).ext E17).keep K20 (ninS ne_sa3_b17 nin0))
    have ne_sa3_b11_9 := Nat.ne_of_lt (Nat.lt_of_lt_of_le (Nat.lt_of_lt_of_le V_sa3.lt (Nat.le_trans (Nat.le_trans (Nat.le_trans s0 s1) s2) s3)) o11_26)
    have ne_sa3_b11_10 := Nat.ne_of_lt (Nat.lt_of_lt_of_le (Nat.lt_of_lt_of_le V_sa3.lt (Nat.le_trans (Nat.le_trans (Nat.le_trans s0 s1) s2) s3)) o11_33)
    have ne_sa3_b11_8 := Nat.ne_of_lt (Nat.lt_of_lt_of_le (Nat.lt_of_lt_of_le V_sa3.lt (Nat.le_trans (Nat.le_trans (Nat.le_trans s0 s1) s2) s3)) o11_21)
    have Ex39 := (((((((((E_sbi.ext E1).wr W5).wr W9).ext E10).keep K11).ext E13).wr W16).ext E17).keep K20)
    have ne_sbi_b1 := Nat.ne_of_lt (Nat.lt_of_lt_of_le F_sbi.lt (Nat.le_of_eq g1.symm))
    have ne_sbi_b10 := Nat.ne_of_lt (Nat.lt_of_lt_of_le (Nat.lt_of_lt_of_le F_sbi.lt (Nat.le_trans (Nat.le_trans s0 s1) s2)) (Nat.le_of_eq g10.symm))
    have ne_sbi_b13 := Nat.ne_of_lt (Nat.lt_of_lt_of_le (Nat.lt_of_lt_of_le F_sbi.lt (Nat.le_trans (Nat.le_trans (Nat.le_trans (Nat.le_trans s0 s1) s2) s3) s4)) (Nat.le_of_eq g13.symm))
    have ne_sbi_b17 := Nat.ne_of_lt (Nat.lt_of_lt_of_le (Nat.lt_of_lt_of_le F_sbi.lt (Nat.le_trans (Nat.le_trans (Nat.le_trans (Nat.le_trans (Nat.le_trans (Nat.le_trans s0 s1) s2) s3) s4) s5) s6)) (Nat.le_of_eq g17.symm))
    have Fl40 := (((((((((F_sbi.ext E1).other W5 (Or.inl ne_sbi_b1)).other W9 (Or.inl ne_sbi_b1)).ext E10).keep K11 (ninS ne_sbi_b10 nin0)).ext E13).other W16 (Or.inl ne_sbi_b13)).ext E17).keep K20 (ninS ne_sbi_b17 nin0))
    have ne_sbi_b11_9 := Nat.ne_of_lt (Nat.lt_of_lt_of_le (Nat.lt_of_lt_of_le F_sbi.lt (Nat.le_trans (Nat.le_trans (Nat.le_trans s0 s1) s2) s3)) o11_26)
    have ne_sbi_b11_10 := Nat.ne_of_lt (Nat.lt_of_lt_of_le (Nat.lt_of_lt_of_le F_sbi.lt (Nat.le_trans (Nat.le_trans (Nat.le_trans s0 s1) s2) s3)) o11_33)
    have ne_sbi_b11_8 := Nat.ne_of_lt (Nat.lt_of_lt_of_le (Nat.lt_of_lt_of_le F_sbi.lt (Nat.le_trans (Nat.le_trans (Nat.le_trans s0 s1) s2) s3)) o11_21)
    have z9 := Nat.le_trans Z0 (Nat.le_trans (Nat.le_trans (Nat.le_trans (Nat.le_trans (Nat.le_trans (Nat.le_trans (Nat.le_trans (Nat.le_trans s0 s1) s2) s3) s4) s5) s6) s7) s8)
    obtain ⟨_, T41, L41, X41, hQ41, st41⟩ := own_virtual X20 hx hZ hH hown (y := y_42) (z := y_42) Ex21 (w_116 hw) (w_117 hw) (own_nf hZ (w_119 hw)) (w_119 hw) (w_118 hw) (w_3 hw) (w_120 hw) (rm39 l Z hw b10 b17 b11_8 b11_9 sck si5 b20_0 (nar .byte ((nar .char ((p2 &&& (255 : Int32)).toUInt32.toUInt16.toUInt32.toInt32)).toInt8.toInt32)) k20_1 b11_10 sa2 sk11 sa3 suc skc sbi T20.heap n0 z9 Fl22 Ex23 Fl24 Site Ex25 o20_0 o20_2 o20_3 S15_COMPACT_STRINGS Od9 nc7 o20_1 o20_4 o20_7 g_b17 Fl26 ne_b11_9_b17 Fl27 Fl28 g_b11_9 Fl29 Fl30 Fl31 ne_b11_8_b17 o11_56 Ex32 Fl33 ne_b11_10_b17 (Ne.symm o11_58) g_b11_10 Fl34 Fl35 Va36 ne_sa2_b17 ne_sa2_b11_9 ne_sa2_b11_10 S10_DEFAULTCAPACITY_EMPTY_ELEMENTDATA Fl37 o11_57 (Ne.symm ne_b17_b20_0) (Ne.symm ne_b11_9_b20_0) (Ne.symm ne_b11_10_b20_0) g_b11_8 S16_high S12_cache Va38 ne_sa3_b17 ne_sa3_b11_9 ne_sa3_b11_10 ne_sa3_b11_8 rd_c Ex39 Fl40 ne_sbi_b17 ne_sbi_b11_9 ne_sbi_b11_10 ne_sbi_b11_8) rfl (Ls := #[vi p1, vi p2, vi p3, vi p4, vi p5, vi p6, vr b1, vr b10, vi 1, vr b13, un, un]) hml.symm (argsL := [(.ref b17)]) (rest := []) (lenOf pd_23 rfl) (B at_85) (W := 0)
    obtain ⟨b41_0, k41_1, u41_2, b41_3, k41_4, rfl, Nq41, K41, o41_0, o41_1, o41_2, o41_3, o41_4, o41_5, o41_6, o41_7, o41_8, o41_9, o41_10, o41_11, o41_12, o41_13, o41_14, o41_15, o41_16, o41_17, o41_18, o41_19, o41_20, o41_21, o41_22, o41_23, o41_24, o41_25, o41_26, o41_27⟩ := hQ41
    have N41 := Fr.app N20 Nq41
    have s9 := K41.1
    obtain ⟨x42, ex42⟩ : ∃ z, z = (if ((nar .byte ((nar .char ((p2 &&& (255 : Int32)).toUInt32.toUInt16.toUInt32.toInt32)).toInt8.toInt32)) &&& (255 : Int32)) = 0 then (0 : Int32) else ((nar .byte ((nar .char ((p2 &&& (255 : Int32)).toUInt32.toUInt16.toUInt32.toInt32)).toInt8.toInt32)) &&& (255 : Int32))) := ⟨_, rfl⟩
    have o41_2' : Fld Z T41.heap b17 jS "hash" "I" (.int x42) := by rw [ex42]; exact o41_2
    obtain ⟨x43, ex43⟩ : ∃ z, z = (if ((nar .byte ((nar .char ((p2 &&& (255 : Int32)).toUInt32.toUInt16.toUInt32.toInt32)).toInt8.toInt32)) &&& (255 : Int32)) = 0 then (1 : Int32) else (0 : Int32)) := ⟨_, rfl⟩
    have o41_3' : Fld Z T41.heap b17 jS "hashIsZero" "Z" (.int x43) := by rw [ex43]; exact o41_3
    have Ex44 := (Ex21.keep K41)
    have ne_b10_b11_9 := Nat.ne_of_lt (Nat.lt_of_lt_of_le Fn10_terms.lt o11_26)
    have ne_b10_b11_10 := Nat.ne_of_lt (Nat.lt_of_lt_of_le Fn10_terms.lt o11_33)
    have ne_b10_b11_8 := Nat.ne_of_lt (Nat.lt_of_lt_of_le Fn10_terms.lt o11_21)
    have Fl45 := (((((o11_6.ext E13).other W16 (Or.inl ne_b10_b13)).ext E17).keep K20 (ninS ne_b10_b17 nin0)).keep K41 (ninS ne_b10_b17 (ninS ne_b10_b11_9 (ninS ne_b10_b11_10 (ninS ne_b10_b11_8 nin0)))))
    have z10 := Nat.le_trans Z0 (Nat.le_trans (Nat.le_trans (Nat.le_trans (Nat.le_trans (Nat.le_trans (Nat.le_trans (Nat.le_trans (Nat.le_trans (Nat.le_trans s0 s1) s2) s3) s4) s5) s6) s7) s8) s9)
    obtain ⟨_, T46, L46, X46, hQ46, st46⟩ := own_virtual X41 hx hZ hH hown (y := y_9) (z := y_9) Ex44 (w_83 hw) (w_84 hw) (own_nf hZ (w_86 hw)) (w_86 hw) (w_85 hw) (w_3 hw) (w_87 hw) (rm11 l Z hw b10 T41.heap n0 z10 Fl45) rfl (Ls := #[vi p1, vi p2, vi p3, vi p4, vi p5, vi p6, vr b1, vr b10, vi 1, vr b13, un, un]) hml.symm (argsL := []) (rest := []) (lenOf pd_2 rfl) (B at_91) (W := 0)
    obtain ⟨rfl, Nq46, e46⟩ := hQ46
    have N46 := Fr.app N41 Nq46
    obtain ⟨_, T47, L47, X47, hQ47, st47⟩ := own_virtual X46 hx hZ hH hown (y := y_9) (z := y_9) Ex44 (w_83 hw) (w_84 hw) (own_nf hZ (w_86 hw)) (w_86 hw) (w_85 hw) (w_3 hw) (w_87 hw) (rm11 l Z hw b10 T41.heap n0 z10 Fl45) e46 (Ls := #[vi p1, vi p2, vi p3, vi p4, vi p5, vi p6, vr b1, vr b10, vi 1, vi 1, vi 0, un]) hml.symm (argsL := []) (rest := []) (lenOf pd_2 rfl) (B at_151) (W := 0)
    obtain ⟨rfl, Nq47, e47⟩ := hQ47
    have N47 := Fr.app N46 Nq47
    refine ⟨T47, _, _, _, (some (.int 1)), X47, nofun, by decide, by decide, ?_, fun fs hr => ?_⟩
    · show Q0 n0 _ T47.heap _
      rw [e47]
      subst ex43
      subst ex42
      exact ⟨rfl, N47⟩
    · refine sC X0 hx (B at_0) ?_
      refine st1 _ ?_
      refine XS.dup X1.here hx rfl (B at_3) rfl rfl ?_
      refine sC X1 hx (B at_4) ?_
      refine st2 _ ?_
      refine st5 _ ?_
      refine XS.dup X5.here hx rfl (B at_18) rfl rfl ?_
      refine sC X5 hx (B at_19) ?_
      refine st6 _ ?_
      refine st9 _ ?_
      refine XS.astore X9.here hx rfl (B at_33) rfl rfl (l' := #[vi p1, vi p2, vi p3, vi p4, vi p5, vi p6, vr b1, un, un, un, un, un]) rfl ?_
      refine st10 _ ?_
      refine XS.dup X10.here hx rfl (B at_38) rfl rfl ?_
      refine sB X10 hx (B at_39) rfl rfl ?_
      refine st11 _ ?_
      refine XS.astore X11.here hx rfl (B at_44) rfl rfl (l' := #[vi p1, vi p2, vi p3, vi p4, vi p5, vi p6, vr b1, vr b10, un, un, un, un]) rfl ?_
      refine sB X11 hx (B at_46) rfl rfl ?_
      refine st12 _ ?_
      refine XS.istore X12.here hx rfl (B at_51) rfl (l' := #[vi p1, vi p2, vi p3, vi p4, vi p5, vi p6, vr b1, vr b10, vi 1, un, un, un]) rfl ?_
      refine sJ X12 hx (B at_53) rfl ?_
      refine sC X12 hx (B at_55) ?_
      refine XS.iand X12.here hx rfl (B at_56) rfl ?_
      refine XS.ifNo X12.here hx rfl (B at_57) rfl ((if0 _ _).trans (feq cc1).1) ?_
      refine sC X12 hx (B at_60) ?_
      refine st13 _ ?_
      refine XS.dup X13.here hx rfl (B at_63) rfl rfl ?_
      refine sC X13 hx (B at_64) ?_
      refine sI X13 hx (B at_65) rfl ?_
      refine XS.sipush X13.here hx rfl (B at_66) ?_
      refine XS.iand X13.here hx rfl (B at_69) rfl ?_
      refine XS.i2c X13.here hx rfl (B at_70) rfl ?_
      refine st16 _ ?_
      refine XS.astore X16.here hx rfl (B at_72) rfl rfl (l' := #[vi p1, vi p2, vi p3, vi p4, vi p5, vi p6, vr b1, vr b10, vi 1, vr b13, un, un]) rfl ?_
      refine sB X16 hx (B at_74) rfl rfl ?_
      refine st17 _ ?_
      refine XS.dup X17.here hx rfl (B at_79) rfl rfl ?_
      refine sB X17 hx (B at_80) rfl rfl ?_
      refine st20 _ ?_
      refine st41 _ ?_
      refine XS.pop X41.here hx rfl (B at_88) rfl rfl ?_
      refine sB X41 hx (B at_89) rfl rfl ?_
      refine st46 _ ?_
      refine XS.istore X46.here hx rfl (B at_94) rfl (l' := #[vi p1, vi p2, vi p3, vi p4, vi p5, vi p6, vr b1, vr b10, vi 1, vi 1, un, un]) rfl ?_
      refine sI X46 hx (B at_96) rfl ?_
      refine sC X46 hx (B at_97) ?_
      refine XS.iand X46.here hx rfl (B at_98) rfl ?_
      show Steps p.tables e below (T46.setTop (mkF m 99 #[vi p1, vi p2, vi p3, vi p4, vi p5, vi p6, vr b1, vr b10, vi 1, vi 1, un, un] [(.int (p1 &&& (3 : Int32)))])) _
      rw [hk]
      refine XS.istore X46.here hx rfl (B at_99) rfl (l' := #[vi p1, vi p2, vi p3, vi p4, vi p5, vi p6, vr b1, vr b10, vi 1, vi 1, vi 0, un]) rfl ?_
      refine sJ X46 hx (B at_101) rfl ?_
      refine sC X46 hx (B at_103) ?_
      refine XS.icmpYes X46.here hx rfl (pc0 := 104) (pc' := 117) rfl (B at_104) rfl (tlt (by decide : (0 : Int32) < (1 : Int32))).1 (by decide) (by decide) ?_
      refine sJ X46 hx (B at_117) rfl ?_
      refine sC X46 hx (B at_119) ?_
      refine XS.icmpYes X46.here hx rfl (pc0 := 120) (pc' := 133) rfl (B at_120) rfl (tlt (by decide : (0 : Int32) < (2 : Int32))).1 (by decide) (by decide) ?_
      refine sJ X46 hx (B at_133) rfl ?_
      refine sC X46 hx (B at_135) ?_
      refine XS.icmpYes X46.here hx rfl (pc0 := 136) (pc' := 149) rfl (B at_136) rfl (tlt (by decide : (0 : Int32) < (3 : Int32))).1 (by decide) (by decide) ?_
      refine sB X46 hx (B at_149) rfl rfl ?_
      refine st47 _ ?_
      refine XS.istore X47.here hx rfl (B at_154) rfl (l' := #[vi p1, vi p2, vi p3, vi p4, vi p5, vi p6, vr b1, vr b10, vi 1, vi 1, vi 0, vi 1]) rfl ?_
      refine sJ X47 hx (B at_156) rfl ?_
      refine XS.ifNo X47.here hx rfl (B at_158) rfl ((if0 _ _).trans (feq (by decide : ¬ ((1 : Int32) = (0 : Int32)))).1) ?_
      refine sJ X47 hx (B at_161) rfl ?_
      refine XS.ifNo X47.here hx rfl (B at_163) rfl ((if0 _ _).trans (feq (by decide : ¬ ((1 : Int32) = (0 : Int32)))).1) ?_
      refine sJ X47 hx (B at_166) rfl ?_
      refine sJ X47 hx (B at_168) rfl ?_
      refine XS.ifNo X47.here hx rfl (B at_170) rfl ((if0 _ _).trans (teq (by decide : (0 : Int32) = (0 : Int32))).2) ?_
      refine sC X47 hx (B at_173) ?_
      refine XS.goto X47.here hx rfl (pc0 := 174) (pc' := 178) rfl (B at_174) (by decide) (by decide) ?_
      refine XS.icmpNo X47.here hx rfl (B at_178) rfl (teq (by decide : (1 : Int32) = (1 : Int32))).2 ?_
      refine sC X47 hx (B at_181) ?_
      refine XS.goto X47.here hx rfl (pc0 := 182) (pc' := 186) rfl (B at_182) (by decide) (by decide) ?_
      exact retN X47 hx (t := .boolean) hret (by simp) (B at_186) hr
abbrev Kc39 := prog_42_method_3_code
theorem d39_0 : decode Kc39 0 = .ok (.aload_n 0, 1) := by decide +kernel
theorem d39_1 : decode Kc39 1 = .ok (.getfield 28, 3) := by decide +kernel
theorem d39_4 : decode Kc39 4 = .ok (.aload_n 0, 1) := by decide +kernel
theorem d39_5 : decode Kc39 5 = .ok (.getfield 32, 3) := by decide +kernel
theorem d39_8 : decode Kc39 8 = .ok (.arraylength, 1) := by decide +kernel
theorem d39_9 : decode Kc39 9 = .ok (.if_icmp .ne 89, 3) := by decide +kernel
theorem d39_98 : decode Kc39 98 = .ok (.aload_n 0, 1) := by decide +kernel
theorem d39_99 : decode Kc39 99 = .ok (.getfield 32, 3) := by decide +kernel
theorem d39_102 : decode Kc39 102 = .ok (.aload_n 0, 1) := by decide +kernel
theorem d39_103 : decode Kc39 103 = .ok (.getfield 28, 3) := by decide +kernel
theorem d39_106 : decode Kc39 106 = .ok (.iload_n 1, 1) := by decide +kernel
theorem d39_107 : decode Kc39 107 = .ok (.iastore, 1) := by decide +kernel
theorem d39_108 : decode Kc39 108 = .ok (.aload_n 0, 1) := by decide +kernel
theorem d39_109 : decode Kc39 109 = .ok (.getfield 42, 3) := by decide +kernel
theorem d39_112 : decode Kc39 112 = .ok (.aload_n 0, 1) := by decide +kernel
theorem d39_113 : decode Kc39 113 = .ok (.getfield 28, 3) := by decide +kernel
theorem d39_116 : decode Kc39 116 = .ok (.iload_n 2, 1) := by decide +kernel
theorem d39_117 : decode Kc39 117 = .ok (.iastore, 1) := by decide +kernel
theorem d39_118 : decode Kc39 118 = .ok (.aload_n 0, 1) := by decide +kernel
theorem d39_119 : decode Kc39 119 = .ok (.getfield 45, 3) := by decide +kernel
theorem d39_122 : decode Kc39 122 = .ok (.aload_n 0, 1) := by decide +kernel
theorem d39_123 : decode Kc39 123 = .ok (.getfield 28, 3) := by decide +kernel
theorem d39_126 : decode Kc39 126 = .ok (.iload_n 3, 1) := by decide +kernel
theorem d39_127 : decode Kc39 127 = .ok (.iastore, 1) := by decide +kernel
theorem d39_128 : decode Kc39 128 = .ok (.aload_n 0, 1) := by decide +kernel
theorem d39_129 : decode Kc39 129 = .ok (.getfield 48, 3) := by decide +kernel
theorem d39_132 : decode Kc39 132 = .ok (.aload_n 0, 1) := by decide +kernel
theorem d39_133 : decode Kc39 133 = .ok (.getfield 28, 3) := by decide +kernel
theorem d39_136 : decode Kc39 136 = .ok (.iload 4, 2) := by decide +kernel
theorem d39_138 : decode Kc39 138 = .ok (.iastore, 1) := by decide +kernel
theorem d39_139 : decode Kc39 139 = .ok (.aload_n 0, 1) := by decide +kernel
theorem d39_140 : decode Kc39 140 = .ok (.dup, 1) := by decide +kernel
theorem d39_141 : decode Kc39 141 = .ok (.getfield 28, 3) := by decide +kernel
theorem d39_144 : decode Kc39 144 = .ok (.iconst 1, 1) := by decide +kernel
theorem d39_145 : decode Kc39 145 = .ok (.iadd, 1) := by decide +kernel
theorem d39_146 : decode Kc39 146 = .ok (.putfield 28, 3) := by decide +kernel
theorem d39_149 : decode Kc39 149 = .ok (.return_, 1) := by decide +kernel
theorem ef_d30fdd (a1 : Addr) (i2 : Int32) (i3 : Int32) (i4 : Int32) (i5 : Int32) (m : MethodId) : entryFrame m #[(.ref a1), (.int i2), (.int i3), (.int i4), (.int i5)] 5 = mkF m 0 #[.val (.ref a1), .val (.int i2), .val (.int i3), .val (.int i4), .val (.int i5)] [] := by first | (simp [entryFrame, mkF, argsToLocals, Value.category]; done) | rfl
abbrev y_43 : MethodName := ⟨"com/example/informal_search/informalsearch/index/PostingBuffer", "add", "(IIII)V"⟩
abbrev Rm40 : Room := rmk 0 0 0 0
def Q40 (Z : State) (a1 : Addr) (i2 i3 i4 i5 : Int32) (a6 : Addr) (ck7 : ClassId) (a8 : Addr) (ck9 : ClassId) (a10 : Addr) (ck11 : ClassId) (a12 : Addr) (ck13 : ClassId) (a14 a15 : Addr) (h0 : Heap) (n0 : Nat) (v : Option Value) (h : Heap) (L : List Loc) : Prop := v = none ∧ Fr n0 L ∧ Keep h0 h [a6, a8, a10, a12, a1] ∧ Exa Z h a6 "[I" ∧ Arv Z h a6 ck7 .int 1024 [(.int i2)] (.int 0) ∧ Exa Z h a8 "[I" ∧ Arv Z h a8 ck9 .int 1024 [(.int i3)] (.int 0) ∧ Exa Z h a10 "[I" ∧ Arv Z h a10 ck11 .int 1024 [(.int i4)] (.int 0) ∧ Exa Z h a12 "[I" ∧ Arv Z h a12 ck13 .int 1024 [(.int i5)] (.int 0) ∧ Exa Z h a1 "com/example/informal_search/informalsearch/index/PostingBuffer" ∧ Fld Z h a1 "com/example/informal_search/informalsearch/index/PostingBuffer" "bytes" "J" (.long 20480) ∧ Fld Z h a1 "com/example/informal_search/informalsearch/index/PostingBuffer" "countOf" "[I" (.ref a12) ∧ Fld Z h a1 "com/example/informal_search/informalsearch/index/PostingBuffer" "entityOf" "[I" (.ref a8) ∧ Fld Z h a1 "com/example/informal_search/informalsearch/index/PostingBuffer" "fieldOf" "[I" (.ref a10) ∧ Fld Z h a1 "com/example/informal_search/informalsearch/index/PostingBuffer" "literal" "[Z" (.ref a14) ∧ Fld Z h a1 "com/example/informal_search/informalsearch/index/PostingBuffer" "size" "I" (.int 1) ∧ Fld Z h a1 "com/example/informal_search/informalsearch/index/PostingBuffer" "termOf" "[I" (.ref a6) ∧ Fld Z h a1 "com/example/informal_search/informalsearch/index/PostingBuffer" "terms" "Lcom/example/informal_search/informalsearch/index/Numbering;" (.ref a15)
theorem rm40 (l : Launch) (Z : State) {a0 : Array Value} (hw : OW a0 Z) (a1 : Addr) (i2 i3 i4 i5 : Int32) (a6 : Addr) (ck7 : ClassId) (a8 : Addr) (ck9 : ClassId) (a10 : Addr) (ck11 : ClassId) (a12 : Addr) (ck13 : ClassId) (a14 a15 : Addr) (h0 : Heap) (n0 : Nat) (Z0 : n0 ≤ h0.size) (F_size_a1 : Fld Z h0 a1 "com/example/informal_search/informalsearch/index/PostingBuffer" "size" "I" (.int 0)) (F_termOf_a1 : Fld Z h0 a1 "com/example/informal_search/informalsearch/index/PostingBuffer" "termOf" "[I" (.ref a6)) (V_a6 : Arv Z h0 a6 ck7 .int 1024 [] (.int 0)) (g_a6 : n0 ≤ a6) (F_entityOf_a1 : Fld Z h0 a1 "com/example/informal_search/informalsearch/index/PostingBuffer" "entityOf" "[I" (.ref a8)) (ne_a1_a6 : a1 ≠ a6) (V_a8 : Arv Z h0 a8 ck9 .int 1024 [] (.int 0)) (ne_a8_a6 : a8 ≠ a6) (g_a8 : n0 ≤ a8) (F_fieldOf_a1 : Fld Z h0 a1 "com/example/informal_search/informalsearch/index/PostingBuffer" "fieldOf" "[I" (.ref a10)) (ne_a1_a8 : a1 ≠ a8) (V_a10 : Arv Z h0 a10 ck11 .int 1024 [] (.int 0)) (ne_a10_a6 : a10 ≠ a6) (ne_a10_a8 : a10 ≠ a8) (g_a10 : n0 ≤ a10) (F_countOf_a1 : Fld Z h0 a1 "com/example/informal_search/informalsearch/index/PostingBuffer" "countOf" "[I" (.ref a12)) (ne_a1_a10 : a1 ≠ a10) (V_a12 : Arv Z h0 a12 ck13 .int 1024 [] (.int 0)) (ne_a12_a6 : a12 ≠ a6) (ne_a12_a8 : a12 ≠ a8) (ne_a12_a10 : a12 ≠ a10) (g_a12 : n0 ≤ a12) (ne_a1_a12 : a1 ≠ a12) (E_a1 : Exa Z h0 a1 "com/example/informal_search/informalsearch/index/PostingBuffer") (g_a1 : n0 ≤ a1) (E_a6 : Exa Z h0 a6 "[I") (E_a8 : Exa Z h0 a8 "[I") (E_a10 : Exa Z h0 a10 "[I") (E_a12 : Exa Z h0 a12 "[I") (F_bytes_a1 : Fld Z h0 a1 "com/example/informal_search/informalsearch/index/PostingBuffer" "bytes" "J" (.long 20480)) (F_literal_a1 : Fld Z h0 a1 "com/example/informal_search/informalsearch/index/PostingBuffer" "literal" "[Z" (.ref a14)) (F_terms_a1 : Fld Z h0 a1 "com/example/informal_search/informalsearch/index/PostingBuffer" "terms" "Lcom/example/informal_search/informalsearch/index/Numbering;" (.ref a15)) :
    OwnMet l Z y_43 prog_42_method_3_code 5 none [] Rm40 #[(.ref a1), (.int i2), (.int i3), (.int i4), (.int i5)] h0 (Q40 Z a1 i2 i3 i4 i5 a6 ck7 a8 ck9 a10 ck11 a12 ck13 a14 a15 h0 n0) := by
  refine own_body (plainFor_of_name pn_6) (ef_d30fdd a1 i2 i3 i4 i5) ?_
  intro p e s m below meth c s₁ hx hby hml hown hnm hret hZ hH hnd X0 e0
  have N0 := Fr.nil n0
  have B := hbx hby
  obtain ⟨T1, X1, e1, st1⟩ := getF X0 hx hZ hown (host := "") (Or.inl (w_78 hw)) Via.refl e0 F_size_a1 (g := (mkF m 1 #[vr a1, vi i2, vi i3, vi i4, vi i5] [(.ref a1)])) rfl rfl (B d39_1)
  obtain ⟨T2, X2, e2, st2⟩ := getF X1 hx hZ hown (host := "") (Or.inl (w_70 hw)) Via.refl e1 F_termOf_a1 (g := (mkF m 5 #[vr a1, vi i2, vi i3, vi i4, vi i5] [(.ref a1), (.int 0)])) rfl rfl (B d39_5)
  obtain ⟨cl3, Ar3, q3, S3, M3, Hs3, G3⟩ := id V_a6
  obtain ⟨T4, X4, e4, st4⟩ := getF X2 hx hZ hown (host := "") (Or.inl (w_70 hw)) Via.refl e2 F_termOf_a1 (g := (mkF m 99 #[vr a1, vi i2, vi i3, vi i4, vi i5] [(.ref a1)])) rfl rfl (B d39_99)
  obtain ⟨T5, X5, e5, st5⟩ := getF X4 hx hZ hown (host := "") (Or.inl (w_78 hw)) Via.refl e4 F_size_a1 (g := (mkF m 103 #[vr a1, vi i2, vi i3, vi i4, vi i5] [(.ref a1), (.ref a6)])) rfl rfl (B d39_103)
  have Vp6 : Arv Z h0 a6 ck7 .int 1024 [(.int 0)] (.int 0) := V_a6.pad (pad_rep [] (.int 0) 1)
  obtain ⟨cl7, Ar7, q7, S7, M7, Hs7, G7⟩ := id Vp6
  have hin8 := inb_of (j := 0) S7 ⟨by decide, by decide⟩
  obtain ⟨T9, h9, X9, e9, W9, st9⟩ := stI X5 hx hZ e5 Ar7 (j := 0) hin8 (g := (mkF m 107 #[vr a1, vi i2, vi i3, vi i4, vi i5] [(.int i2), (.int 0), (.ref a6)])) rfl rfl (B d39_107)
  have s0 := (Keep.of_wr W9).1
  have N9 := Fr.snoc X9 N0 g_a6
  have Vs9 : Arv Z h9 a6 ck7 .int 1024 [(.int i2)] (.int 0) := Arv.set Ar7 q7 S7 M7 Hs7 G7 rfl W9 0 rfl (nl rfl)
  have Fl10 := (F_entityOf_a1.other W9 (Or.inl ne_a1_a6))
  obtain ⟨T11, X11, e11, st11⟩ := getF X9 hx hZ hown (host := "") (Or.inl (w_72 hw)) Via.refl e9 Fl10 (g := (mkF m 109 #[vr a1, vi i2, vi i3, vi i4, vi i5] [(.ref a1)])) rfl rfl (B d39_109)
  have Fl12 := (F_size_a1.other W9 (Or.inl ne_a1_a6))
  obtain ⟨T13, X13, e13, st13⟩ := getF X11 hx hZ hown (host := "") (Or.inl (w_78 hw)) Via.refl e11 Fl12 (g := (mkF m 113 #[vr a1, vi i2, vi i3, vi i4, vi i5] [(.ref a1), (.ref a8)])) rfl rfl (B d39_113)
  have Va14 := (V_a8.other W9 ne_a8_a6)
  have Vp15 : Arv Z h9 a8 ck9 .int 1024 [(.int 0)] (.int 0) := Va14.pad (pad_rep [] (.int 0) 1)
  obtain ⟨cl16, Ar16, q16, S16, M16, Hs16, G16⟩ := id Vp15
  have hin17 := inb_of (j := 0) S16 ⟨by decide, by decide⟩
  obtain ⟨T18, h18, X18, e18, W18, st18⟩ := stI X13 hx hZ e13 Ar16 (j := 0) hin17 (g := (mkF m 117 #[vr a1, vi i2, vi i3, vi i4, vi i5] [(.int i3), (.int 0), (.ref a8)])) rfl rfl (B d39_117)
  have s1 := (Keep.of_wr W18).1
  have N18 := Fr.snoc X18 N9 g_a8
  have Vs18 : Arv Z h18 a8 ck9 .int 1024 [(.int i3)] (.int 0) := Arv.set Ar16 q16 S16 M16 Hs16 G16 rfl W18 0 rfl (nl rfl)
  have Fl19 := ((F_fieldOf_a1.other W9 (Or.inl ne_a1_a6)).other W18 (Or.inl ne_a1_a8))
  obtain ⟨T20, X20, e20, st20⟩ := getF X18 hx hZ hown (host := "") (Or.inl (w_74 hw)) Via.refl e18 Fl19 (g := (mkF m 119 #[vr a1, vi i2, vi i3, vi i4, vi i5] [(.ref a1)])) rfl rfl (B d39_119)
  have Fl21 := (Fl12.other W18 (Or.inl ne_a1_a8))
  obtain ⟨T22, X22, e22, st22⟩ := getF X20 hx hZ hown (host := "") (Or.inl (w_78 hw)) Via.refl e20 Fl21 (g := (mkF m 123 #[vr a1, vi i2, vi i3, vi i4, vi i5] [(.ref a1), (.ref a10)])) rfl rfl (B d39_123)
  have Va23 := ((V_a10.other W9 ne_a10_a6).other W18 ne_a10_a8)
  have Vp24 : Arv Z h18 a10 ck11 .int 1024 [(.int 0)] (.int 0) := Va23.pad (pad_rep [] (.int 0) 1)
  obtain ⟨cl25, Ar25, q25, S25, M25, Hs25, G25⟩ := id Vp24
  have hin26 := inb_of (j := 0) S25 ⟨by decide, by decide⟩
  obtain ⟨T27, h27, X27, e27, W27, st27⟩ := stI X22 hx hZ e22 Ar25 (j := 0) hin26 (g := (mkF m 127 #[vr a1, vi i2, vi i3, vi i4, vi i5] [(.int i4), (.int 0), (.ref a10)])) rfl rfl (B d39_127)
  have s2 := (Keep.of_wr W27).1
  have N27 := Fr.snoc X27 N18 g_a10
  have Vs27 : Arv Z h27 a10 ck11 .int 1024 [(.int i4)] (.int 0) := Arv.set Ar25 q25 S25 M25 Hs25 G25 rfl W27 0 rfl (nl rfl)
  have Fl28 := (((F_countOf_a1.other W9 (Or.inl ne_a1_a6)).other W18 (Or.inl ne_a1_a8)).other W27 (Or.inl ne_a1_a10))
  obtain ⟨T29, X29, e29, st29⟩ := getF X27 hx hZ hown (host := "") (Or.inl (w_76 hw)) Via.refl e27 Fl28 (g := (mkF m 129 #[vr a1, vi i2, vi i3, vi i4, vi i5] [(.ref a1)])) rfl rfl (B d39_129)
  have Fl30 := (Fl21.other W27 (Or.inl ne_a1_a10))
  obtain ⟨T31, X31, e31, st31⟩ := getF X29 hx hZ hown (host := "") (Or.inl (w_78 hw)) Via.refl e29 Fl30 (g := (mkF m 133 #[vr a1, vi i2, vi i3, vi i4, vi i5] [(.ref a1), (.ref a12)])) rfl rfl (B d39_133)
  have Va32 := (((V_a12.other W9 ne_a12_a6).other W18 ne_a12_a8).other W27 ne_a12_a10)
  have Vp33 : Arv Z h27 a12 ck13 .int 1024 [(.int 0)] (.int 0) := Va32.pad (pad_rep [] (.int 0) 1)
  obtain ⟨cl34, Ar34, q34, S34, M34, Hs34, G34⟩ := id Vp33
  have hin35 := inb_of (j := 0) S34 ⟨by decide, by decide⟩
  obtain ⟨T36, h36, X36, e36, W36, st36⟩ := stI X31 hx hZ e31 Ar34 (j := 0) hin35 (g := (mkF m 138 #[vr a1, vi i2, vi i3, vi i4, vi i5] [(.int i5), (.int 0), (.ref a12)])) rfl rfl (B d39_138)
  have s3 := (Keep.of_wr W36).1
  have N36 := Fr.snoc X36 N27 g_a12
  have Vs36 : Arv Z h36 a12 ck13 .int 1024 [(.int i5)] (.int 0) := Arv.set Ar34 q34 S34 M34 Hs34 G34 rfl W36 0 rfl (nl rfl)
  have Fl37 := (Fl30.other W36 (Or.inl ne_a1_a12))
  obtain ⟨T38, X38, e38, st38⟩ := getF X36 hx hZ hown (host := "") (Or.inl (w_78 hw)) Via.refl e36 Fl37 (g := (mkF m 141 #[vr a1, vi i2, vi i3, vi i4, vi i5] [(.ref a1), (.ref a1)])) rfl rfl (B d39_141)
  have Ex39 := ((((E_a1.wr W9).wr W18).wr W27).wr W36)
  obtain ⟨T40, h40, X40, e40, W40, st40⟩ := putF X38 hx hZ hown (host := "") (Or.inl (w_78 hw)) Via.refl e38 Fl37 Ex39 (Or.inl (w_79 hw)) (w_2 hw) (ty := .int) (by decide) rfl rfl (g := (mkF m 146 #[vr a1, vi i2, vi i3, vi i4, vi i5] [(.int 1), (.ref a1)])) rfl rfl (B d39_146)
  have s4 := (Keep.of_wr W40).1
  have N40 := Fr.snoc X40 N36 g_a1
  have Fw40 : Fld Z h40 a1 "com/example/informal_search/informalsearch/index/PostingBuffer" "size" "I" (.int 1) := Fl37.same W40
  have Ex41 := (((((E_a6.wr W9).wr W18).wr W27).wr W36).wr W40)
  have Va42 := ((((Vs9.other W18 (Ne.symm ne_a8_a6)).other W27 (Ne.symm ne_a10_a6)).other W36 (Ne.symm ne_a12_a6)).other W40 (Ne.symm ne_a1_a6))
  have Ex43 := (((((E_a8.wr W9).wr W18).wr W27).wr W36).wr W40)
  have Va44 := (((Vs18.other W27 (Ne.symm ne_a10_a8)).other W36 (Ne.symm ne_a12_a8)).other W40 (Ne.symm ne_a1_a8))
  have Ex45 := (((((E_a10.wr W9).wr W18).wr W27).wr W36).wr W40)
  have Va46 := ((Vs27.other W36 (Ne.symm ne_a12_a10)).other W40 (Ne.symm ne_a1_a10))
  have Ex47 := (((((E_a12.wr W9).wr W18).wr W27).wr W36).wr W40)
  have Va48 := (Vs36.other W40 (Ne.symm ne_a1_a12))
  have Ex49 := (Ex39.wr W40)
  have Fl50 := (((((F_bytes_a1.other W9 (Or.inl ne_a1_a6)).other W18 (Or.inl ne_a1_a8)).other W27 (Or.inl ne_a1_a10)).other W36 (Or.inl ne_a1_a12)).other W40 (Or.inr (slot_ne (Or.inl (w_82 hw)) (Or.inl (w_79 hw)) (by decide) (t := .long) (t' := .int) (by decide) (by decide))))
  have Fl51 := ((Fl28.other W36 (Or.inl ne_a1_a12)).other W40 (Or.inr (slot_ne (Or.inl (w_77 hw)) (Or.inl (w_79 hw)) (by decide) (t := (.array .int)) (t' := .int) (by decide) (by decide))))
  have Fl52 := ((((Fl10.other W18 (Or.inl ne_a1_a8)).other W27 (Or.inl ne_a1_a10)).other W36 (Or.inl ne_a1_a12)).other W40 (Or.inr (slot_ne (Or.inl (w_73 hw)) (Or.inl (w_79 hw)) (by decide) (t := (.array .int)) (t' := .int) (by decide) (by decide))))
  have Fl53 := (((Fl19.other W27 (Or.inl ne_a1_a10)).other W36 (Or.inl ne_a1_a12)).other W40 (Or.inr (slot_ne (Or.inl (w_75 hw)) (Or.inl (w_79 hw)) (by decide) (t := (.array .int)) (t' := .int) (by decide) (by decide))))
  have Fl54 := (((((F_literal_a1.other W9 (Or.inl ne_a1_a6)).other W18 (Or.inl ne_a1_a8)).other W27 (Or.inl ne_a1_a10)).other W36 (Or.inl ne_a1_a12)).other W40 (Or.inr (slot_ne (Or.inr (w_11 hw)) (Or.inl (w_79 hw)) (by decide) (t := (.array .boolean)) (t' := .int) (by decide) (by decide))))
  have Fl55 := (((((F_termOf_a1.other W9 (Or.inl ne_a1_a6)).other W18 (Or.inl ne_a1_a8)).other W27 (Or.inl ne_a1_a10)).other W36 (Or.inl ne_a1_a12)).other W40 (Or.inr (slot_ne (Or.inl (w_71 hw)) (Or.inl (w_79 hw)) (by decide) (t := (.array .int)) (t' := .int) (by decide) (by decide))))
  have Fl56 := (((((F_terms_a1.other W9 (Or.inl ne_a1_a6)).other W18 (Or.inl ne_a1_a8)).other W27 (Or.inl ne_a1_a10)).other W36 (Or.inl ne_a1_a12)).other W40 (Or.inr (slot_ne (Or.inl (w_68 hw)) (Or.inl (w_79 hw)) (by decide) (t := (.object "com/example/informal_search/informalsearch/index/Numbering")) (t' := .int) (by decide) (by decide))))
  have Kp0 := (Keep.refl h0 [a6, a8, a10, a12, a1]).wr W9 own_m0
  have Kp1 := Kp0.wr W18 (Or.inl (List.mem_of_getElem? (i := 1) rfl))
  have Kp2 := Kp1.wr W27 (Or.inl (List.mem_of_getElem? (i := 2) rfl))
  have Kp3 := Kp2.wr W36 (Or.inl (List.mem_of_getElem? (i := 3) rfl))
  have Kp4 := Kp3.wr W40 (Or.inl (List.mem_of_getElem? (i := 4) rfl))
  refine ⟨T40, _, _, _, none, X40, (fun _ => rfl), by decide, by decide, ?_, fun fs hr => ?_⟩
  · rw [e40]
    exact ⟨rfl, N40, Kp4, Ex41, Va42, Ex43, Va44, Ex45, Va46, Ex47, Va48, Ex49, Fl50, Fl51, Fl52, Fl53, Fl54, Fw40, Fl55, Fl56⟩
  · refine sA X0 hx (B d39_0) rfl rfl ?_
    refine st1 _ ?_
    refine sA X1 hx (B d39_4) rfl rfl ?_
    refine st2 _ ?_
    refine X2.arraylength hx (by rw [e2]; exact Ar3.1) (State.isArrayOf_alike hZ.alike Ar3.2.1) (g := (mkF m 8 #[vr a1, vi i2, vi i3, vi i4, vi i5] [(.ref a6), (.int 0)])) rfl rfl (B d39_8) _ ?_
    show Steps p.tables e below (T2.setTop (mkF m 9 #[vr a1, vi i2, vi i3, vi i4, vi i5] [(.int cl3.slots.size.toInt32), (.int 0)])) _
    rw [len_of S3 M3]
    refine XS.icmpYes X2.here hx rfl (pc0 := 9) (pc' := 98) rfl (B d39_9) rfl (feq (by decide : ¬ ((0 : Int32) = (1024 : Int32)))).2 (by decide) (by decide) ?_
    refine sA X2 hx (B d39_98) rfl rfl ?_
    refine st4 _ ?_
    refine sA X4 hx (B d39_102) rfl rfl ?_
    refine st5 _ ?_
    refine sI X5 hx (B d39_106) rfl ?_
    refine st9 _ ?_
    refine sA X9 hx (B d39_108) rfl rfl ?_
    refine st11 _ ?_
    refine sA X11 hx (B d39_112) rfl rfl ?_
    refine st13 _ ?_
    refine sI X13 hx (B d39_116) rfl ?_
    refine st18 _ ?_
    refine sA X18 hx (B d39_118) rfl rfl ?_
    refine st20 _ ?_
    refine sA X20 hx (B d39_122) rfl rfl ?_
    refine st22 _ ?_
    refine sI X22 hx (B d39_126) rfl ?_
    refine st27 _ ?_
    refine sA X27 hx (B d39_128) rfl rfl ?_
    refine st29 _ ?_
    refine sA X29 hx (B d39_132) rfl rfl ?_
    refine st31 _ ?_
    refine sJ X31 hx (B d39_136) rfl ?_
    refine st36 _ ?_
    refine sA X36 hx (B d39_139) rfl rfl ?_
    refine XS.dup X36.here hx rfl (B d39_140) rfl rfl ?_
    refine st38 _ ?_
    refine sC X38 hx (B d39_144) ?_
    refine XS.iadd X38.here hx rfl (B d39_145) rfl ?_
    refine st40 _ ?_
    exact X40.returnOut hx hret (B d39_149) hr
theorem pd_24 : parseMethodDescriptor "(IIII)V" = some ⟨[.int, .int, .int, .int], none⟩ := by decide +kernel
theorem w_286 {a0 Z} (hw : OW a0 Z) : Jvm.Cond.before (.code y_43 prog_42_method_3_code 5 none) a0 Z := hw _ (mo 286 rfl)
theorem w_282 {a0 Z} (hw : OW a0 Z) : Jvm.Cond.before (.methodLink "com/example/informal_search/informalsearch/index/PostingBufferIsEmptyPinLaw" 25 y_43) a0 Z := hw _ (mo 282 rfl)
theorem w_285 {a0 Z} (hw : OW a0 Z) : Jvm.Cond.before (.selects "com/example/informal_search/informalsearch/index/PostingBuffer" y_43 y_43) a0 Z := hw _ (mo 285 rfl)
theorem w_283 {a0 Z} (hw : OW a0 Z) : Jvm.Cond.before (.declares y_43) a0 Z := hw _ (mo 283 rfl)
theorem w_284 {a0 Z} (hw : OW a0 Z) : Jvm.Cond.before (.instanceMethod y_43) a0 Z := hw _ (mo 284 rfl)
theorem d10_11 : decode Kc10 11 = .ok (.iconst 0, 1) := by decide +kernel
abbrev Rm41 : Room := rmk 0 0 0 0
def Q41 (Z : State) (a1 : Addr) (h0 : Heap) (n0 : Nat) (v : Option Value) (h : Heap) (L : List Loc) : Prop := v = some (.int 0) ∧ Fr n0 L ∧ h = h0
theorem rm41 (l : Launch) (Z : State) {a0 : Array Value} (hw : OW a0 Z) (a1 : Addr) (h0 : Heap) (n0 : Nat) (Z0 : n0 ≤ h0.size) (F_size_a1 : Fld Z h0 a1 "com/example/informal_search/informalsearch/index/PostingBuffer" "size" "I" (.int 1)) :
    OwnMet l Z y_9 prog_42_method_5_code 1 (some .boolean) [] Rm41 #[(.ref a1)] h0 (Q41 Z a1 h0 n0) := by
  refine own_body (plainFor_of_name pn_6) (ef_26f21a a1) ?_
  intro p e s m below meth c s₁ hx hby hml hown hnm hret hZ hH hnd X0 e0
  have N0 := Fr.nil n0
  have B := hbx hby
  obtain ⟨T1, X1, e1, st1⟩ := getF X0 hx hZ hown (host := "") (Or.inl (w_78 hw)) Via.refl e0 F_size_a1 (g := (mkF m 1 #[vr a1] [(.ref a1)])) rfl rfl (B d10_1)
  refine ⟨T1, _, _, _, (some (.int 0)), X1, nofun, by decide, by decide, ?_, fun fs hr => ?_⟩
  · rw [e1]
    exact ⟨rfl, N0, rfl⟩
  · refine sA X0 hx (B d10_0) rfl rfl ?_
    refine st1 _ ?_
    refine XS.ifYes X1.here hx rfl (pc0 := 4) (pc' := 11) rfl (B d10_4) rfl ((if0 _ _).trans (feq (by decide : ¬ ((1 : Int32) = (0 : Int32)))).2) (by decide) (by decide) ?_
    refine sC X1 hx (B d10_11) ?_
    exact retN X1 hx (t := .boolean) hret (by simp) (B d10_12) hr
theorem rm0_1 (l : Launch) (Z : State) {a0 : Array Value} (hw : OW a0 Z) (ws : List Jvm.Cond) (p1 p2 p3 p4 p5 p6 : Int32) (sa1 sa2 sa3 : Addr) (sr4 : Value) (si5 : Int32) (sk9 sk11 skc : ClassId) (suc : List Value) (sbi : Addr) (sck : ClassId) (h0 : Heap) (n0 : Nat) (Z0 : n0 ≤ h0.size) (Od0 : Old Z n0 h0) (R_sr4 : sr4.isRef = true) (nc7 : ¬ (si5 = 0)) (S8_EMPTY_ELEMENTDATA : Sta Z Z.heap "java/util/ArrayList" "EMPTY_ELEMENTDATA" "[Ljava/lang/Object;" (.ref sa1)) (E_sa1 : Exa Z h0 sa1 "[Ljava/lang/Object;") (V_sa1 : Arv Z h0 sa1 sk9 (.object "java/lang/Object") (0 : Int32) [] .null) (S10_DEFAULTCAPACITY_EMPTY_ELEMENTDATA : Sta Z Z.heap "java/util/ArrayList" "DEFAULTCAPACITY_EMPTY_ELEMENTDATA" "[Ljava/lang/Object;" (.ref sa2)) (E_sa2 : Exa Z h0 sa2 "[Ljava/lang/Object;") (V_sa2 : Arv Z h0 sa2 sk11 (.object "java/lang/Object") (0 : Int32) [] .null) (S12_cache : Sta Z Z.heap "java/lang/Integer$IntegerCache" "cache" "[Ljava/lang/Integer;" (.ref sa3)) (E_sa3 : Exa Z h0 sa3 "[Ljava/lang/Integer;") (S14_SIOOBE_FORMATTER : Sta Z Z.heap "jdk/internal/util/Preconditions" "SIOOBE_FORMATTER" "Ljava/util/function/BiFunction;" sr4) (S15_COMPACT_STRINGS : Sta Z Z.heap "java/lang/String" "COMPACT_STRINGS" "Z" (.int si5)) (S16_high : Sta Z Z.heap "java/lang/Integer$IntegerCache" "high" "I" (.int 127)) (V_sa3 : Arv Z h0 sa3 skc (.object "java/lang/Integer") 256 suc .null) (rd_c : suc.getD (128 : Int32).toNatClampNeg .null = .ref sbi) (E_sbi : Exa Z h0 sbi "java/lang/Integer") (F_sbi : Fld Z h0 sbi "java/lang/Integer" "value" "I" (.int 0)) (Site : OwnSite Z sck) (hk : (p1 &&& (3 : Int32)) = (1 : Int32)) :
    OwnMet l Z x code maxLocals ret ws room_1 #[(.int p1), (.int p2), (.int p3), (.int p4), (.int p5), (.int p6)] h0 (Q0 n0) := by
  refine own_body (plainFor_of_name pn_12) (ef0 p1 p2 p3 p4 p5 p6) ?_
  intro p e s m below meth c s₁ hx hby hml hown hnm hret hZ hH hnd X0 e0
  have N0 := Fr.nil n0
  have B := hbx hby
  obtain ⟨T1, h1, k1, X1, e1, E1, A1, B1, st1⟩ := newPE (aty := .boolean) X0 hx hZ (w_0 hw) e0 (g := (mkF m 1 #[vi p1, vi p2, vi p3, vi p4, vi p5, vi p6, un, un, un, un, un, un] [(.int 2)])) rfl (B at_1) rfl (by decide) (cap := 2) (by decide) (by decide) (by decide) (by decide) (ad := "[Z") (by decide)
  obtain ⟨b1, g1⟩ : ∃ z, z = h0.size := ⟨_, rfl⟩
  rw [← g1] at A1 B1 st1
  have s0 := E1.1
  have Vn1 : Arv Z h1 b1 k1 .boolean 2 [(.int 0), (.int 0)] (.int 0) := (Arv.new A1 (by decide)).pad (pad_rep [] (.int 0) 2)
  have z1 := Nat.le_trans Z0 s0
  obtain ⟨T2, L2, X2, e2, N2, st2⟩ := tn1 l Z hw p1 p2 p3 p4 p5 p6 b1 h1 n0 z1 hx hby hml hown hZ X1 e1 N0 (by decide) (by decide)
  obtain ⟨cl3, Ar3, q3, S3, M3, Hs3, G3⟩ := id Vn1
  have hin4 := inb_of (j := 0) S3 ⟨by decide, by decide⟩
  obtain ⟨T5, h5, X5, e5, W5, st5⟩ := stZ X2 hx hZ e2 Ar3 (j := 0) hin4 (g := (mkF m 17 #[vi p1, vi p2, vi p3, vi p4, vi p5, vi p6, un, un, un, un, un, un] [(.int (if (p6 &&& (1 : Int32)) = 0 then (0 : Int32) else (1 : Int32))), (.int 0), (.ref b1), (.ref b1)])) rfl rfl (B at_17)
  have s1 := (Keep.of_wr W5).1
  have g_b1 : n0 ≤ b1 := Nat.le_trans Z0 (Nat.le_of_eq g1.symm)
  have N5 := Fr.snoc X5 N2 g_b1
  have Vs5 : Arv Z h5 b1 k1 .boolean 2 [(.int (nar .boolean (if (p6 &&& (1 : Int32)) = 0 then (0 : Int32) else (1 : Int32)))), (.int 0)] (.int 0) := Arv.set Ar3 q3 S3 M3 Hs3 G3 (fits_nar_bool _) W5 0 rfl (nl rfl)
  have z2 := Nat.le_trans Z0 (Nat.le_trans s0 s1)
  obtain ⟨T6, L6, X6, e6, N6, st6⟩ := tn2 l Z hw p1 p2 p3 p4 p5 p6 b1 h5 n0 z2 hx hby hml hown hZ X5 e5 N5 (by decide) (by decide)
  obtain ⟨cl7, Ar7, q7, S7, M7, Hs7, G7⟩ := id Vs5
  have hin8 := inb_of (j := 1) S7 ⟨by decide, by decide⟩
  obtain ⟨T9, h9, X9, e9, W9, st9⟩ := stZ X6 hx hZ e6 Ar7 (j := 1) hin8 (g := (mkF m 32 #[vi p1, vi p2, vi p3, vi p4, vi p5, vi p6, un, un, un, un, un, un] [(.int (if (p6 &&& (2 : Int32)) = 0 then (0 : Int32) else (1 : Int32))), (.int 1), (.ref b1), (.ref b1)])) rfl rfl (B at_32)
  have s2 := (Keep.of_wr W9).1
  have N9 := Fr.snoc X9 N6 g_b1
  have Vs9 : Arv Z h9 b1 k1 .boolean 2 [(.int (nar .boolean (if (p6 &&& (1 : Int32)) = 0 then (0 : Int32) else (1 : Int32)))), (.int (nar .boolean (if (p6 &&& (2 : Int32)) = 0 then (0 : Int32) else (1 : Int32))))] (.int 0) := Arv.set Ar7 q7 S7 M7 Hs7 G7 (fits_nar_bool _) W9 1 rfl (nl rfl)
  obtain ⟨T10, h10, X10, e10, E10, A10, D10, -, st10⟩ := newO X9 hx hZ hown (w_1 hw) (w_2 hw) (w_3 hw) e9 (g := (mkF m 35 #[vi p1, vi p2, vi p3, vi p4, vi p5, vi p6, vr b1, un, un, un, un, un] [])) rfl (B at_35) (by decide) (by decide)
  obtain ⟨b10, g10⟩ : ∃ z, z = h9.size := ⟨_, rfl⟩
  rw [← g10] at A10 D10 st10
  have s3 := E10.1
  have Fn10_literal : Fld Z h10 b10 "com/example/informal_search/informalsearch/index/PostingBuffer" "literal" "[Z" .null := D10 (Or.inr (w_11 hw)) (ty := (.array .boolean)) (by decide)
  have Fn10_terms : Fld Z h10 b10 "com/example/informal_search/informalsearch/index/PostingBuffer" "terms" "Lcom/example/informal_search/informalsearch/index/Numbering;" .null := D10 (Or.inl (w_68 hw)) (ty := (.object "com/example/informal_search/informalsearch/index/Numbering")) (by decide)
  have Fn10_termOf : Fld Z h10 b10 "com/example/informal_search/informalsearch/index/PostingBuffer" "termOf" "[I" .null := D10 (Or.inl (w_71 hw)) (ty := (.array .int)) (by decide)
  have Fn10_entityOf : Fld Z h10 b10 "com/example/informal_search/informalsearch/index/PostingBuffer" "entityOf" "[I" .null := D10 (Or.inl (w_73 hw)) (ty := (.array .int)) (by decide)
  have Fn10_fieldOf : Fld Z h10 b10 "com/example/informal_search/informalsearch/index/PostingBuffer" "fieldOf" "[I" .null := D10 (Or.inl (w_75 hw)) (ty := (.array .int)) (by decide)
  have Fn10_countOf : Fld Z h10 b10 "com/example/informal_search/informalsearch/index/PostingBuffer" "countOf" "[I" .null := D10 (Or.inl (w_77 hw)) (ty := (.array .int)) (by decide)
  have Fn10_size : Fld Z h10 b10 "com/example/informal_search/informalsearch/index/PostingBuffer" "size" "I" (.int 0) := D10 (Or.inl (w_79 hw)) (ty := .int) (by decide)
  have Fn10_bytes : Fld Z h10 b10 "com/example/informal_search/informalsearch/index/PostingBuffer" "bytes" "J" (.long 0) := D10 (Or.inl (w_82 hw)) (ty := .long) (by decide)
  have z3 := Nat.le_trans Z0 (Nat.le_trans (Nat.le_trans s0 s1) s2)
  have g_b10 : n0 ≤ b10 := Nat.le_trans z3 (Nat.le_of_eq g10.symm)
  have Od1 := Od0.ext E1
  have Od2 := Od1.wr W5 g_b1
  have Od3 := Od2.wr W9 g_b1
  have Od4 := Od3.ext E10
  have z4 := Nat.le_trans Z0 (Nat.le_trans (Nat.le_trans (Nat.le_trans s0 s1) s2) s3)
  obtain ⟨_, T11, L11, X11, hQ11, st11⟩ := own_special X10 hx hZ hH hown (y := y_8) (a := b10) (w_4 hw) (w_5 hw) (w_3 hw) (w_6 hw) (rm10 l Z hw b10 b1 sa2 h10 n0 z4 Fn10_literal A10 g_b10 S10_DEFAULTCAPACITY_EMPTY_ELEMENTDATA Od4 Fn10_terms Fn10_termOf Fn10_entityOf Fn10_fieldOf Fn10_countOf Fn10_size Fn10_bytes) e10 (Ls := #[vi p1, vi p2, vi p3, vi p4, vi p5, vi p6, vr b1, un, un, un, un, un]) hml.symm (argsL := [(.ref b1)]) (rest := [(.ref b10)]) (lenOf pd_1 rfl) (B at_41) (W := 1)
  obtain ⟨b11_0, k11_1, b11_2, k11_3, b11_4, k11_5, b11_6, k11_7, b11_8, b11_9, b11_10, rfl, Nq11, K11, o11_0, o11_1, o11_2, o11_3, o11_4, o11_5, o11_6, o11_7, o11_8, o11_9, o11_10, o11_11, o11_12, o11_13, o11_14, o11_15, o11_16, o11_17, o11_18, o11_19, o11_20, o11_21, o11_22, o11_23, o11_24, o11_25, o11_26, o11_27, o11_28, o11_29, o11_30, o11_31, o11_32, o11_33, o11_34, o11_35, o11_36, o11_37, o11_38, o11_39, o11_40, o11_41, o11_42, o11_43, o11_44, o11_45, o11_46, o11_47, o11_48, o11_49, o11_50, o11_51, o11_52, o11_53, o11_54, o11_55, o11_56, o11_57, o11_58⟩ := hQ11
  have N11 := Fr.app N9 Nq11
  have s4 := K11.1
  have z5 := Nat.le_trans Z0 (Nat.le_trans (Nat.le_trans (Nat.le_trans (Nat.le_trans s0 s1) s2) s3) s4)
  obtain ⟨_, T12, L12, X12, hQ12, st12⟩ := own_virtual X11 hx hZ hH hown (y := y_9) (z := y_9) o11_0 (w_83 hw) (w_84 hw) (own_nf hZ (w_86 hw)) (w_86 hw) (w_85 hw) (w_3 hw) (w_87 hw) (rm11 l Z hw b10 T11.heap n0 z5 o11_6) rfl (Ls := #[vi p1, vi p2, vi p3, vi p4, vi p5, vi p6, vr b1, vr b10, un, un, un, un]) hml.symm (argsL := []) (rest := []) (lenOf pd_2 rfl) (B at_48) (W := 0)
  obtain ⟨rfl, Nq12, e12⟩ := hQ12
  have N12 := Fr.app N11 Nq12
  by_cases cc1 : (p6 &&& (4 : Int32)) = 0
  · obtain ⟨_, T13, L13, X13, hQ13, st13⟩ := own_virtual X12 hx hZ hH hown (y := y_9) (z := y_9) o11_0 (w_83 hw) (w_84 hw) (own_nf hZ (w_86 hw)) (w_86 hw) (w_85 hw) (w_3 hw) (w_87 hw) (rm11 l Z hw b10 T11.heap n0 z5 o11_6) e12 (Ls := #[vi p1, vi p2, vi p3, vi p4, vi p5, vi p6, vr b1, vr b10, vi 1, un, un, un]) hml.symm (argsL := []) (rest := []) (lenOf pd_2 rfl) (B at_91) (W := 0)
    obtain ⟨rfl, Nq13, e13⟩ := hQ13
    have N13 := Fr.app N12 Nq13
    have g_b11_6 : n0 ≤ b11_6 := Nat.le_trans z4 o11_18
    have ne_b10_b11_6 := Nat.ne_of_lt (Nat.lt_of_lt_of_le Fn10_terms.lt o11_18)
    have g_b11_2 : n0 ≤ b11_2 := Nat.le_trans z4 o11_12
    have ne_b10_b11_2 := Nat.ne_of_lt (Nat.lt_of_lt_of_le Fn10_terms.lt o11_12)
    have g_b11_4 : n0 ≤ b11_4 := Nat.le_trans z4 o11_15
    have ne_b10_b11_4 := Nat.ne_of_lt (Nat.lt_of_lt_of_le Fn10_terms.lt o11_15)
    have g_b11_0 : n0 ≤ b11_0 := Nat.le_trans z4 o11_9
    have ne_b10_b11_0 := Nat.ne_of_lt (Nat.lt_of_lt_of_le Fn10_terms.lt o11_9)
    obtain ⟨_, T14, L14, X14, hQ14, st14⟩ := own_virtual X13 hx hZ hH hown (y := y_43) (z := y_43) o11_0 (w_282 hw) (w_283 hw) (own_nf hZ (w_285 hw)) (w_285 hw) (w_284 hw) (w_3 hw) (w_286 hw) (rm40 l Z hw b10 p2 p3 p4 p5 b11_6 k11_7 b11_2 k11_3 b11_4 k11_5 b11_0 k11_1 b1 b11_8 T11.heap n0 z5 o11_6 o11_7 o11_20 g_b11_6 o11_3 ne_b10_b11_6 o11_14 o11_45 g_b11_2 o11_4 ne_b10_b11_2 o11_17 o11_49 (Ne.symm o11_44) g_b11_4 o11_2 ne_b10_b11_4 o11_11 o11_40 o11_38 o11_39 g_b11_0 ne_b10_b11_0 o11_0 g_b10 o11_19 o11_13 o11_16 o11_10 o11_1 o11_5 o11_8) e13 (Ls := #[vi p1, vi p2, vi p3, vi p4, vi p5, vi p6, vr b1, vr b10, vi 1, vi 1, vi 1, un]) hml.symm (argsL := [(.int p2), (.int p3), (.int p4), (.int p5)]) (rest := []) (lenOf pd_24 rfl) (B at_114) (W := 0)
    obtain ⟨rfl, Nq14, K14, o14_0, o14_1, o14_2, o14_3, o14_4, o14_5, o14_6, o14_7, o14_8, o14_9, o14_10, o14_11, o14_12, o14_13, o14_14, o14_15, o14_16⟩ := hQ14
    have N14 := Fr.app N13 Nq14
    have s5 := K14.1
    have z6 := Nat.le_trans Z0 (Nat.le_trans (Nat.le_trans (Nat.le_trans (Nat.le_trans (Nat.le_trans s0 s1) s2) s3) s4) s5)
    obtain ⟨_, T15, L15, X15, hQ15, st15⟩ := own_virtual X14 hx hZ hH hown (y := y_9) (z := y_9) o14_8 (w_83 hw) (w_84 hw) (own_nf hZ (w_86 hw)) (w_86 hw) (w_85 hw) (w_3 hw) (w_87 hw) (rm41 l Z hw b10 T14.heap n0 z6 o14_14) rfl (Ls := #[vi p1, vi p2, vi p3, vi p4, vi p5, vi p6, vr b1, vr b10, vi 1, vi 1, vi 1, un]) hml.symm (argsL := []) (rest := []) (lenOf pd_2 rfl) (B at_151) (W := 0)
    obtain ⟨rfl, Nq15, e15⟩ := hQ15
    have N15 := Fr.app N14 Nq15
    refine ⟨T15, _, _, _, (some (.int 1)), X15, nofun, by decide, by decide, ?_, fun fs hr => ?_⟩
    · show Q0 n0 _ T15.heap _
      rw [e15]
      exact ⟨rfl, N15⟩
    · refine sC X0 hx (B at_0) ?_
      refine st1 _ ?_
      refine XS.dup X1.here hx rfl (B at_3) rfl rfl ?_
      refine sC X1 hx (B at_4) ?_
      refine st2 _ ?_
      refine st5 _ ?_
      refine XS.dup X5.here hx rfl (B at_18) rfl rfl ?_
      refine sC X5 hx (B at_19) ?_
      refine st6 _ ?_
      refine st9 _ ?_
      refine XS.astore X9.here hx rfl (B at_33) rfl rfl (l' := #[vi p1, vi p2, vi p3, vi p4, vi p5, vi p6, vr b1, un, un, un, un, un]) rfl ?_
      refine st10 _ ?_
      refine XS.dup X10.here hx rfl (B at_38) rfl rfl ?_
      refine sB X10 hx (B at_39) rfl rfl ?_
      refine st11 _ ?_
      refine XS.astore X11.here hx rfl (B at_44) rfl rfl (l' := #[vi p1, vi p2, vi p3, vi p4, vi p5, vi p6, vr b1, vr b10, un, un, un, un]) rfl ?_
      refine sB X11 hx (B at_46) rfl rfl ?_
      refine st12 _ ?_
      refine XS.istore X12.here hx rfl (B at_51) rfl (l' := #[vi p1, vi p2, vi p3, vi p4, vi p5, vi p6, vr b1, vr b10, vi 1, un, un, un]) rfl ?_
      refine sJ X12 hx (B at_53) rfl ?_
      refine sC X12 hx (B at_55) ?_
      refine XS.iand X12.here hx rfl (B at_56) rfl ?_
      refine XS.ifYes X12.here hx rfl (pc0 := 57) (pc' := 89) rfl (B at_57) rfl ((if0 _ _).trans (teq cc1).1) (by decide) (by decide) ?_
      refine sB X12 hx (B at_89) rfl rfl ?_
      refine st13 _ ?_
      refine XS.istore X13.here hx rfl (B at_94) rfl (l' := #[vi p1, vi p2, vi p3, vi p4, vi p5, vi p6, vr b1, vr b10, vi 1, vi 1, un, un]) rfl ?_
      refine sI X13 hx (B at_96) rfl ?_
      refine sC X13 hx (B at_97) ?_
      refine XS.iand X13.here hx rfl (B at_98) rfl ?_
      show Steps p.tables e below (T13.setTop (mkF m 99 #[vi p1, vi p2, vi p3, vi p4, vi p5, vi p6, vr b1, vr b10, vi 1, vi 1, un, un] [(.int (p1 &&& (3 : Int32)))])) _
      rw [hk]
      refine XS.istore X13.here hx rfl (B at_99) rfl (l' := #[vi p1, vi p2, vi p3, vi p4, vi p5, vi p6, vr b1, vr b10, vi 1, vi 1, vi 1, un]) rfl ?_
      refine sJ X13 hx (B at_101) rfl ?_
      refine sC X13 hx (B at_103) ?_
      refine XS.icmpNo X13.here hx rfl (B at_104) rfl (flt (by decide : ¬ ((1 : Int32) < (1 : Int32)))).1 ?_
      refine sB X13 hx (B at_107) rfl rfl ?_
      refine sI X13 hx (B at_109) rfl ?_
      refine sI X13 hx (B at_110) rfl ?_
      refine sI X13 hx (B at_111) rfl ?_
      refine sJ X13 hx (B at_112) rfl ?_
      refine st14 _ ?_
      refine sJ X14 hx (B at_117) rfl ?_
      refine sC X14 hx (B at_119) ?_
      refine XS.icmpYes X14.here hx rfl (pc0 := 120) (pc' := 133) rfl (B at_120) rfl (tlt (by decide : (1 : Int32) < (2 : Int32))).1 (by decide) (by decide) ?_
      refine sJ X14 hx (B at_133) rfl ?_
      refine sC X14 hx (B at_135) ?_
      refine XS.icmpYes X14.here hx rfl (pc0 := 136) (pc' := 149) rfl (B at_136) rfl (tlt (by decide : (1 : Int32) < (3 : Int32))).1 (by decide) (by decide) ?_
      refine sB X14 hx (B at_149) rfl rfl ?_
      refine st15 _ ?_
      refine XS.istore X15.here hx rfl (B at_154) rfl (l' := #[vi p1, vi p2, vi p3, vi p4, vi p5, vi p6, vr b1, vr b10, vi 1, vi 1, vi 1, vi 0]) rfl ?_
      refine sJ X15 hx (B at_156) rfl ?_
      refine XS.ifNo X15.here hx rfl (B at_158) rfl ((if0 _ _).trans (feq (by decide : ¬ ((1 : Int32) = (0 : Int32)))).1) ?_
      refine sJ X15 hx (B at_161) rfl ?_
      refine XS.ifNo X15.here hx rfl (B at_163) rfl ((if0 _ _).trans (feq (by decide : ¬ ((1 : Int32) = (0 : Int32)))).1) ?_
      refine sJ X15 hx (B at_166) rfl ?_
      refine sJ X15 hx (B at_168) rfl ?_
      refine XS.ifYes X15.here hx rfl (pc0 := 170) (pc' := 177) rfl (B at_170) rfl ((if0 _ _).trans (feq (by decide : ¬ ((1 : Int32) = (0 : Int32)))).2) (by decide) (by decide) ?_
      refine sC X15 hx (B at_177) ?_
      refine XS.icmpNo X15.here hx rfl (B at_178) rfl (teq (by decide : (0 : Int32) = (0 : Int32))).2 ?_
      refine sC X15 hx (B at_181) ?_
      refine XS.goto X15.here hx rfl (pc0 := 182) (pc' := 186) rfl (B at_182) (by decide) (by decide) ?_
      exact retN X15 hx (t := .boolean) hret (by simp) (B at_186) hr
  · obtain ⟨T13, h13, k13, X13, e13, E13, A13, B13, st13⟩ := newPE (aty := .char) X12 hx hZ (w_88 hw) e12 (g := (mkF m 61 #[vi p1, vi p2, vi p3, vi p4, vi p5, vi p6, vr b1, vr b10, vi 1, un, un, un] [(.int 1)])) rfl (B at_61) rfl (by decide) (cap := 1) (by decide) (by decide) (by decide) (by decide) (ad := "[C") (by decide)
    obtain ⟨b13, g13⟩ : ∃ z, z = T11.heap.size := ⟨_, rfl⟩
    rw [← g13] at A13 B13 st13
    have s5 := E13.1
    have Vn13 : Arv Z h13 b13 k13 .char 1 [(.int 0)] (.int 0) := (Arv.new A13 (by decide)).pad (pad_rep [] (.int 0) 1)
    obtain ⟨cl14, Ar14, q14, S14, M14, Hs14, G14⟩ := id Vn13
    have hin15 := inb_of (j := 0) S14 ⟨by decide, by decide⟩
    obtain ⟨T16, h16, X16, e16, W16, st16⟩ := stC X13 hx hZ e13 Ar14 (j := 0) hin15 (g := (mkF m 71 #[vi p1, vi p2, vi p3, vi p4, vi p5, vi p6, vr b1, vr b10, vi 1, un, un, un] [(.int ((p2 &&& (255 : Int32)).toUInt32.toUInt16.toUInt32.toInt32)), (.int 0), (.ref b13), (.ref b13)])) rfl rfl (B at_71)
    have s6 := (Keep.of_wr W16).1
    have g_b13 : n0 ≤ b13 := Nat.le_trans z5 (Nat.le_of_eq g13.symm)
    have N16 := Fr.snoc X16 N12 g_b13
    have Vs16 : Arv Z h16 b13 k13 .char 1 [(.int (nar .char ((p2 &&& (255 : Int32)).toUInt32.toUInt16.toUInt32.toInt32)))] (.int 0) := Arv.set Ar14 q14 S14 M14 Hs14 G14 (fits_nar_char _) W16 0 rfl (nl rfl)
    obtain ⟨T17, h17, X17, e17, E17, A17, D17, -, st17⟩ := newO X16 hx hZ hown (w_89 hw) (w_90 hw) (w_91 hw) e16 (g := (mkF m 76 #[vi p1, vi p2, vi p3, vi p4, vi p5, vi p6, vr b1, vr b10, vi 1, vr b13, un, un] [(.ref b10)])) rfl (B at_76) (by decide) (by decide)
    obtain ⟨b17, g17⟩ : ∃ z, z = h16.size := ⟨_, rfl⟩
    rw [← g17] at A17 D17 st17
    have s7 := E17.1
    have Fn17_coder : Fld Z h17 b17 jS "coder" "B" (.int 0) := D17 (Or.inr (w_113 hw)) (ty := .byte) (by decide)
    have Fn17_value : Fld Z h17 b17 jS "value" "[B" .null := D17 (Or.inr (w_115 hw)) (ty := (.array .byte)) (by decide)
    have Fn17_hash : Fld Z h17 b17 jS "hash" "I" (.int 0) := D17 (Or.inl (w_149 hw)) (ty := .int) (by decide)
    have Fn17_hashIsZero : Fld Z h17 b17 jS "hashIsZero" "Z" (.int 0) := D17 (Or.inl (w_151 hw)) (ty := .boolean) (by decide)
    have Va18 := (Vs16.ext E17)
    have Od5 := Od4.keep K11 (allS g_b10 all0)
    have Od6 := Od5.ext E13
    have Od7 := Od6.wr W16 g_b13
    have Od8 := Od7.ext E17
    have cd19 : ¬ (255 < (nar .char ((p2 &&& (255 : Int32)).toUInt32.toUInt16.toUInt32.toInt32))) := (by rw [Int32.lt_iff_toInt_lt]; have : ((255 : Int32)).toInt = 255 := (by decide); have := rng32 (nar .char ((p2 &&& (255 : Int32)).toUInt32.toUInt16.toUInt32.toInt32)); have := rng32 ((p2 &&& (255 : Int32)).toUInt32.toUInt16.toUInt32.toInt32); have := rng32 (p2 &&& (255 : Int32)); have := rng32 p2; have := own_mask p2 (255 : Int32) 8 (by decide) (by decide) 256 (by decide); have := c_i2c (p2 &&& (255 : Int32)); have := own_c_nar_char ((p2 &&& (255 : Int32)).toUInt32.toUInt16.toUInt32.toInt32); omega)
    have z7 := Nat.le_trans Z0 (Nat.le_trans (Nat.le_trans (Nat.le_trans (Nat.le_trans (Nat.le_trans (Nat.le_trans s0 s1) s2) s3) s4) s5) s6)
    have g_b17 : n0 ≤ b17 := Nat.le_trans z7 (Nat.le_of_eq g17.symm)
    have z8 := Nat.le_trans Z0 (Nat.le_trans (Nat.le_trans (Nat.le_trans (Nat.le_trans (Nat.le_trans (Nat.le_trans (Nat.le_trans s0 s1) s2) s3) s4) s5) s6) s7)
    obtain ⟨_, T20, L20, X20, hQ20, st20⟩ := own_special X17 hx hZ hH hown (y := y_14) (a := b17) (w_92 hw) (w_93 hw) (w_91 hw) (w_94 hw) (rm16 l Z hw b17 b13 (nar .char ((p2 &&& (255 : Int32)).toUInt32.toUInt16.toUInt32.toInt32)) k13 si5 h17 n0 z8 Va18 S15_COMPACT_STRINGS Od8 nc7 cd19 Fn17_coder A17 g_b17 Fn17_value Fn17_hash Fn17_hashIsZero) e17 (Ls := #[vi p1, vi p2, vi p3, vi p4, vi p5, vi p6, vr b1, vr b10, vi 1, vr b13, un, un]) hml.symm (argsL := [(.ref b13)]) (rest := [(.ref b17), (.ref b10)]) (lenOf pd_7 rfl) (B at_82) (W := 2)
    obtain ⟨b20_0, k20_1, rfl, Nq20, K20, o20_0, o20_1, o20_2, o20_3, o20_4, o20_5, o20_6, o20_7⟩ := hQ20
    have N20 := Fr.app N16 Nq20
    have s8 := K20.1
    have Ex21 := ((((o11_0.ext E13).wr W16).ext E17).keep K20)
    have ne_b10_b13 := Nat.ne_of_lt (Nat.lt_of_lt_of_le o11_8.lt (Nat.le_of_eq g13.symm))
    have ne_b10_b17 := Nat.ne_of_lt (Nat.lt_of_lt_of_le (Nat.lt_of_lt_of_le o11_8.lt (Nat.le_trans s5 s6)) (Nat.le_of_eq g17.symm))
    have Fl22 := ((((o11_8.ext E13).other W16 (Or.inl ne_b10_b13)).ext E17).keep K20 (ninS ne_b10_b17 nin0))
    have Ex23 := ((((o11_22.ext E13).wr W16).ext E17).keep K20)
    have ne_b11_8_b13 := Nat.ne_of_lt (Nat.lt_of_lt_of_le o11_25.lt (Nat.le_of_eq g13.symm))
    have ne_b11_8_b17 := Nat.ne_of_lt (Nat.lt_of_lt_of_le (Nat.lt_of_lt_of_le o11_25.lt (Nat.le_trans s5 s6)) (Nat.le_of_eq g17.symm))
    have Fl24 := ((((o11_24.ext E13).other W16 (Or.inl ne_b11_8_b13)).ext E17).keep K20 (ninS ne_b11_8_b17 nin0))
    have Ex25 := ((((o11_27.ext E13).wr W16).ext E17).keep K20)
    have Od9 := Od8.keep K20 (allS g_b17 all0)
    have ne_b11_9_b13 := Nat.ne_of_lt (Nat.lt_of_lt_of_le o11_32.lt (Nat.le_of_eq g13.symm))
    have ne_b11_9_b17 := Nat.ne_of_lt (Nat.lt_of_lt_of_le (Nat.lt_of_lt_of_le o11_32.lt (Nat.le_trans s5 s6)) (Nat.le_of_eq g17.symm))
    have Fl26 := ((((o11_30.ext E13).other W16 (Or.inl ne_b11_9_b13)).ext E17).keep K20 (ninS ne_b11_9_b17 nin0))
    have Fl27 := ((((o11_32.ext E13).other W16 (Or.inl ne_b11_9_b13)).ext E17).keep K20 (ninS ne_b11_9_b17 nin0))
    have Fl28 := ((((o11_31.ext E13).other W16 (Or.inl ne_b11_9_b13)).ext E17).keep K20 (ninS ne_b11_9_b17 nin0))
    have g_b11_9 : n0 ≤ b11_9 := Nat.le_trans z4 o11_26
    have Fl29 := ((((o11_28.ext E13).other W16 (Or.inl ne_b11_9_b13)).ext E17).keep K20 (ninS ne_b11_9_b17 nin0))
    have Fl30 := ((((o11_29.ext E13).other W16 (Or.inl ne_b11_9_b13)).ext E17).keep K20 (ninS ne_b11_9_b17 nin0))
    have Fl31 := ((((o11_25.ext E13).other W16 (Or.inl ne_b11_8_b13)).ext E17).keep K20 (ninS ne_b11_8_b17 nin0))
    have Ex32 := ((((o11_34.ext E13).wr W16).ext E17).keep K20)
    have ne_b11_10_b13 := Nat.ne_of_lt (Nat.lt_of_lt_of_le o11_37.lt (Nat.le_of_eq g13.symm))
    have ne_b11_10_b17 := Nat.ne_of_lt (Nat.lt_of_lt_of_le (Nat.lt_of_lt_of_le o11_37.lt (Nat.le_trans s5 s6)) (Nat.le_of_eq g17.symm))
    have Fl33 := ((((o11_35.ext E13).other W16 (Or.inl ne_b11_10_b13)).ext E17).keep K20 (ninS ne_b11_10_b17 nin0))
    have g_b11_10 : n0 ≤ b11_10 := Nat.le_trans z4 o11_33
    have Fl34 := ((((o11_36.ext E13).other W16 (Or.inl ne_b11_10_b13)).ext E17).keep K20 (ninS ne_b11_10_b17 nin0))
    have Fl35 := ((((o11_37.ext E13).other W16 (Or.inl ne_b11_10_b13)).ext E17).keep K20 (ninS ne_b11_10_b17 nin0))
    have ne_sa2_b1 := Nat.ne_of_lt (Nat.lt_of_lt_of_le V_sa2.lt (Nat.le_of_eq g1.symm))
    have ne_sa2_b10 := Nat.ne_of_lt (Nat.lt_of_lt_of_le (Nat.lt_of_lt_of_le V_sa2.lt (Nat.le_trans (Nat.le_trans s0 s1) s2)) (Nat.le_of_eq g10.symm))
    have ne_sa2_b13 := Nat.ne_of_lt (Nat.lt_of_lt_of_le (Nat.lt_of_lt_of_le V_sa2.lt (Nat.le_trans (Nat.le_trans (Nat.le_trans (Nat.le_trans s0 s1) s2) s3) s4)) (Nat.le_of_eq g13.symm))
    have ne_sa2_b17 := Nat.ne_of_lt (Nat.lt_of_lt_of_le (Nat.lt_of_lt_of_le V_sa2.lt (Nat.le_trans (Nat.le_trans (Nat.le_trans (Nat.le_trans (Nat.le_trans (Nat.le_trans s0 s1) s2) s3) s4) s5) s6)) (Nat.le_of_eq g17.symm))
    have Va36 := (((((((((V_sa2.ext E1).other W5 ne_sa2_b1).other W9 ne_sa2_b1).ext E10).keep K11 (ninS ne_sa2_b10 nin0)).ext E13).other W16 ne_sa2_b13).ext E17).keep K20 (ninS ne_sa2_b17 nin0))
    have ne_sa2_b11_9 := Nat.ne_of_lt (Nat.lt_of_lt_of_le (Nat.lt_of_lt_of_le V_sa2.lt (Nat.le_trans (Nat.le_trans (Nat.le_trans s0 s1) s2) s3)) o11_26)
    have ne_sa2_b11_10 := Nat.ne_of_lt (Nat.lt_of_lt_of_le (Nat.lt_of_lt_of_le V_sa2.lt (Nat.le_trans (Nat.le_trans (Nat.le_trans s0 s1) s2) s3)) o11_33)
    have Fl37 := ((((o11_23.ext E13).other W16 (Or.inl ne_b11_8_b13)).ext E17).keep K20 (ninS ne_b11_8_b17 nin0))
    have ne_b17_b20_0 := Nat.ne_of_lt (Nat.lt_of_lt_of_le Fn17_value.lt o20_5)
    have ne_b11_9_b20_0 := Nat.ne_of_lt (Nat.lt_of_lt_of_le (Nat.lt_of_lt_of_le o11_32.lt (Nat.le_trans (Nat.le_trans s5 s6) s7)) o20_5)
    have ne_b11_10_b20_0 := Nat.ne_of_lt (Nat.lt_of_lt_of_le (Nat.lt_of_lt_of_le o11_37.lt (Nat.le_trans (Nat.le_trans s5 s6) s7)) o20_5)
    have g_b11_8 : n0 ≤ b11_8 := Nat.le_trans z4 o11_21
    have ne_sa3_b1 := Nat.ne_of_lt (Nat.lt_of_lt_of_le V_sa3.lt (Nat.le_of_eq g1.symm))
    have ne_sa3_b10 := Nat.ne_of_lt (Nat.lt_of_lt_of_le (Nat.lt_of_lt_of_le V_sa3.lt (Nat.le_trans (Nat.le_trans s0 s1) s2)) (Nat.le_of_eq g10.symm))
    have ne_sa3_b13 := Nat.ne_of_lt (Nat.lt_of_lt_of_le (Nat.lt_of_lt_of_le V_sa3.lt (Nat.le_trans (Nat.le_trans (Nat.le_trans (Nat.le_trans s0 s1) s2) s3) s4)) (Nat.le_of_eq g13.symm))
    have ne_sa3_b17 := Nat.ne_of_lt (Nat.lt_of_lt_of_le (Nat.lt_of_lt_of_le V_sa3.lt (Nat.le_trans (Nat.le_trans (Nat.le_trans (Nat.le_trans (Nat.le_trans (Nat.le_trans s0 s1) s2) s3) s4) s5) s6)) (Nat.le_of_eq g17.symm))
    have Va38 := (((((((((V_sa3.ext E1).other W5 ne_sa3_b1).other W9 ne_sa3_b1).ext E10).keep K11 (ninS ne_sa3_b10 nin0)).ext E13).other W16 ne_sa3_b13).ext E17).keep K20 (ninS ne_sa3_b17 nin0))
    have ne_sa3_b11_9 := Nat.ne_of_lt (Nat.lt_of_lt_of_le (Nat.lt_of_lt_of_le V_sa3.lt (Nat.le_trans (Nat.le_trans (Nat.le_trans s0 s1) s2) s3)) o11_26)
    have ne_sa3_b11_10 := Nat.ne_of_lt (Nat.lt_of_lt_of_le (Nat.lt_of_lt_of_le V_sa3.lt (Nat.le_trans (Nat.le_trans (Nat.le_trans s0 s1) s2) s3)) o11_33)
    have ne_sa3_b11_8 := Nat.ne_of_lt (Nat.lt_of_lt_of_le (Nat.lt_of_lt_of_le V_sa3.lt (Nat.le_trans (Nat.le_trans (Nat.le_trans s0 s1) s2) s3)) o11_21)
    have Ex39 := (((((((((E_sbi.ext E1).wr W5).wr W9).ext E10).keep K11).ext E13).wr W16).ext E17).keep K20)
    have ne_sbi_b1 := Nat.ne_of_lt (Nat.lt_of_lt_of_le F_sbi.lt (Nat.le_of_eq g1.symm))
    have ne_sbi_b10 := Nat.ne_of_lt (Nat.lt_of_lt_of_le (Nat.lt_of_lt_of_le F_sbi.lt (Nat.le_trans (Nat.le_trans s0 s1) s2)) (Nat.le_of_eq g10.symm))
    have ne_sbi_b13 := Nat.ne_of_lt (Nat.lt_of_lt_of_le (Nat.lt_of_lt_of_le F_sbi.lt (Nat.le_trans (Nat.le_trans (Nat.le_trans (Nat.le_trans s0 s1) s2) s3) s4)) (Nat.le_of_eq g13.symm))
    have ne_sbi_b17 := Nat.ne_of_lt (Nat.lt_of_lt_of_le (Nat.lt_of_lt_of_le F_sbi.lt (Nat.le_trans (Nat.le_trans (Nat.le_trans (Nat.le_trans (Nat.le_trans (Nat.le_trans s0 s1) s2) s3) s4) s5) s6)) (Nat.le_of_eq g17.symm))
    have Fl40 := (((((((((F_sbi.ext E1).other W5 (Or.inl ne_sbi_b1)).other W9 (Or.inl ne_sbi_b1)).ext E10).keep K11 (ninS ne_sbi_b10 nin0)).ext E13).other W16 (Or.inl ne_sbi_b13)).ext E17).keep K20 (ninS ne_sbi_b17 nin0))
    have ne_sbi_b11_9 := Nat.ne_of_lt (Nat.lt_of_lt_of_le (Nat.lt_of_lt_of_le F_sbi.lt (Nat.le_trans (Nat.le_trans (Nat.le_trans s0 s1) s2) s3)) o11_26)
    have ne_sbi_b11_10 := Nat.ne_of_lt (Nat.lt_of_lt_of_le (Nat.lt_of_lt_of_le F_sbi.lt (Nat.le_trans (Nat.le_trans (Nat.le_trans s0 s1) s2) s3)) o11_33)
    have ne_sbi_b11_8 := Nat.ne_of_lt (Nat.lt_of_lt_of_le (Nat.lt_of_lt_of_le F_sbi.lt (Nat.le_trans (Nat.le_trans (Nat.le_trans s0 s1) s2) s3)) o11_21)
    have z9 := Nat.le_trans Z0 (Nat.le_trans (Nat.le_trans (Nat.le_trans (Nat.le_trans (Nat.le_trans (Nat.le_trans (Nat.le_trans (Nat.le_trans s0 s1) s2) s3) s4) s5) s6) s7) s8)
    obtain ⟨_, T41, L41, X41, hQ41, st41⟩ := own_virtual X20 hx hZ hH hown (y := y_42) (z := y_42) Ex21 (w_116 hw) (w_117 hw) (own_nf hZ (w_119 hw)) (w_119 hw) (w_118 hw) (w_3 hw) (w_120 hw) (rm39 l Z hw b10 b17 b11_8 b11_9 sck si5 b20_0 (nar .byte ((nar .char ((p2 &&& (255 : Int32)).toUInt32.toUInt16.toUInt32.toInt32)).toInt8.toInt32)) k20_1 b11_10 sa2 sk11 sa3 suc skc sbi T20.heap n0 z9 Fl22 Ex23 Fl24 Site Ex25 o20_0 o20_2 o20_3 S15_COMPACT_STRINGS Od9 nc7 o20_1 o20_4 o20_7 g_b17 Fl26 ne_b11_9_b17 Fl27 Fl28 g_b11_9 Fl29 Fl30 Fl31 ne_b11_8_b17 o11_56 Ex32 Fl33 ne_b11_10_b17 (Ne.symm o11_58) g_b11_10 Fl34 Fl35 Va36 ne_sa2_b17 ne_sa2_b11_9 ne_sa2_b11_10 S10_DEFAULTCAPACITY_EMPTY_ELEMENTDATA Fl37 o11_57 (Ne.symm ne_b17_b20_0) (Ne.symm ne_b11_9_b20_0) (Ne.symm ne_b11_10_b20_0) g_b11_8 S16_high S12_cache Va38 ne_sa3_b17 ne_sa3_b11_9 ne_sa3_b11_10 ne_sa3_b11_8 rd_c Ex39 Fl40 ne_sbi_b17 ne_sbi_b11_9 ne_sbi_b11_10 ne_sbi_b11_8) rfl (Ls := #[vi p1, vi p2, vi p3, vi p4, vi p5, vi p6, vr b1, vr b10, vi 1, vr b13, un, un]) hml.symm (argsL := [(.ref b17)]) (rest := []) (lenOf pd_23 rfl) (B at_85) (W := 0)
    obtain ⟨b41_0, k41_1, u41_2, b41_3, k41_4, rfl, Nq41, K41, o41_0, o41_1, o41_2, o41_3, o41_4, o41_5, o41_6, o41_7, o41_8, o41_9, o41_10, o41_11, o41_12, o41_13, o41_14, o41_15, o41_16, o41_17, o41_18, o41_19, o41_20, o41_21, o41_22, o41_23, o41_24, o41_25, o41_26, o41_27⟩ := hQ41
    have N41 := Fr.app N20 Nq41
    have s9 := K41.1
    obtain ⟨x42, ex42⟩ : ∃ z, z = (if ((nar .byte ((nar .char ((p2 &&& (255 : Int32)).toUInt32.toUInt16.toUInt32.toInt32)).toInt8.toInt32)) &&& (255 : Int32)) = 0 then (0 : Int32) else ((nar .byte ((nar .char ((p2 &&& (255 : Int32)).toUInt32.toUInt16.toUInt32.toInt32)).toInt8.toInt32)) &&& (255 : Int32))) := ⟨_, rfl⟩
    have o41_2' : Fld Z T41.heap b17 jS "hash" "I" (.int x42) := by rw [ex42]; exact o41_2
    obtain ⟨x43, ex43⟩ : ∃ z, z = (if ((nar .byte ((nar .char ((p2 &&& (255 : Int32)).toUInt32.toUInt16.toUInt32.toInt32)).toInt8.toInt32)) &&& (255 : Int32)) = 0 then (1 : Int32) else (0 : Int32)) := ⟨_, rfl⟩
    have o41_3' : Fld Z T41.heap b17 jS "hashIsZero" "Z" (.int x43) := by rw [ex43]; exact o41_3
    have Ex44 := (Ex21.keep K41)
    have ne_b10_b11_9 := Nat.ne_of_lt (Nat.lt_of_lt_of_le Fn10_terms.lt o11_26)
    have ne_b10_b11_10 := Nat.ne_of_lt (Nat.lt_of_lt_of_le Fn10_terms.lt o11_33)
    have ne_b10_b11_8 := Nat.ne_of_lt (Nat.lt_of_lt_of_le Fn10_terms.lt o11_21)
    have Fl45 := (((((o11_6.ext E13).other W16 (Or.inl ne_b10_b13)).ext E17).keep K20 (ninS ne_b10_b17 nin0)).keep K41 (ninS ne_b10_b17 (ninS ne_b10_b11_9 (ninS ne_b10_b11_10 (ninS ne_b10_b11_8 nin0)))))
    have z10 := Nat.le_trans Z0 (Nat.le_trans (Nat.le_trans (Nat.le_trans (Nat.le_trans (Nat.le_trans (Nat.le_trans (Nat.le_trans (Nat.le_trans (Nat.le_trans s0 s1) s2) s3) s4) s5) s6) s7) s8) s9)
    obtain ⟨_, T46, L46, X46, hQ46, st46⟩ := own_virtual X41 hx hZ hH hown (y := y_9) (z := y_9) Ex44 (w_83 hw) (w_84 hw) (own_nf hZ (w_86 hw)) (w_86 hw) (w_85 hw) (w_3 hw) (w_87 hw) (rm11 l Z hw b10 T41.heap n0 z10 Fl45) rfl (Ls := #[vi p1, vi p2, vi p3, vi p4, vi p5, vi p6, vr b1, vr b10, vi 1, vr b13, un, un]) hml.symm (argsL := []) (rest := []) (lenOf pd_2 rfl) (B at_91) (W := 0)
    obtain ⟨rfl, Nq46, e46⟩ := hQ46
    have N46 := Fr.app N41 Nq46
    have Fl47 := (((((o11_7.ext E13).other W16 (Or.inl ne_b10_b13)).ext E17).keep K20 (ninS ne_b10_b17 nin0)).keep K41 (ninS ne_b10_b17 (ninS ne_b10_b11_9 (ninS ne_b10_b11_10 (ninS ne_b10_b11_8 nin0)))))
    have ne_b11_6_b13 := Nat.ne_of_lt (Nat.lt_of_lt_of_le o11_20.lt (Nat.le_of_eq g13.symm))
    have ne_b11_6_b17 := Nat.ne_of_lt (Nat.lt_of_lt_of_le (Nat.lt_of_lt_of_le o11_20.lt (Nat.le_trans s5 s6)) (Nat.le_of_eq g17.symm))
    have Va48 := (((((o11_20.ext E13).other W16 ne_b11_6_b13).ext E17).keep K20 (ninS ne_b11_6_b17 nin0)).keep K41 (ninS ne_b11_6_b17 (ninS o11_54 (ninS o11_55 (ninS o11_53 nin0)))))
    have g_b11_6 : n0 ≤ b11_6 := Nat.le_trans z4 o11_18
    have Fl49 := (((((o11_3.ext E13).other W16 (Or.inl ne_b10_b13)).ext E17).keep K20 (ninS ne_b10_b17 nin0)).keep K41 (ninS ne_b10_b17 (ninS ne_b10_b11_9 (ninS ne_b10_b11_10 (ninS ne_b10_b11_8 nin0)))))
    have ne_b10_b11_6 := Nat.ne_of_lt (Nat.lt_of_lt_of_le Fn10_terms.lt o11_18)
    have ne_b11_2_b13 := Nat.ne_of_lt (Nat.lt_of_lt_of_le o11_14.lt (Nat.le_of_eq g13.symm))
    have ne_b11_2_b17 := Nat.ne_of_lt (Nat.lt_of_lt_of_le (Nat.lt_of_lt_of_le o11_14.lt (Nat.le_trans s5 s6)) (Nat.le_of_eq g17.symm))
    have Va50 := (((((o11_14.ext E13).other W16 ne_b11_2_b13).ext E17).keep K20 (ninS ne_b11_2_b17 nin0)).keep K41 (ninS ne_b11_2_b17 (ninS o11_47 (ninS o11_48 (ninS o11_46 nin0)))))
    have g_b11_2 : n0 ≤ b11_2 := Nat.le_trans z4 o11_12
    have Fl51 := (((((o11_4.ext E13).other W16 (Or.inl ne_b10_b13)).ext E17).keep K20 (ninS ne_b10_b17 nin0)).keep K41 (ninS ne_b10_b17 (ninS ne_b10_b11_9 (ninS ne_b10_b11_10 (ninS ne_b10_b11_8 nin0)))))
    have ne_b10_b11_2 := Nat.ne_of_lt (Nat.lt_of_lt_of_le Fn10_terms.lt o11_12)
    have ne_b11_4_b13 := Nat.ne_of_lt (Nat.lt_of_lt_of_le o11_17.lt (Nat.le_of_eq g13.symm))
    have ne_b11_4_b17 := Nat.ne_of_lt (Nat.lt_of_lt_of_le (Nat.lt_of_lt_of_le o11_17.lt (Nat.le_trans s5 s6)) (Nat.le_of_eq g17.symm))
    have Va52 := (((((o11_17.ext E13).other W16 ne_b11_4_b13).ext E17).keep K20 (ninS ne_b11_4_b17 nin0)).keep K41 (ninS ne_b11_4_b17 (ninS o11_51 (ninS o11_52 (ninS o11_50 nin0)))))
    have g_b11_4 : n0 ≤ b11_4 := Nat.le_trans z4 o11_15
    have Fl53 := (((((o11_2.ext E13).other W16 (Or.inl ne_b10_b13)).ext E17).keep K20 (ninS ne_b10_b17 nin0)).keep K41 (ninS ne_b10_b17 (ninS ne_b10_b11_9 (ninS ne_b10_b11_10 (ninS ne_b10_b11_8 nin0)))))
    have ne_b10_b11_4 := Nat.ne_of_lt (Nat.lt_of_lt_of_le Fn10_terms.lt o11_15)
    have ne_b11_0_b13 := Nat.ne_of_lt (Nat.lt_of_lt_of_le o11_11.lt (Nat.le_of_eq g13.symm))
    have ne_b11_0_b17 := Nat.ne_of_lt (Nat.lt_of_lt_of_le (Nat.lt_of_lt_of_le o11_11.lt (Nat.le_trans s5 s6)) (Nat.le_of_eq g17.symm))
    have Va54 := (((((o11_11.ext E13).other W16 ne_b11_0_b13).ext E17).keep K20 (ninS ne_b11_0_b17 nin0)).keep K41 (ninS ne_b11_0_b17 (ninS o11_42 (ninS o11_43 (ninS o11_41 nin0)))))
    have g_b11_0 : n0 ≤ b11_0 := Nat.le_trans z4 o11_9
    have ne_b10_b11_0 := Nat.ne_of_lt (Nat.lt_of_lt_of_le Fn10_terms.lt o11_9)
    have Ex55 := (((((o11_19.ext E13).wr W16).ext E17).keep K20).keep K41)
    have Ex56 := (((((o11_13.ext E13).wr W16).ext E17).keep K20).keep K41)
    have Ex57 := (((((o11_16.ext E13).wr W16).ext E17).keep K20).keep K41)
    have Ex58 := (((((o11_10.ext E13).wr W16).ext E17).keep K20).keep K41)
    have Fl59 := (((((o11_1.ext E13).other W16 (Or.inl ne_b10_b13)).ext E17).keep K20 (ninS ne_b10_b17 nin0)).keep K41 (ninS ne_b10_b17 (ninS ne_b10_b11_9 (ninS ne_b10_b11_10 (ninS ne_b10_b11_8 nin0)))))
    have Fl60 := (((((o11_5.ext E13).other W16 (Or.inl ne_b10_b13)).ext E17).keep K20 (ninS ne_b10_b17 nin0)).keep K41 (ninS ne_b10_b17 (ninS ne_b10_b11_9 (ninS ne_b10_b11_10 (ninS ne_b10_b11_8 nin0)))))
    have Fl61 := (Fl22.keep K41 (ninS ne_b10_b17 (ninS ne_b10_b11_9 (ninS ne_b10_b11_10 (ninS ne_b10_b11_8 nin0)))))
    obtain ⟨_, T62, L62, X62, hQ62, st62⟩ := own_virtual X46 hx hZ hH hown (y := y_43) (z := y_43) Ex44 (w_282 hw) (w_283 hw) (own_nf hZ (w_285 hw)) (w_285 hw) (w_284 hw) (w_3 hw) (w_286 hw) (rm40 l Z hw b10 p2 p3 p4 p5 b11_6 k11_7 b11_2 k11_3 b11_4 k11_5 b11_0 k11_1 b1 b11_8 T41.heap n0 z10 Fl45 Fl47 Va48 g_b11_6 Fl49 ne_b10_b11_6 Va50 o11_45 g_b11_2 Fl51 ne_b10_b11_2 Va52 o11_49 (Ne.symm o11_44) g_b11_4 Fl53 ne_b10_b11_4 Va54 o11_40 o11_38 o11_39 g_b11_0 ne_b10_b11_0 Ex44 g_b10 Ex55 Ex56 Ex57 Ex58 Fl59 Fl60 Fl61) e46 (Ls := #[vi p1, vi p2, vi p3, vi p4, vi p5, vi p6, vr b1, vr b10, vi 1, vi 1, vi 1, un]) hml.symm (argsL := [(.int p2), (.int p3), (.int p4), (.int p5)]) (rest := []) (lenOf pd_24 rfl) (B at_114) (W := 0)
    obtain ⟨rfl, Nq62, K62, o62_0, o62_1, o62_2, o62_3, o62_4, o62_5, o62_6, o62_7, o62_8, o62_9, o62_10, o62_11, o62_12, o62_13, o62_14, o62_15, o62_16⟩ := hQ62
    have N62 := Fr.app N46 Nq62
    have s10 := K62.1
    have z11 := Nat.le_trans Z0 (Nat.le_trans (Nat.le_trans (Nat.le_trans (Nat.le_trans (Nat.le_trans (Nat.le_trans (Nat.le_trans (Nat.le_trans (Nat.le_trans (Nat.le_trans s0 s1) s2) s3) s4) s5) s6) s7) s8) s9) s10)
    obtain ⟨_, T63, L63, X63, hQ63, st63⟩ := own_virtual X62 hx hZ hH hown (y := y_9) (z := y_9) o62_8 (w_83 hw) (w_84 hw) (own_nf hZ (w_86 hw)) (w_86 hw) (w_85 hw) (w_3 hw) (w_87 hw) (rm41 l Z hw b10 T62.heap n0 z11 o62_14) rfl (Ls := #[vi p1, vi p2, vi p3, vi p4, vi p5, vi p6, vr b1, vr b10, vi 1, vi 1, vi 1, un]) hml.symm (argsL := []) (rest := []) (lenOf pd_2 rfl) (B at_151) (W := 0)
    obtain ⟨rfl, Nq63, e63⟩ := hQ63
    have N63 := Fr.app N62 Nq63
    refine ⟨T63, _, _, _, (some (.int 1)), X63, nofun, by decide, by decide, ?_, fun fs hr => ?_⟩
    · show Q0 n0 _ T63.heap _
      rw [e63]
      subst ex43
      subst ex42
      exact ⟨rfl, N63⟩
    · refine sC X0 hx (B at_0) ?_
      refine st1 _ ?_
      refine XS.dup X1.here hx rfl (B at_3) rfl rfl ?_
      refine sC X1 hx (B at_4) ?_
      refine st2 _ ?_
      refine st5 _ ?_
      refine XS.dup X5.here hx rfl (B at_18) rfl rfl ?_
      refine sC X5 hx (B at_19) ?_
      refine st6 _ ?_
      refine st9 _ ?_
      refine XS.astore X9.here hx rfl (B at_33) rfl rfl (l' := #[vi p1, vi p2, vi p3, vi p4, vi p5, vi p6, vr b1, un, un, un, un, un]) rfl ?_
      refine st10 _ ?_
      refine XS.dup X10.here hx rfl (B at_38) rfl rfl ?_
      refine sB X10 hx (B at_39) rfl rfl ?_
      refine st11 _ ?_
      refine XS.astore X11.here hx rfl (B at_44) rfl rfl (l' := #[vi p1, vi p2, vi p3, vi p4, vi p5, vi p6, vr b1, vr b10, un, un, un, un]) rfl ?_
      refine sB X11 hx (B at_46) rfl rfl ?_
      refine st12 _ ?_
      refine XS.istore X12.here hx rfl (B at_51) rfl (l' := #[vi p1, vi p2, vi p3, vi p4, vi p5, vi p6, vr b1, vr b10, vi 1, un, un, un]) rfl ?_
      refine sJ X12 hx (B at_53) rfl ?_
      refine sC X12 hx (B at_55) ?_
      refine XS.iand X12.here hx rfl (B at_56) rfl ?_
      refine XS.ifNo X12.here hx rfl (B at_57) rfl ((if0 _ _).trans (feq cc1).1) ?_
      refine sC X12 hx (B at_60) ?_
      refine st13 _ ?_
      refine XS.dup X13.here hx rfl (B at_63) rfl rfl ?_
      refine sC X13 hx (B at_64) ?_
      refine sI X13 hx (B at_65) rfl ?_
      refine XS.sipush X13.here hx rfl (B at_66) ?_
      refine XS.iand X13.here hx rfl (B at_69) rfl ?_
      refine XS.i2c X13.here hx rfl (B at_70) rfl ?_
      refine st16 _ ?_
      refine XS.astore X16.here hx rfl (B at_72) rfl rfl (l' := #[vi p1, vi p2, vi p3, vi p4, vi p5, vi p6, vr b1, vr b10, vi 1, vr b13, un, un]) rfl ?_
      refine sB X16 hx (B at_74) rfl rfl ?_
      refine st17 _ ?_
      refine XS.dup X17.here hx rfl (B at_79) rfl rfl ?_
      refine sB X17 hx (B at_80) rfl rfl ?_
      refine st20 _ ?_
      refine st41 _ ?_
      refine XS.pop X41.here hx rfl (B at_88) rfl rfl ?_
      refine sB X41 hx (B at_89) rfl rfl ?_
      refine st46 _ ?_
      refine XS.istore X46.here hx rfl (B at_94) rfl (l' := #[vi p1, vi p2, vi p3, vi p4, vi p5, vi p6, vr b1, vr b10, vi 1, vi 1, un, un]) rfl ?_
      refine sI X46 hx (B at_96) rfl ?_
      refine sC X46 hx (B at_97) ?_
      refine XS.iand X46.here hx rfl (B at_98) rfl ?_
      show Steps p.tables e below (T46.setTop (mkF m 99 #[vi p1, vi p2, vi p3, vi p4, vi p5, vi p6, vr b1, vr b10, vi 1, vi 1, un, un] [(.int (p1 &&& (3 : Int32)))])) _
      rw [hk]
      refine XS.istore X46.here hx rfl (B at_99) rfl (l' := #[vi p1, vi p2, vi p3, vi p4, vi p5, vi p6, vr b1, vr b10, vi 1, vi 1, vi 1, un]) rfl ?_
      refine sJ X46 hx (B at_101) rfl ?_
      refine sC X46 hx (B at_103) ?_
      refine XS.icmpNo X46.here hx rfl (B at_104) rfl (flt (by decide : ¬ ((1 : Int32) < (1 : Int32)))).1 ?_
      refine sB X46 hx (B at_107) rfl rfl ?_
      refine sI X46 hx (B at_109) rfl ?_
      refine sI X46 hx (B at_110) rfl ?_
      refine sI X46 hx (B at_111) rfl ?_
      refine sJ X46 hx (B at_112) rfl ?_
      refine st62 _ ?_
      refine sJ X62 hx (B at_117) rfl ?_
      refine sC X62 hx (B at_119) ?_
      refine XS.icmpYes X62.here hx rfl (pc0 := 120) (pc' := 133) rfl (B at_120) rfl (tlt (by decide : (1 : Int32) < (2 : Int32))).1 (by decide) (by decide) ?_
      refine sJ X62 hx (B at_133) rfl ?_
      refine sC X62 hx (B at_135) ?_
      refine XS.icmpYes X62.here hx rfl (pc0 := 136) (pc' := 149) rfl (B at_136) rfl (tlt (by decide : (1 : Int32) < (3 : Int32))).1 (by decide) (by decide) ?_
      refine sB X62 hx (B at_149) rfl rfl ?_
      refine st63 _ ?_
      refine XS.istore X63.here hx rfl (B at_154) rfl (l' := #[vi p1, vi p2, vi p3, vi p4, vi p5, vi p6, vr b1, vr b10, vi 1, vi 1, vi 1, vi 0]) rfl ?_
      refine sJ X63 hx (B at_156) rfl ?_
      refine XS.ifNo X63.here hx rfl (B at_158) rfl ((if0 _ _).trans (feq (by decide : ¬ ((1 : Int32) = (0 : Int32)))).1) ?_
      refine sJ X63 hx (B at_161) rfl ?_
      refine XS.ifNo X63.here hx rfl (B at_163) rfl ((if0 _ _).trans (feq (by decide : ¬ ((1 : Int32) = (0 : Int32)))).1) ?_
      refine sJ X63 hx (B at_166) rfl ?_
      refine sJ X63 hx (B at_168) rfl ?_
      refine XS.ifYes X63.here hx rfl (pc0 := 170) (pc' := 177) rfl (B at_170) rfl ((if0 _ _).trans (feq (by decide : ¬ ((1 : Int32) = (0 : Int32)))).2) (by decide) (by decide) ?_
      refine sC X63 hx (B at_177) ?_
      refine XS.icmpNo X63.here hx rfl (B at_178) rfl (teq (by decide : (0 : Int32) = (0 : Int32))).2 ?_
      refine sC X63 hx (B at_181) ?_
      refine XS.goto X63.here hx rfl (pc0 := 182) (pc' := 186) rfl (B at_182) (by decide) (by decide) ?_
      exact retN X63 hx (t := .boolean) hret (by simp) (B at_186) hr
abbrev Rm42 : Room := rmk 0 0 0 0
def Q42 (Z : State) (a1 : Addr) (i2 i3 i4 i5 : Int32) (a6 : Addr) (ck7 : ClassId) (a8 : Addr) (ck9 : ClassId) (a10 : Addr) (ck11 : ClassId) (a12 : Addr) (ck13 : ClassId) (a14 a15 : Addr) (h0 : Heap) (n0 : Nat) (v : Option Value) (h : Heap) (L : List Loc) : Prop := v = none ∧ Fr n0 L ∧ Keep h0 h [a6, a8, a10, a12, a1] ∧ Exa Z h a6 "[I" ∧ Arv Z h a6 ck7 .int 1024 [(.int i5), (.int i2)] (.int 0) ∧ Exa Z h a8 "[I" ∧ Arv Z h a8 ck9 .int 1024 [(.int i2), (.int i3)] (.int 0) ∧ Exa Z h a10 "[I" ∧ Arv Z h a10 ck11 .int 1024 [(.int i3), (.int i4)] (.int 0) ∧ Exa Z h a12 "[I" ∧ Arv Z h a12 ck13 .int 1024 [(.int i4), (.int i5)] (.int 0) ∧ Exa Z h a1 "com/example/informal_search/informalsearch/index/PostingBuffer" ∧ Fld Z h a1 "com/example/informal_search/informalsearch/index/PostingBuffer" "bytes" "J" (.long 20480) ∧ Fld Z h a1 "com/example/informal_search/informalsearch/index/PostingBuffer" "countOf" "[I" (.ref a12) ∧ Fld Z h a1 "com/example/informal_search/informalsearch/index/PostingBuffer" "entityOf" "[I" (.ref a8) ∧ Fld Z h a1 "com/example/informal_search/informalsearch/index/PostingBuffer" "fieldOf" "[I" (.ref a10) ∧ Fld Z h a1 "com/example/informal_search/informalsearch/index/PostingBuffer" "literal" "[Z" (.ref a14) ∧ Fld Z h a1 "com/example/informal_search/informalsearch/index/PostingBuffer" "size" "I" (.int 2) ∧ Fld Z h a1 "com/example/informal_search/informalsearch/index/PostingBuffer" "termOf" "[I" (.ref a6) ∧ Fld Z h a1 "com/example/informal_search/informalsearch/index/PostingBuffer" "terms" "Lcom/example/informal_search/informalsearch/index/Numbering;" (.ref a15)
theorem rm42 (l : Launch) (Z : State) {a0 : Array Value} (hw : OW a0 Z) (a1 : Addr) (i2 i3 i4 i5 : Int32) (a6 : Addr) (ck7 : ClassId) (a8 : Addr) (ck9 : ClassId) (a10 : Addr) (ck11 : ClassId) (a12 : Addr) (ck13 : ClassId) (a14 a15 : Addr) (h0 : Heap) (n0 : Nat) (Z0 : n0 ≤ h0.size) (F_size_a1 : Fld Z h0 a1 "com/example/informal_search/informalsearch/index/PostingBuffer" "size" "I" (.int 1)) (F_termOf_a1 : Fld Z h0 a1 "com/example/informal_search/informalsearch/index/PostingBuffer" "termOf" "[I" (.ref a6)) (V_a6 : Arv Z h0 a6 ck7 .int 1024 [(.int i5)] (.int 0)) (g_a6 : n0 ≤ a6) (F_entityOf_a1 : Fld Z h0 a1 "com/example/informal_search/informalsearch/index/PostingBuffer" "entityOf" "[I" (.ref a8)) (ne_a1_a6 : a1 ≠ a6) (V_a8 : Arv Z h0 a8 ck9 .int 1024 [(.int i2)] (.int 0)) (ne_a8_a6 : a8 ≠ a6) (g_a8 : n0 ≤ a8) (F_fieldOf_a1 : Fld Z h0 a1 "com/example/informal_search/informalsearch/index/PostingBuffer" "fieldOf" "[I" (.ref a10)) (ne_a1_a8 : a1 ≠ a8) (V_a10 : Arv Z h0 a10 ck11 .int 1024 [(.int i3)] (.int 0)) (ne_a10_a6 : a10 ≠ a6) (ne_a10_a8 : a10 ≠ a8) (g_a10 : n0 ≤ a10) (F_countOf_a1 : Fld Z h0 a1 "com/example/informal_search/informalsearch/index/PostingBuffer" "countOf" "[I" (.ref a12)) (ne_a1_a10 : a1 ≠ a10) (V_a12 : Arv Z h0 a12 ck13 .int 1024 [(.int i4)] (.int 0)) (ne_a12_a6 : a12 ≠ a6) (ne_a12_a8 : a12 ≠ a8) (ne_a12_a10 : a12 ≠ a10) (g_a12 : n0 ≤ a12) (ne_a1_a12 : a1 ≠ a12) (E_a1 : Exa Z h0 a1 "com/example/informal_search/informalsearch/index/PostingBuffer") (g_a1 : n0 ≤ a1) (E_a6 : Exa Z h0 a6 "[I") (E_a8 : Exa Z h0 a8 "[I") (E_a10 : Exa Z h0 a10 "[I") (E_a12 : Exa Z h0 a12 "[I") (F_bytes_a1 : Fld Z h0 a1 "com/example/informal_search/informalsearch/index/PostingBuffer" "bytes" "J" (.long 20480)) (F_literal_a1 : Fld Z h0 a1 "com/example/informal_search/informalsearch/index/PostingBuffer" "literal" "[Z" (.ref a14)) (F_terms_a1 : Fld Z h0 a1 "com/example/informal_search/informalsearch/index/PostingBuffer" "terms" "Lcom/example/informal_search/informalsearch/index/Numbering;" (.ref a15)) :
    OwnMet l Z y_43 prog_42_method_3_code 5 none [] Rm42 #[(.ref a1), (.int i2), (.int i3), (.int i4), (.int i5)] h0 (Q42 Z a1 i2 i3 i4 i5 a6 ck7 a8 ck9 a10 ck11 a12 ck13 a14 a15 h0 n0) := by
  refine own_body (plainFor_of_name pn_6) (ef_d30fdd a1 i2 i3 i4 i5) ?_
  intro p e s m below meth c s₁ hx hby hml hown hnm hret hZ hH hnd X0 e0
  have N0 := Fr.nil n0
  have B := hbx hby
  obtain ⟨T1, X1, e1, st1⟩ := getF X0 hx hZ hown (host := "") (Or.inl (w_78 hw)) Via.refl e0 F_size_a1 (g := (mkF m 1 #[vr a1, vi i2, vi i3, vi i4, vi i5] [(.ref a1)])) rfl rfl (B d39_1)
  obtain ⟨T2, X2, e2, st2⟩ := getF X1 hx hZ hown (host := "") (Or.inl (w_70 hw)) Via.refl e1 F_termOf_a1 (g := (mkF m 5 #[vr a1, vi i2, vi i3, vi i4, vi i5] [(.ref a1), (.int 1)])) rfl rfl (B d39_5)
  obtain ⟨cl3, Ar3, q3, S3, M3, Hs3, G3⟩ := id V_a6
  obtain ⟨T4, X4, e4, st4⟩ := getF X2 hx hZ hown (host := "") (Or.inl (w_70 hw)) Via.refl e2 F_termOf_a1 (g := (mkF m 99 #[vr a1, vi i2, vi i3, vi i4, vi i5] [(.ref a1)])) rfl rfl (B d39_99)
  obtain ⟨T5, X5, e5, st5⟩ := getF X4 hx hZ hown (host := "") (Or.inl (w_78 hw)) Via.refl e4 F_size_a1 (g := (mkF m 103 #[vr a1, vi i2, vi i3, vi i4, vi i5] [(.ref a1), (.ref a6)])) rfl rfl (B d39_103)
  have Vp6 : Arv Z h0 a6 ck7 .int 1024 [(.int i5), (.int 0)] (.int 0) := V_a6.pad (pad_rep [(.int i5)] (.int 0) 1)
  obtain ⟨cl7, Ar7, q7, S7, M7, Hs7, G7⟩ := id Vp6
  have hin8 := inb_of (j := 1) S7 ⟨by decide, by decide⟩
  obtain ⟨T9, h9, X9, e9, W9, st9⟩ := stI X5 hx hZ e5 Ar7 (j := 1) hin8 (g := (mkF m 107 #[vr a1, vi i2, vi i3, vi i4, vi i5] [(.int i2), (.int 1), (.ref a6)])) rfl rfl (B d39_107)
  have s0 := (Keep.of_wr W9).1
  have N9 := Fr.snoc X9 N0 g_a6
  have Vs9 : Arv Z h9 a6 ck7 .int 1024 [(.int i5), (.int i2)] (.int 0) := Arv.set Ar7 q7 S7 M7 Hs7 G7 rfl W9 1 rfl (nl rfl)
  have Fl10 := (F_entityOf_a1.other W9 (Or.inl ne_a1_a6))
  obtain ⟨T11, X11, e11, st11⟩ := getF X9 hx hZ hown (host := "") (Or.inl (w_72 hw)) Via.refl e9 Fl10 (g := (mkF m 109 #[vr a1, vi i2, vi i3, vi i4, vi i5] [(.ref a1)])) rfl rfl (B d39_109)
  have Fl12 := (F_size_a1.other W9 (Or.inl ne_a1_a6))
  obtain ⟨T13, X13, e13, st13⟩ := getF X11 hx hZ hown (host := "") (Or.inl (w_78 hw)) Via.refl e11 Fl12 (g := (mkF m 113 #[vr a1, vi i2, vi i3, vi i4, vi i5] [(.ref a1), (.ref a8)])) rfl rfl (B d39_113)
  have Va14 := (V_a8.other W9 ne_a8_a6)
  have Vp15 : Arv Z h9 a8 ck9 .int 1024 [(.int i2), (.int 0)] (.int 0) := Va14.pad (pad_rep [(.int i2)] (.int 0) 1)
  obtain ⟨cl16, Ar16, q16, S16, M16, Hs16, G16⟩ := id Vp15
  have hin17 := inb_of (j := 1) S16 ⟨by decide, by decide⟩
  obtain ⟨T18, h18, X18, e18, W18, st18⟩ := stI X13 hx hZ e13 Ar16 (j := 1) hin17 (g := (mkF m 117 #[vr a1, vi i2, vi i3, vi i4, vi i5] [(.int i3), (.int 1), (.ref a8)])) rfl rfl (B d39_117)
  have s1 := (Keep.of_wr W18).1
  have N18 := Fr.snoc X18 N9 g_a8
  have Vs18 : Arv Z h18 a8 ck9 .int 1024 [(.int i2), (.int i3)] (.int 0) := Arv.set Ar16 q16 S16 M16 Hs16 G16 rfl W18 1 rfl (nl rfl)
  have Fl19 := ((F_fieldOf_a1.other W9 (Or.inl ne_a1_a6)).other W18 (Or.inl ne_a1_a8))
  obtain ⟨T20, X20, e20, st20⟩ := getF X18 hx hZ hown (host := "") (Or.inl (w_74 hw)) Via.refl e18 Fl19 (g := (mkF m 119 #[vr a1, vi i2, vi i3, vi i4, vi i5] [(.ref a1)])) rfl rfl (B d39_119)
  have Fl21 := (Fl12.other W18 (Or.inl ne_a1_a8))
  obtain ⟨T22, X22, e22, st22⟩ := getF X20 hx hZ hown (host := "") (Or.inl (w_78 hw)) Via.refl e20 Fl21 (g := (mkF m 123 #[vr a1, vi i2, vi i3, vi i4, vi i5] [(.ref a1), (.ref a10)])) rfl rfl (B d39_123)
  have Va23 := ((V_a10.other W9 ne_a10_a6).other W18 ne_a10_a8)
  have Vp24 : Arv Z h18 a10 ck11 .int 1024 [(.int i3), (.int 0)] (.int 0) := Va23.pad (pad_rep [(.int i3)] (.int 0) 1)
  obtain ⟨cl25, Ar25, q25, S25, M25, Hs25, G25⟩ := id Vp24
  have hin26 := inb_of (j := 1) S25 ⟨by decide, by decide⟩
  obtain ⟨T27, h27, X27, e27, W27, st27⟩ := stI X22 hx hZ e22 Ar25 (j := 1) hin26 (g := (mkF m 127 #[vr a1, vi i2, vi i3, vi i4, vi i5] [(.int i4), (.int 1), (.ref a10)])) rfl rfl (B d39_127)
  have s2 := (Keep.of_wr W27).1
  have N27 := Fr.snoc X27 N18 g_a10
  have Vs27 : Arv Z h27 a10 ck11 .int 1024 [(.int i3), (.int i4)] (.int 0) := Arv.set Ar25 q25 S25 M25 Hs25 G25 rfl W27 1 rfl (nl rfl)
  have Fl28 := (((F_countOf_a1.other W9 (Or.inl ne_a1_a6)).other W18 (Or.inl ne_a1_a8)).other W27 (Or.inl ne_a1_a10))
  obtain ⟨T29, X29, e29, st29⟩ := getF X27 hx hZ hown (host := "") (Or.inl (w_76 hw)) Via.refl e27 Fl28 (g := (mkF m 129 #[vr a1, vi i2, vi i3, vi i4, vi i5] [(.ref a1)])) rfl rfl (B d39_129)
  have Fl30 := (Fl21.other W27 (Or.inl ne_a1_a10))
  obtain ⟨T31, X31, e31, st31⟩ := getF X29 hx hZ hown (host := "") (Or.inl (w_78 hw)) Via.refl e29 Fl30 (g := (mkF m 133 #[vr a1, vi i2, vi i3, vi i4, vi i5] [(.ref a1), (.ref a12)])) rfl rfl (B d39_133)
  have Va32 := (((V_a12.other W9 ne_a12_a6).other W18 ne_a12_a8).other W27 ne_a12_a10)
  have Vp33 : Arv Z h27 a12 ck13 .int 1024 [(.int i4), (.int 0)] (.int 0) := Va32.pad (pad_rep [(.int i4)] (.int 0) 1)
  obtain ⟨cl34, Ar34, q34, S34, M34, Hs34, G34⟩ := id Vp33
  have hin35 := inb_of (j := 1) S34 ⟨by decide, by decide⟩
  obtain ⟨T36, h36, X36, e36, W36, st36⟩ := stI X31 hx hZ e31 Ar34 (j := 1) hin35 (g := (mkF m 138 #[vr a1, vi i2, vi i3, vi i4, vi i5] [(.int i5), (.int 1), (.ref a12)])) rfl rfl (B d39_138)
  have s3 := (Keep.of_wr W36).1
  have N36 := Fr.snoc X36 N27 g_a12
  have Vs36 : Arv Z h36 a12 ck13 .int 1024 [(.int i4), (.int i5)] (.int 0) := Arv.set Ar34 q34 S34 M34 Hs34 G34 rfl W36 1 rfl (nl rfl)
  have Fl37 := (Fl30.other W36 (Or.inl ne_a1_a12))
  obtain ⟨T38, X38, e38, st38⟩ := getF X36 hx hZ hown (host := "") (Or.inl (w_78 hw)) Via.refl e36 Fl37 (g := (mkF m 141 #[vr a1, vi i2, vi i3, vi i4, vi i5] [(.ref a1), (.ref a1)])) rfl rfl (B d39_141)
  have Ex39 := ((((E_a1.wr W9).wr W18).wr W27).wr W36)
  obtain ⟨T40, h40, X40, e40, W40, st40⟩ := putF X38 hx hZ hown (host := "") (Or.inl (w_78 hw)) Via.refl e38 Fl37 Ex39 (Or.inl (w_79 hw)) (w_2 hw) (ty := .int) (by decide) rfl rfl (g := (mkF m 146 #[vr a1, vi i2, vi i3, vi i4, vi i5] [(.int 2), (.ref a1)])) rfl rfl (B d39_146)
  have s4 := (Keep.of_wr W40).1
  have N40 := Fr.snoc X40 N36 g_a1
  have Fw40 : Fld Z h40 a1 "com/example/informal_search/informalsearch/index/PostingBuffer" "size" "I" (.int 2) := Fl37.same W40
  have Ex41 := (((((E_a6.wr W9).wr W18).wr W27).wr W36).wr W40)
  have Va42 := ((((Vs9.other W18 (Ne.symm ne_a8_a6)).other W27 (Ne.symm ne_a10_a6)).other W36 (Ne.symm ne_a12_a6)).other W40 (Ne.symm ne_a1_a6))
  have Ex43 := (((((E_a8.wr W9).wr W18).wr W27).wr W36).wr W40)
  have Va44 := (((Vs18.other W27 (Ne.symm ne_a10_a8)).other W36 (Ne.symm ne_a12_a8)).other W40 (Ne.symm ne_a1_a8))
  have Ex45 := (((((E_a10.wr W9).wr W18).wr W27).wr W36).wr W40)
  have Va46 := ((Vs27.other W36 (Ne.symm ne_a12_a10)).other W40 (Ne.symm ne_a1_a10))
  have Ex47 := (((((E_a12.wr W9).wr W18).wr W27).wr W36).wr W40)
  have Va48 := (Vs36.other W40 (Ne.symm ne_a1_a12))
  have Ex49 := (Ex39.wr W40)
  have Fl50 := (((((F_bytes_a1.other W9 (Or.inl ne_a1_a6)).other W18 (Or.inl ne_a1_a8)).other W27 (Or.inl ne_a1_a10)).other W36 (Or.inl ne_a1_a12)).other W40 (Or.inr (slot_ne (Or.inl (w_82 hw)) (Or.inl (w_79 hw)) (by decide) (t := .long) (t' := .int) (by decide) (by decide))))
  have Fl51 := ((Fl28.other W36 (Or.inl ne_a1_a12)).other W40 (Or.inr (slot_ne (Or.inl (w_77 hw)) (Or.inl (w_79 hw)) (by decide) (t := (.array .int)) (t' := .int) (by decide) (by decide))))
  have Fl52 := ((((Fl10.other W18 (Or.inl ne_a1_a8)).other W27 (Or.inl ne_a1_a10)).other W36 (Or.inl ne_a1_a12)).other W40 (Or.inr (slot_ne (Or.inl (w_73 hw)) (Or.inl (w_79 hw)) (by decide) (t := (.array .int)) (t' := .int) (by decide) (by decide))))
  have Fl53 := (((Fl19.other W27 (Or.inl ne_a1_a10)).other W36 (Or.inl ne_a1_a12)).other W40 (Or.inr (slot_ne (Or.inl (w_75 hw)) (Or.inl (w_79 hw)) (by decide) (t := (.array .int)) (t' := .int) (by decide) (by decide))))
  have Fl54 := (((((F_literal_a1.other W9 (Or.inl ne_a1_a6)).other W18 (Or.inl ne_a1_a8)).other W27 (Or.inl ne_a1_a10)).other W36 (Or.inl ne_a1_a12)).other W40 (Or.inr (slot_ne (Or.inr (w_11 hw)) (Or.inl (w_79 hw)) (by decide) (t := (.array .boolean)) (t' := .int) (by decide) (by decide))))
  have Fl55 := (((((F_termOf_a1.other W9 (Or.inl ne_a1_a6)).other W18 (Or.inl ne_a1_a8)).other W27 (Or.inl ne_a1_a10)).other W36 (Or.inl ne_a1_a12)).other W40 (Or.inr (slot_ne (Or.inl (w_71 hw)) (Or.inl (w_79 hw)) (by decide) (t := (.array .int)) (t' := .int) (by decide) (by decide))))
  have Fl56 := (((((F_terms_a1.other W9 (Or.inl ne_a1_a6)).other W18 (Or.inl ne_a1_a8)).other W27 (Or.inl ne_a1_a10)).other W36 (Or.inl ne_a1_a12)).other W40 (Or.inr (slot_ne (Or.inl (w_68 hw)) (Or.inl (w_79 hw)) (by decide) (t := (.object "com/example/informal_search/informalsearch/index/Numbering")) (t' := .int) (by decide) (by decide))))
  have Kp0 := (Keep.refl h0 [a6, a8, a10, a12, a1]).wr W9 own_m0
  have Kp1 := Kp0.wr W18 (Or.inl (List.mem_of_getElem? (i := 1) rfl))
  have Kp2 := Kp1.wr W27 (Or.inl (List.mem_of_getElem? (i := 2) rfl))
  have Kp3 := Kp2.wr W36 (Or.inl (List.mem_of_getElem? (i := 3) rfl))
  have Kp4 := Kp3.wr W40 (Or.inl (List.mem_of_getElem? (i := 4) rfl))
  refine ⟨T40, _, _, _, none, X40, (fun _ => rfl), by decide, by decide, ?_, fun fs hr => ?_⟩
  · rw [e40]
    exact ⟨rfl, N40, Kp4, Ex41, Va42, Ex43, Va44, Ex45, Va46, Ex47, Va48, Ex49, Fl50, Fl51, Fl52, Fl53, Fl54, Fw40, Fl55, Fl56⟩
  · refine sA X0 hx (B d39_0) rfl rfl ?_
    refine st1 _ ?_
    refine sA X1 hx (B d39_4) rfl rfl ?_
    refine st2 _ ?_
    refine X2.arraylength hx (by rw [e2]; exact Ar3.1) (State.isArrayOf_alike hZ.alike Ar3.2.1) (g := (mkF m 8 #[vr a1, vi i2, vi i3, vi i4, vi i5] [(.ref a6), (.int 1)])) rfl rfl (B d39_8) _ ?_
    show Steps p.tables e below (T2.setTop (mkF m 9 #[vr a1, vi i2, vi i3, vi i4, vi i5] [(.int cl3.slots.size.toInt32), (.int 1)])) _
    rw [len_of S3 M3]
    refine XS.icmpYes X2.here hx rfl (pc0 := 9) (pc' := 98) rfl (B d39_9) rfl (feq (by decide : ¬ ((1 : Int32) = (1024 : Int32)))).2 (by decide) (by decide) ?_
    refine sA X2 hx (B d39_98) rfl rfl ?_
    refine st4 _ ?_
    refine sA X4 hx (B d39_102) rfl rfl ?_
    refine st5 _ ?_
    refine sI X5 hx (B d39_106) rfl ?_
    refine st9 _ ?_
    refine sA X9 hx (B d39_108) rfl rfl ?_
    refine st11 _ ?_
    refine sA X11 hx (B d39_112) rfl rfl ?_
    refine st13 _ ?_
    refine sI X13 hx (B d39_116) rfl ?_
    refine st18 _ ?_
    refine sA X18 hx (B d39_118) rfl rfl ?_
    refine st20 _ ?_
    refine sA X20 hx (B d39_122) rfl rfl ?_
    refine st22 _ ?_
    refine sI X22 hx (B d39_126) rfl ?_
    refine st27 _ ?_
    refine sA X27 hx (B d39_128) rfl rfl ?_
    refine st29 _ ?_
    refine sA X29 hx (B d39_132) rfl rfl ?_
    refine st31 _ ?_
    refine sJ X31 hx (B d39_136) rfl ?_
    refine st36 _ ?_
    refine sA X36 hx (B d39_139) rfl rfl ?_
    refine XS.dup X36.here hx rfl (B d39_140) rfl rfl ?_
    refine st38 _ ?_
    refine sC X38 hx (B d39_144) ?_
    refine XS.iadd X38.here hx rfl (B d39_145) rfl ?_
    refine st40 _ ?_
    exact X40.returnOut hx hret (B d39_149) hr
abbrev Rm43 : Room := rmk 0 0 0 0
def Q43 (Z : State) (a1 : Addr) (h0 : Heap) (n0 : Nat) (v : Option Value) (h : Heap) (L : List Loc) : Prop := v = some (.int 0) ∧ Fr n0 L ∧ h = h0
theorem rm43 (l : Launch) (Z : State) {a0 : Array Value} (hw : OW a0 Z) (a1 : Addr) (h0 : Heap) (n0 : Nat) (Z0 : n0 ≤ h0.size) (F_size_a1 : Fld Z h0 a1 "com/example/informal_search/informalsearch/index/PostingBuffer" "size" "I" (.int 2)) :
    OwnMet l Z y_9 prog_42_method_5_code 1 (some .boolean) [] Rm43 #[(.ref a1)] h0 (Q43 Z a1 h0 n0) := by
  refine own_body (plainFor_of_name pn_6) (ef_26f21a a1) ?_
  intro p e s m below meth c s₁ hx hby hml hown hnm hret hZ hH hnd X0 e0
  have N0 := Fr.nil n0
  have B := hbx hby
  obtain ⟨T1, X1, e1, st1⟩ := getF X0 hx hZ hown (host := "") (Or.inl (w_78 hw)) Via.refl e0 F_size_a1 (g := (mkF m 1 #[vr a1] [(.ref a1)])) rfl rfl (B d10_1)
  refine ⟨T1, _, _, _, (some (.int 0)), X1, nofun, by decide, by decide, ?_, fun fs hr => ?_⟩
  · rw [e1]
    exact ⟨rfl, N0, rfl⟩
  · refine sA X0 hx (B d10_0) rfl rfl ?_
    refine st1 _ ?_
    refine XS.ifYes X1.here hx rfl (pc0 := 4) (pc' := 11) rfl (B d10_4) rfl ((if0 _ _).trans (feq (by decide : ¬ ((2 : Int32) = (0 : Int32)))).2) (by decide) (by decide) ?_
    refine sC X1 hx (B d10_11) ?_
    exact retN X1 hx (t := .boolean) hret (by simp) (B d10_12) hr
theorem rm0_2 (l : Launch) (Z : State) {a0 : Array Value} (hw : OW a0 Z) (ws : List Jvm.Cond) (p1 p2 p3 p4 p5 p6 : Int32) (sa1 sa2 sa3 : Addr) (sr4 : Value) (si5 : Int32) (sk9 sk11 skc : ClassId) (suc : List Value) (sbi : Addr) (sck : ClassId) (h0 : Heap) (n0 : Nat) (Z0 : n0 ≤ h0.size) (Od0 : Old Z n0 h0) (R_sr4 : sr4.isRef = true) (nc7 : ¬ (si5 = 0)) (S8_EMPTY_ELEMENTDATA : Sta Z Z.heap "java/util/ArrayList" "EMPTY_ELEMENTDATA" "[Ljava/lang/Object;" (.ref sa1)) (E_sa1 : Exa Z h0 sa1 "[Ljava/lang/Object;") (V_sa1 : Arv Z h0 sa1 sk9 (.object "java/lang/Object") (0 : Int32) [] .null) (S10_DEFAULTCAPACITY_EMPTY_ELEMENTDATA : Sta Z Z.heap "java/util/ArrayList" "DEFAULTCAPACITY_EMPTY_ELEMENTDATA" "[Ljava/lang/Object;" (.ref sa2)) (E_sa2 : Exa Z h0 sa2 "[Ljava/lang/Object;") (V_sa2 : Arv Z h0 sa2 sk11 (.object "java/lang/Object") (0 : Int32) [] .null) (S12_cache : Sta Z Z.heap "java/lang/Integer$IntegerCache" "cache" "[Ljava/lang/Integer;" (.ref sa3)) (E_sa3 : Exa Z h0 sa3 "[Ljava/lang/Integer;") (S14_SIOOBE_FORMATTER : Sta Z Z.heap "jdk/internal/util/Preconditions" "SIOOBE_FORMATTER" "Ljava/util/function/BiFunction;" sr4) (S15_COMPACT_STRINGS : Sta Z Z.heap "java/lang/String" "COMPACT_STRINGS" "Z" (.int si5)) (S16_high : Sta Z Z.heap "java/lang/Integer$IntegerCache" "high" "I" (.int 127)) (V_sa3 : Arv Z h0 sa3 skc (.object "java/lang/Integer") 256 suc .null) (rd_c : suc.getD (128 : Int32).toNatClampNeg .null = .ref sbi) (E_sbi : Exa Z h0 sbi "java/lang/Integer") (F_sbi : Fld Z h0 sbi "java/lang/Integer" "value" "I" (.int 0)) (Site : OwnSite Z sck) (hk : (p1 &&& (3 : Int32)) = (2 : Int32)) :
    OwnMet l Z x code maxLocals ret ws room_1 #[(.int p1), (.int p2), (.int p3), (.int p4), (.int p5), (.int p6)] h0 (Q0 n0) := by
  refine own_body (plainFor_of_name pn_12) (ef0 p1 p2 p3 p4 p5 p6) ?_
  intro p e s m below meth c s₁ hx hby hml hown hnm hret hZ hH hnd X0 e0
  have N0 := Fr.nil n0
  have B := hbx hby
  obtain ⟨T1, h1, k1, X1, e1, E1, A1, B1, st1⟩ := newPE (aty := .boolean) X0 hx hZ (w_0 hw) e0 (g := (mkF m 1 #[vi p1, vi p2, vi p3, vi p4, vi p5, vi p6, un, un, un, un, un, un] [(.int 2)])) rfl (B at_1) rfl (by decide) (cap := 2) (by decide) (by decide) (by decide) (by decide) (ad := "[Z") (by decide)
  obtain ⟨b1, g1⟩ : ∃ z, z = h0.size := ⟨_, rfl⟩
  rw [← g1] at A1 B1 st1
  have s0 := E1.1
  have Vn1 : Arv Z h1 b1 k1 .boolean 2 [(.int 0), (.int 0)] (.int 0) := (Arv.new A1 (by decide)).pad (pad_rep [] (.int 0) 2)
  have z1 := Nat.le_trans Z0 s0
  obtain ⟨T2, L2, X2, e2, N2, st2⟩ := tn1 l Z hw p1 p2 p3 p4 p5 p6 b1 h1 n0 z1 hx hby hml hown hZ X1 e1 N0 (by decide) (by decide)
  obtain ⟨cl3, Ar3, q3, S3, M3, Hs3, G3⟩ := id Vn1
  have hin4 := inb_of (j := 0) S3 ⟨by decide, by decide⟩
  obtain ⟨T5, h5, X5, e5, W5, st5⟩ := stZ X2 hx hZ e2 Ar3 (j := 0) hin4 (g := (mkF m 17 #[vi p1, vi p2, vi p3, vi p4, vi p5, vi p6, un, un, un, un, un, un] [(.int (if (p6 &&& (1 : Int32)) = 0 then (0 : Int32) else (1 : Int32))), (.int 0), (.ref b1), (.ref b1)])) rfl rfl (B at_17)
  have s1 := (Keep.of_wr W5).1
  have g_b1 : n0 ≤ b1 := Nat.le_trans Z0 (Nat.le_of_eq g1.symm)
  have N5 := Fr.snoc X5 N2 g_b1
  have Vs5 : Arv Z h5 b1 k1 .boolean 2 [(.int (nar .boolean (if (p6 &&& (1 : Int32)) = 0 then (0 : Int32) else (1 : Int32)))), (.int 0)] (.int 0) := Arv.set Ar3 q3 S3 M3 Hs3 G3 (fits_nar_bool _) W5 0 rfl (nl rfl)
  have z2 := Nat.le_trans Z0 (Nat.le_trans s0 s1)
  obtain ⟨T6, L6, X6, e6, N6, st6⟩ := tn2 l Z hw p1 p2 p3 p4 p5 p6 b1 h5 n0 z2 hx hby hml hown hZ X5 e5 N5 (by decide) (by decide)
  obtain ⟨cl7, Ar7, q7, S7, M7, Hs7, G7⟩ := id Vs5
  have hin8 := inb_of (j := 1) S7 ⟨by decide, by decide⟩
  obtain ⟨T9, h9, X9, e9, W9, st9⟩ := stZ X6 hx hZ e6 Ar7 (j := 1) hin8 (g := (mkF m 32 #[vi p1, vi p2, vi p3, vi p4, vi p5, vi p6, un, un, un, un, un, un] [(.int (if (p6 &&& (2 : Int32)) = 0 then (0 : Int32) else (1 : Int32))), (.int 1), (.ref b1), (.ref b1)])) rfl rfl (B at_32)
  have s2 := (Keep.of_wr W9).1
  have N9 := Fr.snoc X9 N6 g_b1
  have Vs9 : Arv Z h9 b1 k1 .boolean 2 [(.int (nar .boolean (if (p6 &&& (1 : Int32)) = 0 then (0 : Int32) else (1 : Int32)))), (.int (nar .boolean (if (p6 &&& (2 : Int32)) = 0 then (0 : Int32) else (1 : Int32))))] (.int 0) := Arv.set Ar7 q7 S7 M7 Hs7 G7 (fits_nar_bool _) W9 1 rfl (nl rfl)
  obtain ⟨T10, h10, X10, e10, E10, A10, D10, -, st10⟩ := newO X9 hx hZ hown (w_1 hw) (w_2 hw) (w_3 hw) e9 (g := (mkF m 35 #[vi p1, vi p2, vi p3, vi p4, vi p5, vi p6, vr b1, un, un, un, un, un] [])) rfl (B at_35) (by decide) (by decide)
  obtain ⟨b10, g10⟩ : ∃ z, z = h9.size := ⟨_, rfl⟩
  rw [← g10] at A10 D10 st10
  have s3 := E10.1
  have Fn10_literal : Fld Z h10 b10 "com/example/informal_search/informalsearch/index/PostingBuffer" "literal" "[Z" .null := D10 (Or.inr (w_11 hw)) (ty := (.array .boolean)) (by decide)
  have Fn10_terms : Fld Z h10 b10 "com/example/informal_search/informalsearch/index/PostingBuffer" "terms" "Lcom/example/informal_search/informalsearch/index/Numbering;" .null := D10 (Or.inl (w_68 hw)) (ty := (.object "com/example/informal_search/informalsearch/index/Numbering")) (by decide)
  have Fn10_termOf : Fld Z h10 b10 "com/example/informal_search/informalsearch/index/PostingBuffer" "termOf" "[I" .null := D10 (Or.inl (w_71 hw)) (ty := (.array .int)) (by decide)
  have Fn10_entityOf : Fld Z h10 b10 "com/example/informal_search/informalsearch/index/PostingBuffer" "entityOf" "[I" .null := D10 (Or.inl (w_73 hw)) (ty := (.array .int)) (by decide)
  have Fn10_fieldOf : Fld Z h10 b10 "com/example/informal_search/informalsearch/index/PostingBuffer" "fieldOf" "[I" .null := D10 (Or.inl (w_75 hw)) (ty := (.array .int)) (by decide)
  have Fn10_countOf : Fld Z h10 b10 "com/example/informal_search/informalsearch/index/PostingBuffer" "countOf" "[I" .null := D10 (Or.inl (w_77 hw)) (ty := (.array .int)) (by decide)
  have Fn10_size : Fld Z h10 b10 "com/example/informal_search/informalsearch/index/PostingBuffer" "size" "I" (.int 0) := D10 (Or.inl (w_79 hw)) (ty := .int) (by decide)
  have Fn10_bytes : Fld Z h10 b10 "com/example/informal_search/informalsearch/index/PostingBuffer" "bytes" "J" (.long 0) := D10 (Or.inl (w_82 hw)) (ty := .long) (by decide)
  have z3 := Nat.le_trans Z0 (Nat.le_trans (Nat.le_trans s0 s1) s2)
  have g_b10 : n0 ≤ b10 := Nat.le_trans z3 (Nat.le_of_eq g10.symm)
  have Od1 := Od0.ext E1
  have Od2 := Od1.wr W5 g_b1
  have Od3 := Od2.wr W9 g_b1
  have Od4 := Od3.ext E10
  have z4 := Nat.le_trans Z0 (Nat.le_trans (Nat.le_trans (Nat.le_trans s0 s1) s2) s3)
  obtain ⟨_, T11, L11, X11, hQ11, st11⟩ := own_special X10 hx hZ hH hown (y := y_8) (a := b10) (w_4 hw) (w_5 hw) (w_3 hw) (w_6 hw) (rm10 l Z hw b10 b1 sa2 h10 n0 z4 Fn10_literal A10 g_b10 S10_DEFAULTCAPACITY_EMPTY_ELEMENTDATA Od4 Fn10_terms Fn10_termOf Fn10_entityOf Fn10_fieldOf Fn10_countOf Fn10_size Fn10_bytes) e10 (Ls := #[vi p1, vi p2, vi p3, vi p4, vi p5, vi p6, vr b1, un, un, un, un, un]) hml.symm (argsL := [(.ref b1)]) (rest := [(.ref b10)]) (lenOf pd_1 rfl) (B at_41) (W := 1)
  obtain ⟨b11_0, k11_1, b11_2, k11_3, b11_4, k11_5, b11_6, k11_7, b11_8, b11_9, b11_10, rfl, Nq11, K11, o11_0, o11_1, o11_2, o11_3, o11_4, o11_5, o11_6, o11_7, o11_8, o11_9, o11_10, o11_11, o11_12, o11_13, o11_14, o11_15, o11_16, o11_17, o11_18, o11_19, o11_20, o11_21, o11_22, o11_23, o11_24, o11_25, o11_26, o11_27, o11_28, o11_29, o11_30, o11_31, o11_32, o11_33, o11_34, o11_35, o11_36, o11_37, o11_38, o11_39, o11_40, o11_41, o11_42, o11_43, o11_44, o11_45, o11_46, o11_47, o11_48, o11_49, o11_50, o11_51, o11_52, o11_53, o11_54, o11_55, o11_56, o11_57, o11_58⟩ := hQ11
  have N11 := Fr.app N9 Nq11
  have s4 := K11.1
  have z5 := Nat.le_trans Z0 (Nat.le_trans (Nat.le_trans (Nat.le_trans (Nat.le_trans s0 s1) s2) s3) s4)
  obtain ⟨_, T12, L12, X12, hQ12, st12⟩ := own_virtual X11 hx hZ hH hown (y := y_9) (z := y_9) o11_0 (w_83 hw) (w_84 hw) (own_nf hZ (w_86 hw)) (w_86 hw) (w_85 hw) (w_3 hw) (w_87 hw) (rm11 l Z hw b10 T11.heap n0 z5 o11_6) rfl (Ls := #[vi p1, vi p2, vi p3, vi p4, vi p5, vi p6, vr b1, vr b10, un, un, un, un]) hml.symm (argsL := []) (rest := []) (lenOf pd_2 rfl) (B at_48) (W := 0)
  obtain ⟨rfl, Nq12, e12⟩ := hQ12
  have N12 := Fr.app N11 Nq12
  by_cases cc1 : (p6 &&& (4 : Int32)) = 0
  · obtain ⟨_, T13, L13, X13, hQ13, st13⟩ := own_virtual X12 hx hZ hH hown (y := y_9) (z := y_9) o11_0 (w_83 hw) (w_84 hw) (own_nf hZ (w_86 hw)) (w_86 hw) (w_85 hw) (w_3 hw) (w_87 hw) (rm11 l Z hw b10 T11.heap n0 z5 o11_6) e12 (Ls := #[vi p1, vi p2, vi p3, vi p4, vi p5, vi p6, vr b1, vr b10, vi 1, un, un, un]) hml.symm (argsL := []) (rest := []) (lenOf pd_2 rfl) (B at_91) (W := 0)
    obtain ⟨rfl, Nq13, e13⟩ := hQ13
    have N13 := Fr.app N12 Nq13
    have g_b11_6 : n0 ≤ b11_6 := Nat.le_trans z4 o11_18
    have ne_b10_b11_6 := Nat.ne_of_lt (Nat.lt_of_lt_of_le Fn10_terms.lt o11_18)
    have g_b11_2 : n0 ≤ b11_2 := Nat.le_trans z4 o11_12
    have ne_b10_b11_2 := Nat.ne_of_lt (Nat.lt_of_lt_of_le Fn10_terms.lt o11_12)
    have g_b11_4 : n0 ≤ b11_4 := Nat.le_trans z4 o11_15
    have ne_b10_b11_4 := Nat.ne_of_lt (Nat.lt_of_lt_of_le Fn10_terms.lt o11_15)
    have g_b11_0 : n0 ≤ b11_0 := Nat.le_trans z4 o11_9
    have ne_b10_b11_0 := Nat.ne_of_lt (Nat.lt_of_lt_of_le Fn10_terms.lt o11_9)
    obtain ⟨_, T14, L14, X14, hQ14, st14⟩ := own_virtual X13 hx hZ hH hown (y := y_43) (z := y_43) o11_0 (w_282 hw) (w_283 hw) (own_nf hZ (w_285 hw)) (w_285 hw) (w_284 hw) (w_3 hw) (w_286 hw) (rm40 l Z hw b10 p2 p3 p4 p5 b11_6 k11_7 b11_2 k11_3 b11_4 k11_5 b11_0 k11_1 b1 b11_8 T11.heap n0 z5 o11_6 o11_7 o11_20 g_b11_6 o11_3 ne_b10_b11_6 o11_14 o11_45 g_b11_2 o11_4 ne_b10_b11_2 o11_17 o11_49 (Ne.symm o11_44) g_b11_4 o11_2 ne_b10_b11_4 o11_11 o11_40 o11_38 o11_39 g_b11_0 ne_b10_b11_0 o11_0 g_b10 o11_19 o11_13 o11_16 o11_10 o11_1 o11_5 o11_8) e13 (Ls := #[vi p1, vi p2, vi p3, vi p4, vi p5, vi p6, vr b1, vr b10, vi 1, vi 1, vi 2, un]) hml.symm (argsL := [(.int p2), (.int p3), (.int p4), (.int p5)]) (rest := []) (lenOf pd_24 rfl) (B at_114) (W := 0)
    obtain ⟨rfl, Nq14, K14, o14_0, o14_1, o14_2, o14_3, o14_4, o14_5, o14_6, o14_7, o14_8, o14_9, o14_10, o14_11, o14_12, o14_13, o14_14, o14_15, o14_16⟩ := hQ14
    have N14 := Fr.app N13 Nq14
    have s5 := K14.1
    have z6 := Nat.le_trans Z0 (Nat.le_trans (Nat.le_trans (Nat.le_trans (Nat.le_trans (Nat.le_trans s0 s1) s2) s3) s4) s5)
    obtain ⟨_, T15, L15, X15, hQ15, st15⟩ := own_virtual X14 hx hZ hH hown (y := y_43) (z := y_43) o14_8 (w_282 hw) (w_283 hw) (own_nf hZ (w_285 hw)) (w_285 hw) (w_284 hw) (w_3 hw) (w_286 hw) (rm42 l Z hw b10 p3 p4 p5 p2 b11_6 k11_7 b11_2 k11_3 b11_4 k11_5 b11_0 k11_1 b1 b11_8 T14.heap n0 z6 o14_14 o14_15 o14_1 g_b11_6 o14_11 ne_b10_b11_6 o14_3 o11_45 g_b11_2 o14_12 ne_b10_b11_2 o14_5 o11_49 (Ne.symm o11_44) g_b11_4 o14_10 ne_b10_b11_4 o14_7 o11_40 o11_38 o11_39 g_b11_0 ne_b10_b11_0 o14_8 g_b10 o14_0 o14_2 o14_4 o14_6 o14_9 o14_13 o14_16) rfl (Ls := #[vi p1, vi p2, vi p3, vi p4, vi p5, vi p6, vr b1, vr b10, vi 1, vi 1, vi 2, un]) hml.symm (argsL := [(.int p3), (.int p4), (.int p5), (.int p2)]) (rest := []) (lenOf pd_24 rfl) (B at_130) (W := 0)
    obtain ⟨rfl, Nq15, K15, o15_0, o15_1, o15_2, o15_3, o15_4, o15_5, o15_6, o15_7, o15_8, o15_9, o15_10, o15_11, o15_12, o15_13, o15_14, o15_15, o15_16⟩ := hQ15
    have N15 := Fr.app N14 Nq15
    have s6 := K15.1
    have z7 := Nat.le_trans Z0 (Nat.le_trans (Nat.le_trans (Nat.le_trans (Nat.le_trans (Nat.le_trans (Nat.le_trans s0 s1) s2) s3) s4) s5) s6)
    obtain ⟨_, T16, L16, X16, hQ16, st16⟩ := own_virtual X15 hx hZ hH hown (y := y_9) (z := y_9) o15_8 (w_83 hw) (w_84 hw) (own_nf hZ (w_86 hw)) (w_86 hw) (w_85 hw) (w_3 hw) (w_87 hw) (rm43 l Z hw b10 T15.heap n0 z7 o15_14) rfl (Ls := #[vi p1, vi p2, vi p3, vi p4, vi p5, vi p6, vr b1, vr b10, vi 1, vi 1, vi 2, un]) hml.symm (argsL := []) (rest := []) (lenOf pd_2 rfl) (B at_151) (W := 0)
    obtain ⟨rfl, Nq16, e16⟩ := hQ16
    have N16 := Fr.app N15 Nq16
    refine ⟨T16, _, _, _, (some (.int 1)), X16, nofun, by decide, by decide, ?_, fun fs hr => ?_⟩
    · show Q0 n0 _ T16.heap _
      rw [e16]
      exact ⟨rfl, N16⟩
    · refine sC X0 hx (B at_0) ?_
      refine st1 _ ?_
      refine XS.dup X1.here hx rfl (B at_3) rfl rfl ?_
      refine sC X1 hx (B at_4) ?_
      refine st2 _ ?_
      refine st5 _ ?_
      refine XS.dup X5.here hx rfl (B at_18) rfl rfl ?_
      refine sC X5 hx (B at_19) ?_
      refine st6 _ ?_
      refine st9 _ ?_
      refine XS.astore X9.here hx rfl (B at_33) rfl rfl (l' := #[vi p1, vi p2, vi p3, vi p4, vi p5, vi p6, vr b1, un, un, un, un, un]) rfl ?_
      refine st10 _ ?_
      refine XS.dup X10.here hx rfl (B at_38) rfl rfl ?_
      refine sB X10 hx (B at_39) rfl rfl ?_
      refine st11 _ ?_
      refine XS.astore X11.here hx rfl (B at_44) rfl rfl (l' := #[vi p1, vi p2, vi p3, vi p4, vi p5, vi p6, vr b1, vr b10, un, un, un, un]) rfl ?_
      refine sB X11 hx (B at_46) rfl rfl ?_
      refine st12 _ ?_
      refine XS.istore X12.here hx rfl (B at_51) rfl (l' := #[vi p1, vi p2, vi p3, vi p4, vi p5, vi p6, vr b1, vr b10, vi 1, un, un, un]) rfl ?_
      refine sJ X12 hx (B at_53) rfl ?_
      refine sC X12 hx (B at_55) ?_
      refine XS.iand X12.here hx rfl (B at_56) rfl ?_
      refine XS.ifYes X12.here hx rfl (pc0 := 57) (pc' := 89) rfl (B at_57) rfl ((if0 _ _).trans (teq cc1).1) (by decide) (by decide) ?_
      refine sB X12 hx (B at_89) rfl rfl ?_
      refine st13 _ ?_
      refine XS.istore X13.here hx rfl (B at_94) rfl (l' := #[vi p1, vi p2, vi p3, vi p4, vi p5, vi p6, vr b1, vr b10, vi 1, vi 1, un, un]) rfl ?_
      refine sI X13 hx (B at_96) rfl ?_
      refine sC X13 hx (B at_97) ?_
      refine XS.iand X13.here hx rfl (B at_98) rfl ?_
      show Steps p.tables e below (T13.setTop (mkF m 99 #[vi p1, vi p2, vi p3, vi p4, vi p5, vi p6, vr b1, vr b10, vi 1, vi 1, un, un] [(.int (p1 &&& (3 : Int32)))])) _
      rw [hk]
      refine XS.istore X13.here hx rfl (B at_99) rfl (l' := #[vi p1, vi p2, vi p3, vi p4, vi p5, vi p6, vr b1, vr b10, vi 1, vi 1, vi 2, un]) rfl ?_
      refine sJ X13 hx (B at_101) rfl ?_
      refine sC X13 hx (B at_103) ?_
      refine XS.icmpNo X13.here hx rfl (B at_104) rfl (flt (by decide : ¬ ((2 : Int32) < (1 : Int32)))).1 ?_
      refine sB X13 hx (B at_107) rfl rfl ?_
      refine sI X13 hx (B at_109) rfl ?_
      refine sI X13 hx (B at_110) rfl ?_
      refine sI X13 hx (B at_111) rfl ?_
      refine sJ X13 hx (B at_112) rfl ?_
      refine st14 _ ?_
      refine sJ X14 hx (B at_117) rfl ?_
      refine sC X14 hx (B at_119) ?_
      refine XS.icmpNo X14.here hx rfl (B at_120) rfl (flt (by decide : ¬ ((2 : Int32) < (2 : Int32)))).1 ?_
      refine sB X14 hx (B at_123) rfl rfl ?_
      refine sI X14 hx (B at_125) rfl ?_
      refine sI X14 hx (B at_126) rfl ?_
      refine sJ X14 hx (B at_127) rfl ?_
      refine sI X14 hx (B at_129) rfl ?_
      refine st15 _ ?_
      refine sJ X15 hx (B at_133) rfl ?_
      refine sC X15 hx (B at_135) ?_
      refine XS.icmpYes X15.here hx rfl (pc0 := 136) (pc' := 149) rfl (B at_136) rfl (tlt (by decide : (2 : Int32) < (3 : Int32))).1 (by decide) (by decide) ?_
      refine sB X15 hx (B at_149) rfl rfl ?_
      refine st16 _ ?_
      refine XS.istore X16.here hx rfl (B at_154) rfl (l' := #[vi p1, vi p2, vi p3, vi p4, vi p5, vi p6, vr b1, vr b10, vi 1, vi 1, vi 2, vi 0]) rfl ?_
      refine sJ X16 hx (B at_156) rfl ?_
      refine XS.ifNo X16.here hx rfl (B at_158) rfl ((if0 _ _).trans (feq (by decide : ¬ ((1 : Int32) = (0 : Int32)))).1) ?_
      refine sJ X16 hx (B at_161) rfl ?_
      refine XS.ifNo X16.here hx rfl (B at_163) rfl ((if0 _ _).trans (feq (by decide : ¬ ((1 : Int32) = (0 : Int32)))).1) ?_
      refine sJ X16 hx (B at_166) rfl ?_
      refine sJ X16 hx (B at_168) rfl ?_
      refine XS.ifYes X16.here hx rfl (pc0 := 170) (pc' := 177) rfl (B at_170) rfl ((if0 _ _).trans (feq (by decide : ¬ ((2 : Int32) = (0 : Int32)))).2) (by decide) (by decide) ?_
      refine sC X16 hx (B at_177) ?_
      refine XS.icmpNo X16.here hx rfl (B at_178) rfl (teq (by decide : (0 : Int32) = (0 : Int32))).2 ?_
      refine sC X16 hx (B at_181) ?_
      refine XS.goto X16.here hx rfl (pc0 := 182) (pc' := 186) rfl (B at_182) (by decide) (by decide) ?_
      exact retN X16 hx (t := .boolean) hret (by simp) (B at_186) hr
  · obtain ⟨T13, h13, k13, X13, e13, E13, A13, B13, st13⟩ := newPE (aty := .char) X12 hx hZ (w_88 hw) e12 (g := (mkF m 61 #[vi p1, vi p2, vi p3, vi p4, vi p5, vi p6, vr b1, vr b10, vi 1, un, un, un] [(.int 1)])) rfl (B at_61) rfl (by decide) (cap := 1) (by decide) (by decide) (by decide) (by decide) (ad := "[C") (by decide)
    obtain ⟨b13, g13⟩ : ∃ z, z = T11.heap.size := ⟨_, rfl⟩
    rw [← g13] at A13 B13 st13
    have s5 := E13.1
    have Vn13 : Arv Z h13 b13 k13 .char 1 [(.int 0)] (.int 0) := (Arv.new A13 (by decide)).pad (pad_rep [] (.int 0) 1)
    obtain ⟨cl14, Ar14, q14, S14, M14, Hs14, G14⟩ := id Vn13
    have hin15 := inb_of (j := 0) S14 ⟨by decide, by decide⟩
    obtain ⟨T16, h16, X16, e16, W16, st16⟩ := stC X13 hx hZ e13 Ar14 (j := 0) hin15 (g := (mkF m 71 #[vi p1, vi p2, vi p3, vi p4, vi p5, vi p6, vr b1, vr b10, vi 1, un, un, un] [(.int ((p2 &&& (255 : Int32)).toUInt32.toUInt16.toUInt32.toInt32)), (.int 0), (.ref b13), (.ref b13)])) rfl rfl (B at_71)
    have s6 := (Keep.of_wr W16).1
    have g_b13 : n0 ≤ b13 := Nat.le_trans z5 (Nat.le_of_eq g13.symm)
    have N16 := Fr.snoc X16 N12 g_b13
    have Vs16 : Arv Z h16 b13 k13 .char 1 [(.int (nar .char ((p2 &&& (255 : Int32)).toUInt32.toUInt16.toUInt32.toInt32)))] (.int 0) := Arv.set Ar14 q14 S14 M14 Hs14 G14 (fits_nar_char _) W16 0 rfl (nl rfl)
    obtain ⟨T17, h17, X17, e17, E17, A17, D17, -, st17⟩ := newO X16 hx hZ hown (w_89 hw) (w_90 hw) (w_91 hw) e16 (g := (mkF m 76 #[vi p1, vi p2, vi p3, vi p4, vi p5, vi p6, vr b1, vr b10, vi 1, vr b13, un, un] [(.ref b10)])) rfl (B at_76) (by decide) (by decide)
    obtain ⟨b17, g17⟩ : ∃ z, z = h16.size := ⟨_, rfl⟩
    rw [← g17] at A17 D17 st17
    have s7 := E17.1
    have Fn17_coder : Fld Z h17 b17 jS "coder" "B" (.int 0) := D17 (Or.inr (w_113 hw)) (ty := .byte) (by decide)
    have Fn17_value : Fld Z h17 b17 jS "value" "[B" .null := D17 (Or.inr (w_115 hw)) (ty := (.array .byte)) (by decide)
    have Fn17_hash : Fld Z h17 b17 jS "hash" "I" (.int 0) := D17 (Or.inl (w_149 hw)) (ty := .int) (by decide)
    have Fn17_hashIsZero : Fld Z h17 b17 jS "hashIsZero" "Z" (.int 0) := D17 (Or.inl (w_151 hw)) (ty := .boolean) (by decide)
    have Va18 := (Vs16.ext E17)
    have Od5 := Od4.keep K11 (allS g_b10 all0)
    have Od6 := Od5.ext E13
    have Od7 := Od6.wr W16 g_b13
    have Od8 := Od7.ext E17
    have cd19 : ¬ (255 < (nar .char ((p2 &&& (255 : Int32)).toUInt32.toUInt16.toUInt32.toInt32))) := (by rw [Int32.lt_iff_toInt_lt]; have : ((255 : Int32)).toInt = 255 := (by decide); have := rng32 (nar .char ((p2 &&& (255 : Int32)).toUInt32.toUInt16.toUInt32.toInt32)); have := rng32 ((p2 &&& (255 : Int32)).toUInt32.toUInt16.toUInt32.toInt32); have := rng32 (p2 &&& (255 : Int32)); have := rng32 p2; have := own_mask p2 (255 : Int32) 8 (by decide) (by decide) 256 (by decide); have := c_i2c (p2 &&& (255 : Int32)); have := own_c_nar_char ((p2 &&& (255 : Int32)).toUInt32.toUInt16.toUInt32.toInt32); omega)
    have z7 := Nat.le_trans Z0 (Nat.le_trans (Nat.le_trans (Nat.le_trans (Nat.le_trans (Nat.le_trans (Nat.le_trans s0 s1) s2) s3) s4) s5) s6)
    have g_b17 : n0 ≤ b17 := Nat.le_trans z7 (Nat.le_of_eq g17.symm)
    have z8 := Nat.le_trans Z0 (Nat.le_trans (Nat.le_trans (Nat.le_trans (Nat.le_trans (Nat.le_trans (Nat.le_trans (Nat.le_trans s0 s1) s2) s3) s4) s5) s6) s7)
    obtain ⟨_, T20, L20, X20, hQ20, st20⟩ := own_special X17 hx hZ hH hown (y := y_14) (a := b17) (w_92 hw) (w_93 hw) (w_91 hw) (w_94 hw) (rm16 l Z hw b17 b13 (nar .char ((p2 &&& (255 : Int32)).toUInt32.toUInt16.toUInt32.toInt32)) k13 si5 h17 n0 z8 Va18 S15_COMPACT_STRINGS Od8 nc7 cd19 Fn17_coder A17 g_b17 Fn17_value Fn17_hash Fn17_hashIsZero) e17 (Ls := #[vi p1, vi p2, vi p3, vi p4, vi p5, vi p6, vr b1, vr b10, vi 1, vr b13, un, un]) hml.symm (argsL := [(.ref b13)]) (rest := [(.ref b17), (.ref b10)]) (lenOf pd_7 rfl) (B at_82) (W := 2)
    obtain ⟨b20_0, k20_1, rfl, Nq20, K20, o20_0, o20_1, o20_2, o20_3, o20_4, o20_5, o20_6, o20_7⟩ := hQ20
    have N20 := Fr.app N16 Nq20
    have s8 := K20.1
    have Ex21 := ((((o11_0.ext E13).wr W16).ext E17).keep K20)
    have ne_b10_b13 := Nat.ne_of_lt (Nat.lt_of_lt_of_le o11_8.lt (Nat.le_of_eq g13.symm))
    have ne_b10_b17 := Nat.ne_of_lt (Nat.lt_of_lt_of_le (Nat.lt_of_lt_of_le o11_8.lt (Nat.le_trans s5 s6)) (Nat.le_of_eq g17.symm))
    have Fl22 := ((((o11_8.ext E13).other W16 (Or.inl ne_b10_b13)).ext E17).keep K20 (ninS ne_b10_b17 nin0))
    have Ex23 := ((((o11_22.ext E13).wr W16).ext E17).keep K20)
    have ne_b11_8_b13 := Nat.ne_of_lt (Nat.lt_of_lt_of_le o11_25.lt (Nat.le_of_eq g13.symm))
    have ne_b11_8_b17 := Nat.ne_of_lt (Nat.lt_of_lt_of_le (Nat.lt_of_lt_of_le o11_25.lt (Nat.le_trans s5 s6)) (Nat.le_of_eq g17.symm))
    have Fl24 := ((((o11_24.ext E13).other W16 (Or.inl ne_b11_8_b13)).ext E17).keep K20 (ninS ne_b11_8_b17 nin0))
    have Ex25 := ((((o11_27.ext E13).wr W16).ext E17).keep K20)
    have Od9 := Od8.keep K20 (allS g_b17 all0)
    have ne_b11_9_b13 := Nat.ne_of_lt (Nat.lt_of_lt_of_le o11_32.lt (Nat.le_of_eq g13.symm))
    have ne_b11_9_b17 := Nat.ne_of_lt (Nat.lt_of_lt_of_le (Nat.lt_of_lt_of_le o11_32.lt (Nat.le_trans s5 s6)) (Nat.le_of_eq g17.symm))
    have Fl26 := ((((o11_30.ext E13).other W16 (Or.inl ne_b11_9_b13)).ext E17).keep K20 (ninS ne_b11_9_b17 nin0))
    have Fl27 := ((((o11_32.ext E13).other W16 (Or.inl ne_b11_9_b13)).ext E17).keep K20 (ninS ne_b11_9_b17 nin0))
    have Fl28 := ((((o11_31.ext E13).other W16 (Or.inl ne_b11_9_b13)).ext E17).keep K20 (ninS ne_b11_9_b17 nin0))
    have g_b11_9 : n0 ≤ b11_9 := Nat.le_trans z4 o11_26
    have Fl29 := ((((o11_28.ext E13).other W16 (Or.inl ne_b11_9_b13)).ext E17).keep K20 (ninS ne_b11_9_b17 nin0))
    have Fl30 := ((((o11_29.ext E13).other W16 (Or.inl ne_b11_9_b13)).ext E17).keep K20 (ninS ne_b11_9_b17 nin0))
    have Fl31 := ((((o11_25.ext E13).other W16 (Or.inl ne_b11_8_b13)).ext E17).keep K20 (ninS ne_b11_8_b17 nin0))
    have Ex32 := ((((o11_34.ext E13).wr W16).ext E17).keep K20)
    have ne_b11_10_b13 := Nat.ne_of_lt (Nat.lt_of_lt_of_le o11_37.lt (Nat.le_of_eq g13.symm))
    have ne_b11_10_b17 := Nat.ne_of_lt (Nat.lt_of_lt_of_le (Nat.lt_of_lt_of_le o11_37.lt (Nat.le_trans s5 s6)) (Nat.le_of_eq g17.symm))
    have Fl33 := ((((o11_35.ext E13).other W16 (Or.inl ne_b11_10_b13)).ext E17).keep K20 (ninS ne_b11_10_b17 nin0))
    have g_b11_10 : n0 ≤ b11_10 := Nat.le_trans z4 o11_33
    have Fl34 := ((((o11_36.ext E13).other W16 (Or.inl ne_b11_10_b13)).ext E17).keep K20 (ninS ne_b11_10_b17 nin0))
    have Fl35 := ((((o11_37.ext E13).other W16 (Or.inl ne_b11_10_b13)).ext E17).keep K20 (ninS ne_b11_10_b17 nin0))
    have ne_sa2_b1 := Nat.ne_of_lt (Nat.lt_of_lt_of_le V_sa2.lt (Nat.le_of_eq g1.symm))
    have ne_sa2_b10 := Nat.ne_of_lt (Nat.lt_of_lt_of_le (Nat.lt_of_lt_of_le V_sa2.lt (Nat.le_trans (Nat.le_trans s0 s1) s2)) (Nat.le_of_eq g10.symm))
    have ne_sa2_b13 := Nat.ne_of_lt (Nat.lt_of_lt_of_le (Nat.lt_of_lt_of_le V_sa2.lt (Nat.le_trans (Nat.le_trans (Nat.le_trans (Nat.le_trans s0 s1) s2) s3) s4)) (Nat.le_of_eq g13.symm))
    have ne_sa2_b17 := Nat.ne_of_lt (Nat.lt_of_lt_of_le (Nat.lt_of_lt_of_le V_sa2.lt (Nat.le_trans (Nat.le_trans (Nat.le_trans (Nat.le_trans (Nat.le_trans (Nat.le_trans s0 s1) s2) s3) s4) s5) s6)) (Nat.le_of_eq g17.symm))
    have Va36 := (((((((((V_sa2.ext E1).other W5 ne_sa2_b1).other W9 ne_sa2_b1).ext E10).keep K11 (ninS ne_sa2_b10 nin0)).ext E13).other W16 ne_sa2_b13).ext E17).keep K20 (ninS ne_sa2_b17 nin0))
    have ne_sa2_b11_9 := Nat.ne_of_lt (Nat.lt_of_lt_of_le (Nat.lt_of_lt_of_le V_sa2.lt (Nat.le_trans (Nat.le_trans (Nat.le_trans s0 s1) s2) s3)) o11_26)
    have ne_sa2_b11_10 := Nat.ne_of_lt (Nat.lt_of_lt_of_le (Nat.lt_of_lt_of_le V_sa2.lt (Nat.le_trans (Nat.le_trans (Nat.le_trans s0 s1) s2) s3)) o11_33)
    have Fl37 := ((((o11_23.ext E13).other W16 (Or.inl ne_b11_8_b13)).ext E17).keep K20 (ninS ne_b11_8_b17 nin0))
    have ne_b17_b20_0 := Nat.ne_of_lt (Nat.lt_of_lt_of_le Fn17_value.lt o20_5)
    have ne_b11_9_b20_0 := Nat.ne_of_lt (Nat.lt_of_lt_of_le (Nat.lt_of_lt_of_le o11_32.lt (Nat.le_trans (Nat.le_trans s5 s6) s7)) o20_5)
    have ne_b11_10_b20_0 := Nat.ne_of_lt (Nat.lt_of_lt_of_le (Nat.lt_of_lt_of_le o11_37.lt (Nat.le_trans (Nat.le_trans s5 s6) s7)) o20_5)
    have g_b11_8 : n0 ≤ b11_8 := Nat.le_trans z4 o11_21
    have ne_sa3_b1 := Nat.ne_of_lt (Nat.lt_of_lt_of_le V_sa3.lt (Nat.le_of_eq g1.symm))
    have ne_sa3_b10 := Nat.ne_of_lt (Nat.lt_of_lt_of_le (Nat.lt_of_lt_of_le V_sa3.lt (Nat.le_trans (Nat.le_trans s0 s1) s2)) (Nat.le_of_eq g10.symm))
    have ne_sa3_b13 := Nat.ne_of_lt (Nat.lt_of_lt_of_le (Nat.lt_of_lt_of_le V_sa3.lt (Nat.le_trans (Nat.le_trans (Nat.le_trans (Nat.le_trans s0 s1) s2) s3) s4)) (Nat.le_of_eq g13.symm))
    have ne_sa3_b17 := Nat.ne_of_lt (Nat.lt_of_lt_of_le (Nat.lt_of_lt_of_le V_sa3.lt (Nat.le_trans (Nat.le_trans (Nat.le_trans (Nat.le_trans (Nat.le_trans (Nat.le_trans s0 s1) s2) s3) s4) s5) s6)) (Nat.le_of_eq g17.symm))
    have Va38 := (((((((((V_sa3.ext E1).other W5 ne_sa3_b1).other W9 ne_sa3_b1).ext E10).keep K11 (ninS ne_sa3_b10 nin0)).ext E13).other W16 ne_sa3_b13).ext E17).keep K20 (ninS ne_sa3_b17 nin0))
    have ne_sa3_b11_9 := Nat.ne_of_lt (Nat.lt_of_lt_of_le (Nat.lt_of_lt_of_le V_sa3.lt (Nat.le_trans (Nat.le_trans (Nat.le_trans s0 s1) s2) s3)) o11_26)
    have ne_sa3_b11_10 := Nat.ne_of_lt (Nat.lt_of_lt_of_le (Nat.lt_of_lt_of_le V_sa3.lt (Nat.le_trans (Nat.le_trans (Nat.le_trans s0 s1) s2) s3)) o11_33)
    have ne_sa3_b11_8 := Nat.ne_of_lt (Nat.lt_of_lt_of_le (Nat.lt_of_lt_of_le V_sa3.lt (Nat.le_trans (Nat.le_trans (Nat.le_trans s0 s1) s2) s3)) o11_21)
    have Ex39 := (((((((((E_sbi.ext E1).wr W5).wr W9).ext E10).keep K11).ext E13).wr W16).ext E17).keep K20)
    have ne_sbi_b1 := Nat.ne_of_lt (Nat.lt_of_lt_of_le F_sbi.lt (Nat.le_of_eq g1.symm))
    have ne_sbi_b10 := Nat.ne_of_lt (Nat.lt_of_lt_of_le (Nat.lt_of_lt_of_le F_sbi.lt (Nat.le_trans (Nat.le_trans s0 s1) s2)) (Nat.le_of_eq g10.symm))
    have ne_sbi_b13 := Nat.ne_of_lt (Nat.lt_of_lt_of_le (Nat.lt_of_lt_of_le F_sbi.lt (Nat.le_trans (Nat.le_trans (Nat.le_trans (Nat.le_trans s0 s1) s2) s3) s4)) (Nat.le_of_eq g13.symm))
    have ne_sbi_b17 := Nat.ne_of_lt (Nat.lt_of_lt_of_le (Nat.lt_of_lt_of_le F_sbi.lt (Nat.le_trans (Nat.le_trans (Nat.le_trans (Nat.le_trans (Nat.le_trans (Nat.le_trans s0 s1) s2) s3) s4) s5) s6)) (Nat.le_of_eq g17.symm))
    have Fl40 := (((((((((F_sbi.ext E1).other W5 (Or.inl ne_sbi_b1)).other W9 (Or.inl ne_sbi_b1)).ext E10).keep K11 (ninS ne_sbi_b10 nin0)).ext E13).other W16 (Or.inl ne_sbi_b13)).ext E17).keep K20 (ninS ne_sbi_b17 nin0))
    have ne_sbi_b11_9 := Nat.ne_of_lt (Nat.lt_of_lt_of_le (Nat.lt_of_lt_of_le F_sbi.lt (Nat.le_trans (Nat.le_trans (Nat.le_trans s0 s1) s2) s3)) o11_26)
    have ne_sbi_b11_10 := Nat.ne_of_lt (Nat.lt_of_lt_of_le (Nat.lt_of_lt_of_le F_sbi.lt (Nat.le_trans (Nat.le_trans (Nat.le_trans s0 s1) s2) s3)) o11_33)
    have ne_sbi_b11_8 := Nat.ne_of_lt (Nat.lt_of_lt_of_le (Nat.lt_of_lt_of_le F_sbi.lt (Nat.le_trans (Nat.le_trans (Nat.le_trans s0 s1) s2) s3)) o11_21)
    have z9 := Nat.le_trans Z0 (Nat.le_trans (Nat.le_trans (Nat.le_trans (Nat.le_trans (Nat.le_trans (Nat.le_trans (Nat.le_trans (Nat.le_trans s0 s1) s2) s3) s4) s5) s6) s7) s8)
    obtain ⟨_, T41, L41, X41, hQ41, st41⟩ := own_virtual X20 hx hZ hH hown (y := y_42) (z := y_42) Ex21 (w_116 hw) (w_117 hw) (own_nf hZ (w_119 hw)) (w_119 hw) (w_118 hw) (w_3 hw) (w_120 hw) (rm39 l Z hw b10 b17 b11_8 b11_9 sck si5 b20_0 (nar .byte ((nar .char ((p2 &&& (255 : Int32)).toUInt32.toUInt16.toUInt32.toInt32)).toInt8.toInt32)) k20_1 b11_10 sa2 sk11 sa3 suc skc sbi T20.heap n0 z9 Fl22 Ex23 Fl24 Site Ex25 o20_0 o20_2 o20_3 S15_COMPACT_STRINGS Od9 nc7 o20_1 o20_4 o20_7 g_b17 Fl26 ne_b11_9_b17 Fl27 Fl28 g_b11_9 Fl29 Fl30 Fl31 ne_b11_8_b17 o11_56 Ex32 Fl33 ne_b11_10_b17 (Ne.symm o11_58) g_b11_10 Fl34 Fl35 Va36 ne_sa2_b17 ne_sa2_b11_9 ne_sa2_b11_10 S10_DEFAULTCAPACITY_EMPTY_ELEMENTDATA Fl37 o11_57 (Ne.symm ne_b17_b20_0) (Ne.symm ne_b11_9_b20_0) (Ne.symm ne_b11_10_b20_0) g_b11_8 S16_high S12_cache Va38 ne_sa3_b17 ne_sa3_b11_9 ne_sa3_b11_10 ne_sa3_b11_8 rd_c Ex39 Fl40 ne_sbi_b17 ne_sbi_b11_9 ne_sbi_b11_10 ne_sbi_b11_8) rfl (Ls := #[vi p1, vi p2, vi p3, vi p4, vi p5, vi p6, vr b1, vr b10, vi 1, vr b13, un, un]) hml.symm (argsL := [(.ref b17)]) (rest := []) (lenOf pd_23 rfl) (B at_85) (W := 0)
    obtain ⟨b41_0, k41_1, u41_2, b41_3, k41_4, rfl, Nq41, K41, o41_0, o41_1, o41_2, o41_3, o41_4, o41_5, o41_6, o41_7, o41_8, o41_9, o41_10, o41_11, o41_12, o41_13, o41_14, o41_15, o41_16, o41_17, o41_18, o41_19, o41_20, o41_21, o41_22, o41_23, o41_24, o41_25, o41_26, o41_27⟩ := hQ41
    have N41 := Fr.app N20 Nq41
    have s9 := K41.1
    obtain ⟨x42, ex42⟩ : ∃ z, z = (if ((nar .byte ((nar .char ((p2 &&& (255 : Int32)).toUInt32.toUInt16.toUInt32.toInt32)).toInt8.toInt32)) &&& (255 : Int32)) = 0 then (0 : Int32) else ((nar .byte ((nar .char ((p2 &&& (255 : Int32)).toUInt32.toUInt16.toUInt32.toInt32)).toInt8.toInt32)) &&& (255 : Int32))) := ⟨_, rfl⟩
    have o41_2' : Fld Z T41.heap b17 jS "hash" "I" (.int x42) := by rw [ex42]; exact o41_2
    obtain ⟨x43, ex43⟩ : ∃ z, z = (if ((nar .byte ((nar .char ((p2 &&& (255 : Int32)).toUInt32.toUInt16.toUInt32.toInt32)).toInt8.toInt32)) &&& (255 : Int32)) = 0 then (1 : Int32) else (0 : Int32)) := ⟨_, rfl⟩
    have o41_3' : Fld Z T41.heap b17 jS "hashIsZero" "Z" (.int x43) := by rw [ex43]; exact o41_3
    have Ex44 := (Ex21.keep K41)
    have ne_b10_b11_9 := Nat.ne_of_lt (Nat.lt_of_lt_of_le Fn10_terms.lt o11_26)
    have ne_b10_b11_10 := Nat.ne_of_lt (Nat.lt_of_lt_of_le Fn10_terms.lt o11_33)
    have ne_b10_b11_8 := Nat.ne_of_lt (Nat.lt_of_lt_of_le Fn10_terms.lt o11_21)
    have Fl45 := (((((o11_6.ext E13).other W16 (Or.inl ne_b10_b13)).ext E17).keep K20 (ninS ne_b10_b17 nin0)).keep K41 (ninS ne_b10_b17 (ninS ne_b10_b11_9 (ninS ne_b10_b11_10 (ninS ne_b10_b11_8 nin0)))))
    have z10 := Nat.le_trans Z0 (Nat.le_trans (Nat.le_trans (Nat.le_trans (Nat.le_trans (Nat.le_trans (Nat.le_trans (Nat.le_trans (Nat.le_trans (Nat.le_trans s0 s1) s2) s3) s4) s5) s6) s7) s8) s9)
    obtain ⟨_, T46, L46, X46, hQ46, st46⟩ := own_virtual X41 hx hZ hH hown (y := y_9) (z := y_9) Ex44 (w_83 hw) (w_84 hw) (own_nf hZ (w_86 hw)) (w_86 hw) (w_85 hw) (w_3 hw) (w_87 hw) (rm11 l Z hw b10 T41.heap n0 z10 Fl45) rfl (Ls := #[vi p1, vi p2, vi p3, vi p4, vi p5, vi p6, vr b1, vr b10, vi 1, vr b13, un, un]) hml.symm (argsL := []) (rest := []) (lenOf pd_2 rfl) (B at_91) (W := 0)
    obtain ⟨rfl, Nq46, e46⟩ := hQ46
    have N46 := Fr.app N41 Nq46
    have Fl47 := (((((o11_7.ext E13).other W16 (Or.inl ne_b10_b13)).ext E17).keep K20 (ninS ne_b10_b17 nin0)).keep K41 (ninS ne_b10_b17 (ninS ne_b10_b11_9 (ninS ne_b10_b11_10 (ninS ne_b10_b11_8 nin0)))))
    have ne_b11_6_b13 := Nat.ne_of_lt (Nat.lt_of_lt_of_le o11_20.lt (Nat.le_of_eq g13.symm))
    have ne_b11_6_b17 := Nat.ne_of_lt (Nat.lt_of_lt_of_le (Nat.lt_of_lt_of_le o11_20.lt (Nat.le_trans s5 s6)) (Nat.le_of_eq g17.symm))
    have Va48 := (((((o11_20.ext E13).other W16 ne_b11_6_b13).ext E17).keep K20 (ninS ne_b11_6_b17 nin0)).keep K41 (ninS ne_b11_6_b17 (ninS o11_54 (ninS o11_55 (ninS o11_53 nin0)))))
    have g_b11_6 : n0 ≤ b11_6 := Nat.le_trans z4 o11_18
    have Fl49 := (((((o11_3.ext E13).other W16 (Or.inl ne_b10_b13)).ext E17).keep K20 (ninS ne_b10_b17 nin0)).keep K41 (ninS ne_b10_b17 (ninS ne_b10_b11_9 (ninS ne_b10_b11_10 (ninS ne_b10_b11_8 nin0)))))
    have ne_b10_b11_6 := Nat.ne_of_lt (Nat.lt_of_lt_of_le Fn10_terms.lt o11_18)
    have ne_b11_2_b13 := Nat.ne_of_lt (Nat.lt_of_lt_of_le o11_14.lt (Nat.le_of_eq g13.symm))
    have ne_b11_2_b17 := Nat.ne_of_lt (Nat.lt_of_lt_of_le (Nat.lt_of_lt_of_le o11_14.lt (Nat.le_trans s5 s6)) (Nat.le_of_eq g17.symm))
    have Va50 := (((((o11_14.ext E13).other W16 ne_b11_2_b13).ext E17).keep K20 (ninS ne_b11_2_b17 nin0)).keep K41 (ninS ne_b11_2_b17 (ninS o11_47 (ninS o11_48 (ninS o11_46 nin0)))))
    have g_b11_2 : n0 ≤ b11_2 := Nat.le_trans z4 o11_12
    have Fl51 := (((((o11_4.ext E13).other W16 (Or.inl ne_b10_b13)).ext E17).keep K20 (ninS ne_b10_b17 nin0)).keep K41 (ninS ne_b10_b17 (ninS ne_b10_b11_9 (ninS ne_b10_b11_10 (ninS ne_b10_b11_8 nin0)))))
    have ne_b10_b11_2 := Nat.ne_of_lt (Nat.lt_of_lt_of_le Fn10_terms.lt o11_12)
    have ne_b11_4_b13 := Nat.ne_of_lt (Nat.lt_of_lt_of_le o11_17.lt (Nat.le_of_eq g13.symm))
    have ne_b11_4_b17 := Nat.ne_of_lt (Nat.lt_of_lt_of_le (Nat.lt_of_lt_of_le o11_17.lt (Nat.le_trans s5 s6)) (Nat.le_of_eq g17.symm))
    have Va52 := (((((o11_17.ext E13).other W16 ne_b11_4_b13).ext E17).keep K20 (ninS ne_b11_4_b17 nin0)).keep K41 (ninS ne_b11_4_b17 (ninS o11_51 (ninS o11_52 (ninS o11_50 nin0)))))
    have g_b11_4 : n0 ≤ b11_4 := Nat.le_trans z4 o11_15
    have Fl53 := (((((o11_2.ext E13).other W16 (Or.inl ne_b10_b13)).ext E17).keep K20 (ninS ne_b10_b17 nin0)).keep K41 (ninS ne_b10_b17 (ninS ne_b10_b11_9 (ninS ne_b10_b11_10 (ninS ne_b10_b11_8 nin0)))))
    have ne_b10_b11_4 := Nat.ne_of_lt (Nat.lt_of_lt_of_le Fn10_terms.lt o11_15)
    have ne_b11_0_b13 := Nat.ne_of_lt (Nat.lt_of_lt_of_le o11_11.lt (Nat.le_of_eq g13.symm))
    have ne_b11_0_b17 := Nat.ne_of_lt (Nat.lt_of_lt_of_le (Nat.lt_of_lt_of_le o11_11.lt (Nat.le_trans s5 s6)) (Nat.le_of_eq g17.symm))
    have Va54 := (((((o11_11.ext E13).other W16 ne_b11_0_b13).ext E17).keep K20 (ninS ne_b11_0_b17 nin0)).keep K41 (ninS ne_b11_0_b17 (ninS o11_42 (ninS o11_43 (ninS o11_41 nin0)))))
    have g_b11_0 : n0 ≤ b11_0 := Nat.le_trans z4 o11_9
    have ne_b10_b11_0 := Nat.ne_of_lt (Nat.lt_of_lt_of_le Fn10_terms.lt o11_9)
    have Ex55 := (((((o11_19.ext E13).wr W16).ext E17).keep K20).keep K41)
    have Ex56 := (((((o11_13.ext E13).wr W16).ext E17).keep K20).keep K41)
    have Ex57 := (((((o11_16.ext E13).wr W16).ext E17).keep K20).keep K41)
    have Ex58 := (((((o11_10.ext E13).wr W16).ext E17).keep K20).keep K41)
    have Fl59 := (((((o11_1.ext E13).other W16 (Or.inl ne_b10_b13)).ext E17).keep K20 (ninS ne_b10_b17 nin0)).keep K41 (ninS ne_b10_b17 (ninS ne_b10_b11_9 (ninS ne_b10_b11_10 (ninS ne_b10_b11_8 nin0)))))
    have Fl60 := (((((o11_5.ext E13).other W16 (Or.inl ne_b10_b13)).ext E17).keep K20 (ninS ne_b10_b17 nin0)).keep K41 (ninS ne_b10_b17 (ninS ne_b10_b11_9 (ninS ne_b10_b11_10 (ninS ne_b10_b11_8 nin0)))))
    have Fl61 := (Fl22.keep K41 (ninS ne_b10_b17 (ninS ne_b10_b11_9 (ninS ne_b10_b11_10 (ninS ne_b10_b11_8 nin0)))))
    obtain ⟨_, T62, L62, X62, hQ62, st62⟩ := own_virtual X46 hx hZ hH hown (y := y_43) (z := y_43) Ex44 (w_282 hw) (w_283 hw) (own_nf hZ (w_285 hw)) (w_285 hw) (w_284 hw) (w_3 hw) (w_286 hw) (rm40 l Z hw b10 p2 p3 p4 p5 b11_6 k11_7 b11_2 k11_3 b11_4 k11_5 b11_0 k11_1 b1 b11_8 T41.heap n0 z10 Fl45 Fl47 Va48 g_b11_6 Fl49 ne_b10_b11_6 Va50 o11_45 g_b11_2 Fl51 ne_b10_b11_2 Va52 o11_49 (Ne.symm o11_44) g_b11_4 Fl53 ne_b10_b11_4 Va54 o11_40 o11_38 o11_39 g_b11_0 ne_b10_b11_0 Ex44 g_b10 Ex55 Ex56 Ex57 Ex58 Fl59 Fl60 Fl61) e46 (Ls := #[vi p1, vi p2, vi p3, vi p4, vi p5, vi p6, vr b1, vr b10, vi 1, vi 1, vi 2, un]) hml.symm (argsL := [(.int p2), (.int p3), (.int p4), (.int p5)]) (rest := []) (lenOf pd_24 rfl) (B at_114) (W := 0)
    obtain ⟨rfl, Nq62, K62, o62_0, o62_1, o62_2, o62_3, o62_4, o62_5, o62_6, o62_7, o62_8, o62_9, o62_10, o62_11, o62_12, o62_13, o62_14, o62_15, o62_16⟩ := hQ62
    have N62 := Fr.app N46 Nq62
    have s10 := K62.1
    have z11 := Nat.le_trans Z0 (Nat.le_trans (Nat.le_trans (Nat.le_trans (Nat.le_trans (Nat.le_trans (Nat.le_trans (Nat.le_trans (Nat.le_trans (Nat.le_trans (Nat.le_trans s0 s1) s2) s3) s4) s5) s6) s7) s8) s9) s10)
    obtain ⟨_, T63, L63, X63, hQ63, st63⟩ := own_virtual X62 hx hZ hH hown (y := y_43) (z := y_43) o62_8 (w_282 hw) (w_283 hw) (own_nf hZ (w_285 hw)) (w_285 hw) (w_284 hw) (w_3 hw) (w_286 hw) (rm42 l Z hw b10 p3 p4 p5 p2 b11_6 k11_7 b11_2 k11_3 b11_4 k11_5 b11_0 k11_1 b1 b11_8 T62.heap n0 z11 o62_14 o62_15 o62_1 g_b11_6 o62_11 ne_b10_b11_6 o62_3 o11_45 g_b11_2 o62_12 ne_b10_b11_2 o62_5 o11_49 (Ne.symm o11_44) g_b11_4 o62_10 ne_b10_b11_4 o62_7 o11_40 o11_38 o11_39 g_b11_0 ne_b10_b11_0 o62_8 g_b10 o62_0 o62_2 o62_4 o62_6 o62_9 o62_13 o62_16) rfl (Ls := #[vi p1, vi p2, vi p3, vi p4, vi p5, vi p6, vr b1, vr b10, vi 1, vi 1, vi 2, un]) hml.symm (argsL := [(.int p3), (.int p4), (.int p5), (.int p2)]) (rest := []) (lenOf pd_24 rfl) (B at_130) (W := 0)
    obtain ⟨rfl, Nq63, K63, o63_0, o63_1, o63_2, o63_3, o63_4, o63_5, o63_6, o63_7, o63_8, o63_9, o63_10, o63_11, o63_12, o63_13, o63_14, o63_15, o63_16⟩ := hQ63
    have N63 := Fr.app N62 Nq63
    have s11 := K63.1
    have z12 := Nat.le_trans Z0 (Nat.le_trans (Nat.le_trans (Nat.le_trans (Nat.le_trans (Nat.le_trans (Nat.le_trans (Nat.le_trans (Nat.le_trans (Nat.le_trans (Nat.le_trans (Nat.le_trans s0 s1) s2) s3) s4) s5) s6) s7) s8) s9) s10) s11)
    obtain ⟨_, T64, L64, X64, hQ64, st64⟩ := own_virtual X63 hx hZ hH hown (y := y_9) (z := y_9) o63_8 (w_83 hw) (w_84 hw) (own_nf hZ (w_86 hw)) (w_86 hw) (w_85 hw) (w_3 hw) (w_87 hw) (rm43 l Z hw b10 T63.heap n0 z12 o63_14) rfl (Ls := #[vi p1, vi p2, vi p3, vi p4, vi p5, vi p6, vr b1, vr b10, vi 1, vi 1, vi 2, un]) hml.symm (argsL := []) (rest := []) (lenOf pd_2 rfl) (B at_151) (W := 0)
    obtain ⟨rfl, Nq64, e64⟩ := hQ64
    have N64 := Fr.app N63 Nq64
    refine ⟨T64, _, _, _, (some (.int 1)), X64, nofun, by decide, by decide, ?_, fun fs hr => ?_⟩
    · show Q0 n0 _ T64.heap _
      rw [e64]
      subst ex43
      subst ex42
      exact ⟨rfl, N64⟩
    · refine sC X0 hx (B at_0) ?_
      refine st1 _ ?_
      refine XS.dup X1.here hx rfl (B at_3) rfl rfl ?_
      refine sC X1 hx (B at_4) ?_
      refine st2 _ ?_
      refine st5 _ ?_
      refine XS.dup X5.here hx rfl (B at_18) rfl rfl ?_
      refine sC X5 hx (B at_19) ?_
      refine st6 _ ?_
      refine st9 _ ?_
      refine XS.astore X9.here hx rfl (B at_33) rfl rfl (l' := #[vi p1, vi p2, vi p3, vi p4, vi p5, vi p6, vr b1, un, un, un, un, un]) rfl ?_
      refine st10 _ ?_
      refine XS.dup X10.here hx rfl (B at_38) rfl rfl ?_
      refine sB X10 hx (B at_39) rfl rfl ?_
      refine st11 _ ?_
      refine XS.astore X11.here hx rfl (B at_44) rfl rfl (l' := #[vi p1, vi p2, vi p3, vi p4, vi p5, vi p6, vr b1, vr b10, un, un, un, un]) rfl ?_
      refine sB X11 hx (B at_46) rfl rfl ?_
      refine st12 _ ?_
      refine XS.istore X12.here hx rfl (B at_51) rfl (l' := #[vi p1, vi p2, vi p3, vi p4, vi p5, vi p6, vr b1, vr b10, vi 1, un, un, un]) rfl ?_
      refine sJ X12 hx (B at_53) rfl ?_
      refine sC X12 hx (B at_55) ?_
      refine XS.iand X12.here hx rfl (B at_56) rfl ?_
      refine XS.ifNo X12.here hx rfl (B at_57) rfl ((if0 _ _).trans (feq cc1).1) ?_
      refine sC X12 hx (B at_60) ?_
      refine st13 _ ?_
      refine XS.dup X13.here hx rfl (B at_63) rfl rfl ?_
      refine sC X13 hx (B at_64) ?_
      refine sI X13 hx (B at_65) rfl ?_
      refine XS.sipush X13.here hx rfl (B at_66) ?_
      refine XS.iand X13.here hx rfl (B at_69) rfl ?_
      refine XS.i2c X13.here hx rfl (B at_70) rfl ?_
      refine st16 _ ?_
      refine XS.astore X16.here hx rfl (B at_72) rfl rfl (l' := #[vi p1, vi p2, vi p3, vi p4, vi p5, vi p6, vr b1, vr b10, vi 1, vr b13, un, un]) rfl ?_
      refine sB X16 hx (B at_74) rfl rfl ?_
      refine st17 _ ?_
      refine XS.dup X17.here hx rfl (B at_79) rfl rfl ?_
      refine sB X17 hx (B at_80) rfl rfl ?_
      refine st20 _ ?_
      refine st41 _ ?_
      refine XS.pop X41.here hx rfl (B at_88) rfl rfl ?_
      refine sB X41 hx (B at_89) rfl rfl ?_
      refine st46 _ ?_
      refine XS.istore X46.here hx rfl (B at_94) rfl (l' := #[vi p1, vi p2, vi p3, vi p4, vi p5, vi p6, vr b1, vr b10, vi 1, vi 1, un, un]) rfl ?_
      refine sI X46 hx (B at_96) rfl ?_
      refine sC X46 hx (B at_97) ?_
      refine XS.iand X46.here hx rfl (B at_98) rfl ?_
      show Steps p.tables e below (T46.setTop (mkF m 99 #[vi p1, vi p2, vi p3, vi p4, vi p5, vi p6, vr b1, vr b10, vi 1, vi 1, un, un] [(.int (p1 &&& (3 : Int32)))])) _
      rw [hk]
      refine XS.istore X46.here hx rfl (B at_99) rfl (l' := #[vi p1, vi p2, vi p3, vi p4, vi p5, vi p6, vr b1, vr b10, vi 1, vi 1, vi 2, un]) rfl ?_
      refine sJ X46 hx (B at_101) rfl ?_
      refine sC X46 hx (B at_103) ?_
      refine XS.icmpNo X46.here hx rfl (B at_104) rfl (flt (by decide : ¬ ((2 : Int32) < (1 : Int32)))).1 ?_
      refine sB X46 hx (B at_107) rfl rfl ?_
      refine sI X46 hx (B at_109) rfl ?_
      refine sI X46 hx (B at_110) rfl ?_
      refine sI X46 hx (B at_111) rfl ?_
      refine sJ X46 hx (B at_112) rfl ?_
      refine st62 _ ?_
      refine sJ X62 hx (B at_117) rfl ?_
      refine sC X62 hx (B at_119) ?_
      refine XS.icmpNo X62.here hx rfl (B at_120) rfl (flt (by decide : ¬ ((2 : Int32) < (2 : Int32)))).1 ?_
      refine sB X62 hx (B at_123) rfl rfl ?_
      refine sI X62 hx (B at_125) rfl ?_
      refine sI X62 hx (B at_126) rfl ?_
      refine sJ X62 hx (B at_127) rfl ?_
      refine sI X62 hx (B at_129) rfl ?_
      refine st63 _ ?_
      refine sJ X63 hx (B at_133) rfl ?_
      refine sC X63 hx (B at_135) ?_
      refine XS.icmpYes X63.here hx rfl (pc0 := 136) (pc' := 149) rfl (B at_136) rfl (tlt (by decide : (2 : Int32) < (3 : Int32))).1 (by decide) (by decide) ?_
      refine sB X63 hx (B at_149) rfl rfl ?_
      refine st64 _ ?_
      refine XS.istore X64.here hx rfl (B at_154) rfl (l' := #[vi p1, vi p2, vi p3, vi p4, vi p5, vi p6, vr b1, vr b10, vi 1, vi 1, vi 2, vi 0]) rfl ?_
      refine sJ X64 hx (B at_156) rfl ?_
      refine XS.ifNo X64.here hx rfl (B at_158) rfl ((if0 _ _).trans (feq (by decide : ¬ ((1 : Int32) = (0 : Int32)))).1) ?_
      refine sJ X64 hx (B at_161) rfl ?_
      refine XS.ifNo X64.here hx rfl (B at_163) rfl ((if0 _ _).trans (feq (by decide : ¬ ((1 : Int32) = (0 : Int32)))).1) ?_
      refine sJ X64 hx (B at_166) rfl ?_
      refine sJ X64 hx (B at_168) rfl ?_
      refine XS.ifYes X64.here hx rfl (pc0 := 170) (pc' := 177) rfl (B at_170) rfl ((if0 _ _).trans (feq (by decide : ¬ ((2 : Int32) = (0 : Int32)))).2) (by decide) (by decide) ?_
      refine sC X64 hx (B at_177) ?_
      refine XS.icmpNo X64.here hx rfl (B at_178) rfl (teq (by decide : (0 : Int32) = (0 : Int32))).2 ?_
      refine sC X64 hx (B at_181) ?_
      refine XS.goto X64.here hx rfl (pc0 := 182) (pc' := 186) rfl (B at_182) (by decide) (by decide) ?_
      exact retN X64 hx (t := .boolean) hret (by simp) (B at_186) hr
abbrev Rm44 : Room := rmk 0 0 0 0
def Q44 (Z : State) (a1 : Addr) (i2 i3 i4 i5 : Int32) (a6 : Addr) (ck7 : ClassId) (a8 : Addr) (ck9 : ClassId) (a10 : Addr) (ck11 : ClassId) (a12 : Addr) (ck13 : ClassId) (a14 a15 : Addr) (h0 : Heap) (n0 : Nat) (v : Option Value) (h : Heap) (L : List Loc) : Prop := v = none ∧ Fr n0 L ∧ Keep h0 h [a6, a8, a10, a12, a1] ∧ Exa Z h a6 "[I" ∧ Arv Z h a6 ck7 .int 1024 [(.int i3), (.int i4), (.int i2)] (.int 0) ∧ Exa Z h a8 "[I" ∧ Arv Z h a8 ck9 .int 1024 [(.int i4), (.int i5), (.int i3)] (.int 0) ∧ Exa Z h a10 "[I" ∧ Arv Z h a10 ck11 .int 1024 [(.int i5), (.int i2), (.int i4)] (.int 0) ∧ Exa Z h a12 "[I" ∧ Arv Z h a12 ck13 .int 1024 [(.int i2), (.int i3), (.int i5)] (.int 0) ∧ Exa Z h a1 "com/example/informal_search/informalsearch/index/PostingBuffer" ∧ Fld Z h a1 "com/example/informal_search/informalsearch/index/PostingBuffer" "bytes" "J" (.long 20480) ∧ Fld Z h a1 "com/example/informal_search/informalsearch/index/PostingBuffer" "countOf" "[I" (.ref a12) ∧ Fld Z h a1 "com/example/informal_search/informalsearch/index/PostingBuffer" "entityOf" "[I" (.ref a8) ∧ Fld Z h a1 "com/example/informal_search/informalsearch/index/PostingBuffer" "fieldOf" "[I" (.ref a10) ∧ Fld Z h a1 "com/example/informal_search/informalsearch/index/PostingBuffer" "literal" "[Z" (.ref a14) ∧ Fld Z h a1 "com/example/informal_search/informalsearch/index/PostingBuffer" "size" "I" (.int 3) ∧ Fld Z h a1 "com/example/informal_search/informalsearch/index/PostingBuffer" "termOf" "[I" (.ref a6) ∧ Fld Z h a1 "com/example/informal_search/informalsearch/index/PostingBuffer" "terms" "Lcom/example/informal_search/informalsearch/index/Numbering;" (.ref a15)
theorem rm44 (l : Launch) (Z : State) {a0 : Array Value} (hw : OW a0 Z) (a1 : Addr) (i2 i3 i4 i5 : Int32) (a6 : Addr) (ck7 : ClassId) (a8 : Addr) (ck9 : ClassId) (a10 : Addr) (ck11 : ClassId) (a12 : Addr) (ck13 : ClassId) (a14 a15 : Addr) (h0 : Heap) (n0 : Nat) (Z0 : n0 ≤ h0.size) (F_size_a1 : Fld Z h0 a1 "com/example/informal_search/informalsearch/index/PostingBuffer" "size" "I" (.int 2)) (F_termOf_a1 : Fld Z h0 a1 "com/example/informal_search/informalsearch/index/PostingBuffer" "termOf" "[I" (.ref a6)) (V_a6 : Arv Z h0 a6 ck7 .int 1024 [(.int i3), (.int i4)] (.int 0)) (g_a6 : n0 ≤ a6) (F_entityOf_a1 : Fld Z h0 a1 "com/example/informal_search/informalsearch/index/PostingBuffer" "entityOf" "[I" (.ref a8)) (ne_a1_a6 : a1 ≠ a6) (V_a8 : Arv Z h0 a8 ck9 .int 1024 [(.int i4), (.int i5)] (.int 0)) (ne_a8_a6 : a8 ≠ a6) (g_a8 : n0 ≤ a8) (F_fieldOf_a1 : Fld Z h0 a1 "com/example/informal_search/informalsearch/index/PostingBuffer" "fieldOf" "[I" (.ref a10)) (ne_a1_a8 : a1 ≠ a8) (V_a10 : Arv Z h0 a10 ck11 .int 1024 [(.int i5), (.int i2)] (.int 0)) (ne_a10_a6 : a10 ≠ a6) (ne_a10_a8 : a10 ≠ a8) (g_a10 : n0 ≤ a10) (F_countOf_a1 : Fld Z h0 a1 "com/example/informal_search/informalsearch/index/PostingBuffer" "countOf" "[I" (.ref a12)) (ne_a1_a10 : a1 ≠ a10) (V_a12 : Arv Z h0 a12 ck13 .int 1024 [(.int i2), (.int i3)] (.int 0)) (ne_a12_a6 : a12 ≠ a6) (ne_a12_a8 : a12 ≠ a8) (ne_a12_a10 : a12 ≠ a10) (g_a12 : n0 ≤ a12) (ne_a1_a12 : a1 ≠ a12) (E_a1 : Exa Z h0 a1 "com/example/informal_search/informalsearch/index/PostingBuffer") (g_a1 : n0 ≤ a1) (E_a6 : Exa Z h0 a6 "[I") (E_a8 : Exa Z h0 a8 "[I") (E_a10 : Exa Z h0 a10 "[I") (E_a12 : Exa Z h0 a12 "[I") (F_bytes_a1 : Fld Z h0 a1 "com/example/informal_search/informalsearch/index/PostingBuffer" "bytes" "J" (.long 20480)) (F_literal_a1 : Fld Z h0 a1 "com/example/informal_search/informalsearch/index/PostingBuffer" "literal" "[Z" (.ref a14)) (F_terms_a1 : Fld Z h0 a1 "com/example/informal_search/informalsearch/index/PostingBuffer" "terms" "Lcom/example/informal_search/informalsearch/index/Numbering;" (.ref a15)) :
    OwnMet l Z y_43 prog_42_method_3_code 5 none [] Rm44 #[(.ref a1), (.int i2), (.int i3), (.int i4), (.int i5)] h0 (Q44 Z a1 i2 i3 i4 i5 a6 ck7 a8 ck9 a10 ck11 a12 ck13 a14 a15 h0 n0) := by
  refine own_body (plainFor_of_name pn_6) (ef_d30fdd a1 i2 i3 i4 i5) ?_
  intro p e s m below meth c s₁ hx hby hml hown hnm hret hZ hH hnd X0 e0
  have N0 := Fr.nil n0
  have B := hbx hby
  obtain ⟨T1, X1, e1, st1⟩ := getF X0 hx hZ hown (host := "") (Or.inl (w_78 hw)) Via.refl e0 F_size_a1 (g := (mkF m 1 #[vr a1, vi i2, vi i3, vi i4, vi i5] [(.ref a1)])) rfl rfl (B d39_1)
  obtain ⟨T2, X2, e2, st2⟩ := getF X1 hx hZ hown (host := "") (Or.inl (w_70 hw)) Via.refl e1 F_termOf_a1 (g := (mkF m 5 #[vr a1, vi i2, vi i3, vi i4, vi i5] [(.ref a1), (.int 2)])) rfl rfl (B d39_5)
  obtain ⟨cl3, Ar3, q3, S3, M3, Hs3, G3⟩ := id V_a6
  obtain ⟨T4, X4, e4, st4⟩ := getF X2 hx hZ hown (host := "") (Or.inl (w_70 hw)) Via.refl e2 F_termOf_a1 (g := (mkF m 99 #[vr a1, vi i2, vi i3, vi i4, vi i5] [(.ref a1)])) rfl rfl (B d39_99)
  obtain ⟨T5, X5, e5, st5⟩ := getF X4 hx hZ hown (host := "") (Or.inl (w_78 hw)) Via.refl e4 F_size_a1 (g := (mkF m 103 #[vr a1, vi i2, vi i3, vi i4, vi i5] [(.ref a1), (.ref a6)])) rfl rfl (B d39_103)
  have Vp6 : Arv Z h0 a6 ck7 .int 1024 [(.int i3), (.int i4), (.int 0)] (.int 0) := V_a6.pad (pad_rep [(.int i3), (.int i4)] (.int 0) 1)
  obtain ⟨cl7, Ar7, q7, S7, M7, Hs7, G7⟩ := id Vp6
  have hin8 := inb_of (j := 2) S7 ⟨by decide, by decide⟩
  obtain ⟨T9, h9, X9, e9, W9, st9⟩ := stI X5 hx hZ e5 Ar7 (j := 2) hin8 (g := (mkF m 107 #[vr a1, vi i2, vi i3, vi i4, vi i5] [(.int i2), (.int 2), (.ref a6)])) rfl rfl (B d39_107)
  have s0 := (Keep.of_wr W9).1
  have N9 := Fr.snoc X9 N0 g_a6
  have Vs9 : Arv Z h9 a6 ck7 .int 1024 [(.int i3), (.int i4), (.int i2)] (.int 0) := Arv.set Ar7 q7 S7 M7 Hs7 G7 rfl W9 2 rfl (nl rfl)
  have Fl10 := (F_entityOf_a1.other W9 (Or.inl ne_a1_a6))
  obtain ⟨T11, X11, e11, st11⟩ := getF X9 hx hZ hown (host := "") (Or.inl (w_72 hw)) Via.refl e9 Fl10 (g := (mkF m 109 #[vr a1, vi i2, vi i3, vi i4, vi i5] [(.ref a1)])) rfl rfl (B d39_109)
  have Fl12 := (F_size_a1.other W9 (Or.inl ne_a1_a6))
  obtain ⟨T13, X13, e13, st13⟩ := getF X11 hx hZ hown (host := "") (Or.inl (w_78 hw)) Via.refl e11 Fl12 (g := (mkF m 113 #[vr a1, vi i2, vi i3, vi i4, vi i5] [(.ref a1), (.ref a8)])) rfl rfl (B d39_113)
  have Va14 := (V_a8.other W9 ne_a8_a6)
  have Vp15 : Arv Z h9 a8 ck9 .int 1024 [(.int i4), (.int i5), (.int 0)] (.int 0) := Va14.pad (pad_rep [(.int i4), (.int i5)] (.int 0) 1)
  obtain ⟨cl16, Ar16, q16, S16, M16, Hs16, G16⟩ := id Vp15
  have hin17 := inb_of (j := 2) S16 ⟨by decide, by decide⟩
  obtain ⟨T18, h18, X18, e18, W18, st18⟩ := stI X13 hx hZ e13 Ar16 (j := 2) hin17 (g := (mkF m 117 #[vr a1, vi i2, vi i3, vi i4, vi i5] [(.int i3), (.int 2), (.ref a8)])) rfl rfl (B d39_117)
  have s1 := (Keep.of_wr W18).1
  have N18 := Fr.snoc X18 N9 g_a8
  have Vs18 : Arv Z h18 a8 ck9 .int 1024 [(.int i4), (.int i5), (.int i3)] (.int 0) := Arv.set Ar16 q16 S16 M16 Hs16 G16 rfl W18 2 rfl (nl rfl)
  have Fl19 := ((F_fieldOf_a1.other W9 (Or.inl ne_a1_a6)).other W18 (Or.inl ne_a1_a8))
  obtain ⟨T20, X20, e20, st20⟩ := getF X18 hx hZ hown (host := "") (Or.inl (w_74 hw)) Via.refl e18 Fl19 (g := (mkF m 119 #[vr a1, vi i2, vi i3, vi i4, vi i5] [(.ref a1)])) rfl rfl (B d39_119)
  have Fl21 := (Fl12.other W18 (Or.inl ne_a1_a8))
  obtain ⟨T22, X22, e22, st22⟩ := getF X20 hx hZ hown (host := "") (Or.inl (w_78 hw)) Via.refl e20 Fl21 (g := (mkF m 123 #[vr a1, vi i2, vi i3, vi i4, vi i5] [(.ref a1), (.ref a10)])) rfl rfl (B d39_123)
  have Va23 := ((V_a10.other W9 ne_a10_a6).other W18 ne_a10_a8)
  have Vp24 : Arv Z h18 a10 ck11 .int 1024 [(.int i5), (.int i2), (.int 0)] (.int 0) := Va23.pad (pad_rep [(.int i5), (.int i2)] (.int 0) 1)
  obtain ⟨cl25, Ar25, q25, S25, M25, Hs25, G25⟩ := id Vp24
  have hin26 := inb_of (j := 2) S25 ⟨by decide, by decide⟩
  obtain ⟨T27, h27, X27, e27, W27, st27⟩ := stI X22 hx hZ e22 Ar25 (j := 2) hin26 (g := (mkF m 127 #[vr a1, vi i2, vi i3, vi i4, vi i5] [(.int i4), (.int 2), (.ref a10)])) rfl rfl (B d39_127)
  have s2 := (Keep.of_wr W27).1
  have N27 := Fr.snoc X27 N18 g_a10
  have Vs27 : Arv Z h27 a10 ck11 .int 1024 [(.int i5), (.int i2), (.int i4)] (.int 0) := Arv.set Ar25 q25 S25 M25 Hs25 G25 rfl W27 2 rfl (nl rfl)
  have Fl28 := (((F_countOf_a1.other W9 (Or.inl ne_a1_a6)).other W18 (Or.inl ne_a1_a8)).other W27 (Or.inl ne_a1_a10))
  obtain ⟨T29, X29, e29, st29⟩ := getF X27 hx hZ hown (host := "") (Or.inl (w_76 hw)) Via.refl e27 Fl28 (g := (mkF m 129 #[vr a1, vi i2, vi i3, vi i4, vi i5] [(.ref a1)])) rfl rfl (B d39_129)
  have Fl30 := (Fl21.other W27 (Or.inl ne_a1_a10))
  obtain ⟨T31, X31, e31, st31⟩ := getF X29 hx hZ hown (host := "") (Or.inl (w_78 hw)) Via.refl e29 Fl30 (g := (mkF m 133 #[vr a1, vi i2, vi i3, vi i4, vi i5] [(.ref a1), (.ref a12)])) rfl rfl (B d39_133)
  have Va32 := (((V_a12.other W9 ne_a12_a6).other W18 ne_a12_a8).other W27 ne_a12_a10)
  have Vp33 : Arv Z h27 a12 ck13 .int 1024 [(.int i2), (.int i3), (.int 0)] (.int 0) := Va32.pad (pad_rep [(.int i2), (.int i3)] (.int 0) 1)
  obtain ⟨cl34, Ar34, q34, S34, M34, Hs34, G34⟩ := id Vp33
  have hin35 := inb_of (j := 2) S34 ⟨by decide, by decide⟩
  obtain ⟨T36, h36, X36, e36, W36, st36⟩ := stI X31 hx hZ e31 Ar34 (j := 2) hin35 (g := (mkF m 138 #[vr a1, vi i2, vi i3, vi i4, vi i5] [(.int i5), (.int 2), (.ref a12)])) rfl rfl (B d39_138)
  have s3 := (Keep.of_wr W36).1
  have N36 := Fr.snoc X36 N27 g_a12
  have Vs36 : Arv Z h36 a12 ck13 .int 1024 [(.int i2), (.int i3), (.int i5)] (.int 0) := Arv.set Ar34 q34 S34 M34 Hs34 G34 rfl W36 2 rfl (nl rfl)
  have Fl37 := (Fl30.other W36 (Or.inl ne_a1_a12))
  obtain ⟨T38, X38, e38, st38⟩ := getF X36 hx hZ hown (host := "") (Or.inl (w_78 hw)) Via.refl e36 Fl37 (g := (mkF m 141 #[vr a1, vi i2, vi i3, vi i4, vi i5] [(.ref a1), (.ref a1)])) rfl rfl (B d39_141)
  have Ex39 := ((((E_a1.wr W9).wr W18).wr W27).wr W36)
  obtain ⟨T40, h40, X40, e40, W40, st40⟩ := putF X38 hx hZ hown (host := "") (Or.inl (w_78 hw)) Via.refl e38 Fl37 Ex39 (Or.inl (w_79 hw)) (w_2 hw) (ty := .int) (by decide) rfl rfl (g := (mkF m 146 #[vr a1, vi i2, vi i3, vi i4, vi i5] [(.int 3), (.ref a1)])) rfl rfl (B d39_146)
  have s4 := (Keep.of_wr W40).1
  have N40 := Fr.snoc X40 N36 g_a1
  have Fw40 : Fld Z h40 a1 "com/example/informal_search/informalsearch/index/PostingBuffer" "size" "I" (.int 3) := Fl37.same W40
  have Ex41 := (((((E_a6.wr W9).wr W18).wr W27).wr W36).wr W40)
  have Va42 := ((((Vs9.other W18 (Ne.symm ne_a8_a6)).other W27 (Ne.symm ne_a10_a6)).other W36 (Ne.symm ne_a12_a6)).other W40 (Ne.symm ne_a1_a6))
  have Ex43 := (((((E_a8.wr W9).wr W18).wr W27).wr W36).wr W40)
  have Va44 := (((Vs18.other W27 (Ne.symm ne_a10_a8)).other W36 (Ne.symm ne_a12_a8)).other W40 (Ne.symm ne_a1_a8))
  have Ex45 := (((((E_a10.wr W9).wr W18).wr W27).wr W36).wr W40)
  have Va46 := ((Vs27.other W36 (Ne.symm ne_a12_a10)).other W40 (Ne.symm ne_a1_a10))
  have Ex47 := (((((E_a12.wr W9).wr W18).wr W27).wr W36).wr W40)
  have Va48 := (Vs36.other W40 (Ne.symm ne_a1_a12))
  have Ex49 := (Ex39.wr W40)
  have Fl50 := (((((F_bytes_a1.other W9 (Or.inl ne_a1_a6)).other W18 (Or.inl ne_a1_a8)).other W27 (Or.inl ne_a1_a10)).other W36 (Or.inl ne_a1_a12)).other W40 (Or.inr (slot_ne (Or.inl (w_82 hw)) (Or.inl (w_79 hw)) (by decide) (t := .long) (t' := .int) (by decide) (by decide))))
  have Fl51 := ((Fl28.other W36 (Or.inl ne_a1_a12)).other W40 (Or.inr (slot_ne (Or.inl (w_77 hw)) (Or.inl (w_79 hw)) (by decide) (t := (.array .int)) (t' := .int) (by decide) (by decide))))
  have Fl52 := ((((Fl10.other W18 (Or.inl ne_a1_a8)).other W27 (Or.inl ne_a1_a10)).other W36 (Or.inl ne_a1_a12)).other W40 (Or.inr (slot_ne (Or.inl (w_73 hw)) (Or.inl (w_79 hw)) (by decide) (t := (.array .int)) (t' := .int) (by decide) (by decide))))
  have Fl53 := (((Fl19.other W27 (Or.inl ne_a1_a10)).other W36 (Or.inl ne_a1_a12)).other W40 (Or.inr (slot_ne (Or.inl (w_75 hw)) (Or.inl (w_79 hw)) (by decide) (t := (.array .int)) (t' := .int) (by decide) (by decide))))
  have Fl54 := (((((F_literal_a1.other W9 (Or.inl ne_a1_a6)).other W18 (Or.inl ne_a1_a8)).other W27 (Or.inl ne_a1_a10)).other W36 (Or.inl ne_a1_a12)).other W40 (Or.inr (slot_ne (Or.inr (w_11 hw)) (Or.inl (w_79 hw)) (by decide) (t := (.array .boolean)) (t' := .int) (by decide) (by decide))))
  have Fl55 := (((((F_termOf_a1.other W9 (Or.inl ne_a1_a6)).other W18 (Or.inl ne_a1_a8)).other W27 (Or.inl ne_a1_a10)).other W36 (Or.inl ne_a1_a12)).other W40 (Or.inr (slot_ne (Or.inl (w_71 hw)) (Or.inl (w_79 hw)) (by decide) (t := (.array .int)) (t' := .int) (by decide) (by decide))))
  have Fl56 := (((((F_terms_a1.other W9 (Or.inl ne_a1_a6)).other W18 (Or.inl ne_a1_a8)).other W27 (Or.inl ne_a1_a10)).other W36 (Or.inl ne_a1_a12)).other W40 (Or.inr (slot_ne (Or.inl (w_68 hw)) (Or.inl (w_79 hw)) (by decide) (t := (.object "com/example/informal_search/informalsearch/index/Numbering")) (t' := .int) (by decide) (by decide))))
  have Kp0 := (Keep.refl h0 [a6, a8, a10, a12, a1]).wr W9 own_m0
  have Kp1 := Kp0.wr W18 (Or.inl (List.mem_of_getElem? (i := 1) rfl))
  have Kp2 := Kp1.wr W27 (Or.inl (List.mem_of_getElem? (i := 2) rfl))
  have Kp3 := Kp2.wr W36 (Or.inl (List.mem_of_getElem? (i := 3) rfl))
  have Kp4 := Kp3.wr W40 (Or.inl (List.mem_of_getElem? (i := 4) rfl))
  refine ⟨T40, _, _, _, none, X40, (fun _ => rfl), by decide, by decide, ?_, fun fs hr => ?_⟩
  · rw [e40]
    exact ⟨rfl, N40, Kp4, Ex41, Va42, Ex43, Va44, Ex45, Va46, Ex47, Va48, Ex49, Fl50, Fl51, Fl52, Fl53, Fl54, Fw40, Fl55, Fl56⟩
  · refine sA X0 hx (B d39_0) rfl rfl ?_
    refine st1 _ ?_
    refine sA X1 hx (B d39_4) rfl rfl ?_
    refine st2 _ ?_
    refine X2.arraylength hx (by rw [e2]; exact Ar3.1) (State.isArrayOf_alike hZ.alike Ar3.2.1) (g := (mkF m 8 #[vr a1, vi i2, vi i3, vi i4, vi i5] [(.ref a6), (.int 2)])) rfl rfl (B d39_8) _ ?_
    show Steps p.tables e below (T2.setTop (mkF m 9 #[vr a1, vi i2, vi i3, vi i4, vi i5] [(.int cl3.slots.size.toInt32), (.int 2)])) _
    rw [len_of S3 M3]
    refine XS.icmpYes X2.here hx rfl (pc0 := 9) (pc' := 98) rfl (B d39_9) rfl (feq (by decide : ¬ ((2 : Int32) = (1024 : Int32)))).2 (by decide) (by decide) ?_
    refine sA X2 hx (B d39_98) rfl rfl ?_
    refine st4 _ ?_
    refine sA X4 hx (B d39_102) rfl rfl ?_
    refine st5 _ ?_
    refine sI X5 hx (B d39_106) rfl ?_
    refine st9 _ ?_
    refine sA X9 hx (B d39_108) rfl rfl ?_
    refine st11 _ ?_
    refine sA X11 hx (B d39_112) rfl rfl ?_
    refine st13 _ ?_
    refine sI X13 hx (B d39_116) rfl ?_
    refine st18 _ ?_
    refine sA X18 hx (B d39_118) rfl rfl ?_
    refine st20 _ ?_
    refine sA X20 hx (B d39_122) rfl rfl ?_
    refine st22 _ ?_
    refine sI X22 hx (B d39_126) rfl ?_
    refine st27 _ ?_
    refine sA X27 hx (B d39_128) rfl rfl ?_
    refine st29 _ ?_
    refine sA X29 hx (B d39_132) rfl rfl ?_
    refine st31 _ ?_
    refine sJ X31 hx (B d39_136) rfl ?_
    refine st36 _ ?_
    refine sA X36 hx (B d39_139) rfl rfl ?_
    refine XS.dup X36.here hx rfl (B d39_140) rfl rfl ?_
    refine st38 _ ?_
    refine sC X38 hx (B d39_144) ?_
    refine XS.iadd X38.here hx rfl (B d39_145) rfl ?_
    refine st40 _ ?_
    exact X40.returnOut hx hret (B d39_149) hr
abbrev Rm45 : Room := rmk 0 0 0 0
def Q45 (Z : State) (a1 : Addr) (h0 : Heap) (n0 : Nat) (v : Option Value) (h : Heap) (L : List Loc) : Prop := v = some (.int 0) ∧ Fr n0 L ∧ h = h0
theorem rm45 (l : Launch) (Z : State) {a0 : Array Value} (hw : OW a0 Z) (a1 : Addr) (h0 : Heap) (n0 : Nat) (Z0 : n0 ≤ h0.size) (F_size_a1 : Fld Z h0 a1 "com/example/informal_search/informalsearch/index/PostingBuffer" "size" "I" (.int 3)) :
    OwnMet l Z y_9 prog_42_method_5_code 1 (some .boolean) [] Rm45 #[(.ref a1)] h0 (Q45 Z a1 h0 n0) := by
  refine own_body (plainFor_of_name pn_6) (ef_26f21a a1) ?_
  intro p e s m below meth c s₁ hx hby hml hown hnm hret hZ hH hnd X0 e0
  have N0 := Fr.nil n0
  have B := hbx hby
  obtain ⟨T1, X1, e1, st1⟩ := getF X0 hx hZ hown (host := "") (Or.inl (w_78 hw)) Via.refl e0 F_size_a1 (g := (mkF m 1 #[vr a1] [(.ref a1)])) rfl rfl (B d10_1)
  refine ⟨T1, _, _, _, (some (.int 0)), X1, nofun, by decide, by decide, ?_, fun fs hr => ?_⟩
  · rw [e1]
    exact ⟨rfl, N0, rfl⟩
  · refine sA X0 hx (B d10_0) rfl rfl ?_
    refine st1 _ ?_
    refine XS.ifYes X1.here hx rfl (pc0 := 4) (pc' := 11) rfl (B d10_4) rfl ((if0 _ _).trans (feq (by decide : ¬ ((3 : Int32) = (0 : Int32)))).2) (by decide) (by decide) ?_
    refine sC X1 hx (B d10_11) ?_
    exact retN X1 hx (t := .boolean) hret (by simp) (B d10_12) hr
theorem rm0_3 (l : Launch) (Z : State) {a0 : Array Value} (hw : OW a0 Z) (ws : List Jvm.Cond) (p1 p2 p3 p4 p5 p6 : Int32) (sa1 sa2 sa3 : Addr) (sr4 : Value) (si5 : Int32) (sk9 sk11 skc : ClassId) (suc : List Value) (sbi : Addr) (sck : ClassId) (h0 : Heap) (n0 : Nat) (Z0 : n0 ≤ h0.size) (Od0 : Old Z n0 h0) (R_sr4 : sr4.isRef = true) (nc7 : ¬ (si5 = 0)) (S8_EMPTY_ELEMENTDATA : Sta Z Z.heap "java/util/ArrayList" "EMPTY_ELEMENTDATA" "[Ljava/lang/Object;" (.ref sa1)) (E_sa1 : Exa Z h0 sa1 "[Ljava/lang/Object;") (V_sa1 : Arv Z h0 sa1 sk9 (.object "java/lang/Object") (0 : Int32) [] .null) (S10_DEFAULTCAPACITY_EMPTY_ELEMENTDATA : Sta Z Z.heap "java/util/ArrayList" "DEFAULTCAPACITY_EMPTY_ELEMENTDATA" "[Ljava/lang/Object;" (.ref sa2)) (E_sa2 : Exa Z h0 sa2 "[Ljava/lang/Object;") (V_sa2 : Arv Z h0 sa2 sk11 (.object "java/lang/Object") (0 : Int32) [] .null) (S12_cache : Sta Z Z.heap "java/lang/Integer$IntegerCache" "cache" "[Ljava/lang/Integer;" (.ref sa3)) (E_sa3 : Exa Z h0 sa3 "[Ljava/lang/Integer;") (S14_SIOOBE_FORMATTER : Sta Z Z.heap "jdk/internal/util/Preconditions" "SIOOBE_FORMATTER" "Ljava/util/function/BiFunction;" sr4) (S15_COMPACT_STRINGS : Sta Z Z.heap "java/lang/String" "COMPACT_STRINGS" "Z" (.int si5)) (S16_high : Sta Z Z.heap "java/lang/Integer$IntegerCache" "high" "I" (.int 127)) (V_sa3 : Arv Z h0 sa3 skc (.object "java/lang/Integer") 256 suc .null) (rd_c : suc.getD (128 : Int32).toNatClampNeg .null = .ref sbi) (E_sbi : Exa Z h0 sbi "java/lang/Integer") (F_sbi : Fld Z h0 sbi "java/lang/Integer" "value" "I" (.int 0)) (Site : OwnSite Z sck) (hk : (p1 &&& (3 : Int32)) = (3 : Int32)) :
    OwnMet l Z x code maxLocals ret ws room_1 #[(.int p1), (.int p2), (.int p3), (.int p4), (.int p5), (.int p6)] h0 (Q0 n0) := by
  refine own_body (plainFor_of_name pn_12) (ef0 p1 p2 p3 p4 p5 p6) ?_
  intro p e s m below meth c s₁ hx hby hml hown hnm hret hZ hH hnd X0 e0
  have N0 := Fr.nil n0
  have B := hbx hby
  obtain ⟨T1, h1, k1, X1, e1, E1, A1, B1, st1⟩ := newPE (aty := .boolean) X0 hx hZ (w_0 hw) e0 (g := (mkF m 1 #[vi p1, vi p2, vi p3, vi p4, vi p5, vi p6, un, un, un, un, un, un] [(.int 2)])) rfl (B at_1) rfl (by decide) (cap := 2) (by decide) (by decide) (by decide) (by decide) (ad := "[Z") (by decide)
  obtain ⟨b1, g1⟩ : ∃ z, z = h0.size := ⟨_, rfl⟩
  rw [← g1] at A1 B1 st1
  have s0 := E1.1
  have Vn1 : Arv Z h1 b1 k1 .boolean 2 [(.int 0), (.int 0)] (.int 0) := (Arv.new A1 (by decide)).pad (pad_rep [] (.int 0) 2)
  have z1 := Nat.le_trans Z0 s0
  obtain ⟨T2, L2, X2, e2, N2, st2⟩ := tn1 l Z hw p1 p2 p3 p4 p5 p6 b1 h1 n0 z1 hx hby hml hown hZ X1 e1 N0 (by decide) (by decide)
  obtain ⟨cl3, Ar3, q3, S3, M3, Hs3, G3⟩ := id Vn1
  have hin4 := inb_of (j := 0) S3 ⟨by decide, by decide⟩
  obtain ⟨T5, h5, X5, e5, W5, st5⟩ := stZ X2 hx hZ e2 Ar3 (j := 0) hin4 (g := (mkF m 17 #[vi p1, vi p2, vi p3, vi p4, vi p5, vi p6, un, un, un, un, un, un] [(.int (if (p6 &&& (1 : Int32)) = 0 then (0 : Int32) else (1 : Int32))), (.int 0), (.ref b1), (.ref b1)])) rfl rfl (B at_17)
  have s1 := (Keep.of_wr W5).1
  have g_b1 : n0 ≤ b1 := Nat.le_trans Z0 (Nat.le_of_eq g1.symm)
  have N5 := Fr.snoc X5 N2 g_b1
  have Vs5 : Arv Z h5 b1 k1 .boolean 2 [(.int (nar .boolean (if (p6 &&& (1 : Int32)) = 0 then (0 : Int32) else (1 : Int32)))), (.int 0)] (.int 0) := Arv.set Ar3 q3 S3 M3 Hs3 G3 (fits_nar_bool _) W5 0 rfl (nl rfl)
  have z2 := Nat.le_trans Z0 (Nat.le_trans s0 s1)
  obtain ⟨T6, L6, X6, e6, N6, st6⟩ := tn2 l Z hw p1 p2 p3 p4 p5 p6 b1 h5 n0 z2 hx hby hml hown hZ X5 e5 N5 (by decide) (by decide)
  obtain ⟨cl7, Ar7, q7, S7, M7, Hs7, G7⟩ := id Vs5
  have hin8 := inb_of (j := 1) S7 ⟨by decide, by decide⟩
  obtain ⟨T9, h9, X9, e9, W9, st9⟩ := stZ X6 hx hZ e6 Ar7 (j := 1) hin8 (g := (mkF m 32 #[vi p1, vi p2, vi p3, vi p4, vi p5, vi p6, un, un, un, un, un, un] [(.int (if (p6 &&& (2 : Int32)) = 0 then (0 : Int32) else (1 : Int32))), (.int 1), (.ref b1), (.ref b1)])) rfl rfl (B at_32)
  have s2 := (Keep.of_wr W9).1
  have N9 := Fr.snoc X9 N6 g_b1
  have Vs9 : Arv Z h9 b1 k1 .boolean 2 [(.int (nar .boolean (if (p6 &&& (1 : Int32)) = 0 then (0 : Int32) else (1 : Int32)))), (.int (nar .boolean (if (p6 &&& (2 : Int32)) = 0 then (0 : Int32) else (1 : Int32))))] (.int 0) := Arv.set Ar7 q7 S7 M7 Hs7 G7 (fits_nar_bool _) W9 1 rfl (nl rfl)
  obtain ⟨T10, h10, X10, e10, E10, A10, D10, -, st10⟩ := newO X9 hx hZ hown (w_1 hw) (w_2 hw) (w_3 hw) e9 (g := (mkF m 35 #[vi p1, vi p2, vi p3, vi p4, vi p5, vi p6, vr b1, un, un, un, un, un] [])) rfl (B at_35) (by decide) (by decide)
  obtain ⟨b10, g10⟩ : ∃ z, z = h9.size := ⟨_, rfl⟩
  rw [← g10] at A10 D10 st10
  have s3 := E10.1
  have Fn10_literal : Fld Z h10 b10 "com/example/informal_search/informalsearch/index/PostingBuffer" "literal" "[Z" .null := D10 (Or.inr (w_11 hw)) (ty := (.array .boolean)) (by decide)
  have Fn10_terms : Fld Z h10 b10 "com/example/informal_search/informalsearch/index/PostingBuffer" "terms" "Lcom/example/informal_search/informalsearch/index/Numbering;" .null := D10 (Or.inl (w_68 hw)) (ty := (.object "com/example/informal_search/informalsearch/index/Numbering")) (by decide)
  have Fn10_termOf : Fld Z h10 b10 "com/example/informal_search/informalsearch/index/PostingBuffer" "termOf" "[I" .null := D10 (Or.inl (w_71 hw)) (ty := (.array .int)) (by decide)
  have Fn10_entityOf : Fld Z h10 b10 "com/example/informal_search/informalsearch/index/PostingBuffer" "entityOf" "[I" .null := D10 (Or.inl (w_73 hw)) (ty := (.array .int)) (by decide)
  have Fn10_fieldOf : Fld Z h10 b10 "com/example/informal_search/informalsearch/index/PostingBuffer" "fieldOf" "[I" .null := D10 (Or.inl (w_75 hw)) (ty := (.array .int)) (by decide)
  have Fn10_countOf : Fld Z h10 b10 "com/example/informal_search/informalsearch/index/PostingBuffer" "countOf" "[I" .null := D10 (Or.inl (w_77 hw)) (ty := (.array .int)) (by decide)
  have Fn10_size : Fld Z h10 b10 "com/example/informal_search/informalsearch/index/PostingBuffer" "size" "I" (.int 0) := D10 (Or.inl (w_79 hw)) (ty := .int) (by decide)
  have Fn10_bytes : Fld Z h10 b10 "com/example/informal_search/informalsearch/index/PostingBuffer" "bytes" "J" (.long 0) := D10 (Or.inl (w_82 hw)) (ty := .long) (by decide)
  have z3 := Nat.le_trans Z0 (Nat.le_trans (Nat.le_trans s0 s1) s2)
  have g_b10 : n0 ≤ b10 := Nat.le_trans z3 (Nat.le_of_eq g10.symm)
  have Od1 := Od0.ext E1
  have Od2 := Od1.wr W5 g_b1
  have Od3 := Od2.wr W9 g_b1
  have Od4 := Od3.ext E10
  have z4 := Nat.le_trans Z0 (Nat.le_trans (Nat.le_trans (Nat.le_trans s0 s1) s2) s3)
  obtain ⟨_, T11, L11, X11, hQ11, st11⟩ := own_special X10 hx hZ hH hown (y := y_8) (a := b10) (w_4 hw) (w_5 hw) (w_3 hw) (w_6 hw) (rm10 l Z hw b10 b1 sa2 h10 n0 z4 Fn10_literal A10 g_b10 S10_DEFAULTCAPACITY_EMPTY_ELEMENTDATA Od4 Fn10_terms Fn10_termOf Fn10_entityOf Fn10_fieldOf Fn10_countOf Fn10_size Fn10_bytes) e10 (Ls := #[vi p1, vi p2, vi p3, vi p4, vi p5, vi p6, vr b1, un, un, un, un, un]) hml.symm (argsL := [(.ref b1)]) (rest := [(.ref b10)]) (lenOf pd_1 rfl) (B at_41) (W := 1)
  obtain ⟨b11_0, k11_1, b11_2, k11_3, b11_4, k11_5, b11_6, k11_7, b11_8, b11_9, b11_10, rfl, Nq11, K11, o11_0, o11_1, o11_2, o11_3, o11_4, o11_5, o11_6, o11_7, o11_8, o11_9, o11_10, o11_11, o11_12, o11_13, o11_14, o11_15, o11_16, o11_17, o11_18, o11_19, o11_20, o11_21, o11_22, o11_23, o11_24, o11_25, o11_26, o11_27, o11_28, o11_29, o11_30, o11_31, o11_32, o11_33, o11_34, o11_35, o11_36, o11_37, o11_38, o11_39, o11_40, o11_41, o11_42, o11_43, o11_44, o11_45, o11_46, o11_47, o11_48, o11_49, o11_50, o11_51, o11_52, o11_53, o11_54, o11_55, o11_56, o11_57, o11_58⟩ := hQ11
  have N11 := Fr.app N9 Nq11
  have s4 := K11.1
  have z5 := Nat.le_trans Z0 (Nat.le_trans (Nat.le_trans (Nat.le_trans (Nat.le_trans s0 s1) s2) s3) s4)
  obtain ⟨_, T12, L12, X12, hQ12, st12⟩ := own_virtual X11 hx hZ hH hown (y := y_9) (z := y_9) o11_0 (w_83 hw) (w_84 hw) (own_nf hZ (w_86 hw)) (w_86 hw) (w_85 hw) (w_3 hw) (w_87 hw) (rm11 l Z hw b10 T11.heap n0 z5 o11_6) rfl (Ls := #[vi p1, vi p2, vi p3, vi p4, vi p5, vi p6, vr b1, vr b10, un, un, un, un]) hml.symm (argsL := []) (rest := []) (lenOf pd_2 rfl) (B at_48) (W := 0)
  obtain ⟨rfl, Nq12, e12⟩ := hQ12
  have N12 := Fr.app N11 Nq12
  by_cases cc1 : (p6 &&& (4 : Int32)) = 0
  · obtain ⟨_, T13, L13, X13, hQ13, st13⟩ := own_virtual X12 hx hZ hH hown (y := y_9) (z := y_9) o11_0 (w_83 hw) (w_84 hw) (own_nf hZ (w_86 hw)) (w_86 hw) (w_85 hw) (w_3 hw) (w_87 hw) (rm11 l Z hw b10 T11.heap n0 z5 o11_6) e12 (Ls := #[vi p1, vi p2, vi p3, vi p4, vi p5, vi p6, vr b1, vr b10, vi 1, un, un, un]) hml.symm (argsL := []) (rest := []) (lenOf pd_2 rfl) (B at_91) (W := 0)
    obtain ⟨rfl, Nq13, e13⟩ := hQ13
    have N13 := Fr.app N12 Nq13
    have g_b11_6 : n0 ≤ b11_6 := Nat.le_trans z4 o11_18
    have ne_b10_b11_6 := Nat.ne_of_lt (Nat.lt_of_lt_of_le Fn10_terms.lt o11_18)
    have g_b11_2 : n0 ≤ b11_2 := Nat.le_trans z4 o11_12
    have ne_b10_b11_2 := Nat.ne_of_lt (Nat.lt_of_lt_of_le Fn10_terms.lt o11_12)
    have g_b11_4 : n0 ≤ b11_4 := Nat.le_trans z4 o11_15
    have ne_b10_b11_4 := Nat.ne_of_lt (Nat.lt_of_lt_of_le Fn10_terms.lt o11_15)
    have g_b11_0 : n0 ≤ b11_0 := Nat.le_trans z4 o11_9
    have ne_b10_b11_0 := Nat.ne_of_lt (Nat.lt_of_lt_of_le Fn10_terms.lt o11_9)
    obtain ⟨_, T14, L14, X14, hQ14, st14⟩ := own_virtual X13 hx hZ hH hown (y := y_43) (z := y_43) o11_0 (w_282 hw) (w_283 hw) (own_nf hZ (w_285 hw)) (w_285 hw) (w_284 hw) (w_3 hw) (w_286 hw) (rm40 l Z hw b10 p2 p3 p4 p5 b11_6 k11_7 b11_2 k11_3 b11_4 k11_5 b11_0 k11_1 b1 b11_8 T11.heap n0 z5 o11_6 o11_7 o11_20 g_b11_6 o11_3 ne_b10_b11_6 o11_14 o11_45 g_b11_2 o11_4 ne_b10_b11_2 o11_17 o11_49 (Ne.symm o11_44) g_b11_4 o11_2 ne_b10_b11_4 o11_11 o11_40 o11_38 o11_39 g_b11_0 ne_b10_b11_0 o11_0 g_b10 o11_19 o11_13 o11_16 o11_10 o11_1 o11_5 o11_8) e13 (Ls := #[vi p1, vi p2, vi p3, vi p4, vi p5, vi p6, vr b1, vr b10, vi 1, vi 1, vi 3, un]) hml.symm (argsL := [(.int p2), (.int p3), (.int p4), (.int p5)]) (rest := []) (lenOf pd_24 rfl) (B at_114) (W := 0)
    obtain ⟨rfl, Nq14, K14, o14_0, o14_1, o14_2, o14_3, o14_4, o14_5, o14_6, o14_7, o14_8, o14_9, o14_10, o14_11, o14_12, o14_13, o14_14, o14_15, o14_16⟩ := hQ14
    have N14 := Fr.app N13 Nq14
    have s5 := K14.1
    have z6 := Nat.le_trans Z0 (Nat.le_trans (Nat.le_trans (Nat.le_trans (Nat.le_trans (Nat.le_trans s0 s1) s2) s3) s4) s5)
    obtain ⟨_, T15, L15, X15, hQ15, st15⟩ := own_virtual X14 hx hZ hH hown (y := y_43) (z := y_43) o14_8 (w_282 hw) (w_283 hw) (own_nf hZ (w_285 hw)) (w_285 hw) (w_284 hw) (w_3 hw) (w_286 hw) (rm42 l Z hw b10 p3 p4 p5 p2 b11_6 k11_7 b11_2 k11_3 b11_4 k11_5 b11_0 k11_1 b1 b11_8 T14.heap n0 z6 o14_14 o14_15 o14_1 g_b11_6 o14_11 ne_b10_b11_6 o14_3 o11_45 g_b11_2 o14_12 ne_b10_b11_2 o14_5 o11_49 (Ne.symm o11_44) g_b11_4 o14_10 ne_b10_b11_4 o14_7 o11_40 o11_38 o11_39 g_b11_0 ne_b10_b11_0 o14_8 g_b10 o14_0 o14_2 o14_4 o14_6 o14_9 o14_13 o14_16) rfl (Ls := #[vi p1, vi p2, vi p3, vi p4, vi p5, vi p6, vr b1, vr b10, vi 1, vi 1, vi 3, un]) hml.symm (argsL := [(.int p3), (.int p4), (.int p5), (.int p2)]) (rest := []) (lenOf pd_24 rfl) (B at_130) (W := 0)
    obtain ⟨rfl, Nq15, K15, o15_0, o15_1, o15_2, o15_3, o15_4, o15_5, o15_6, o15_7, o15_8, o15_9, o15_10, o15_11, o15_12, o15_13, o15_14, o15_15, o15_16⟩ := hQ15
    have N15 := Fr.app N14 Nq15
    have s6 := K15.1
    have z7 := Nat.le_trans Z0 (Nat.le_trans (Nat.le_trans (Nat.le_trans (Nat.le_trans (Nat.le_trans (Nat.le_trans s0 s1) s2) s3) s4) s5) s6)
    obtain ⟨_, T16, L16, X16, hQ16, st16⟩ := own_virtual X15 hx hZ hH hown (y := y_43) (z := y_43) o15_8 (w_282 hw) (w_283 hw) (own_nf hZ (w_285 hw)) (w_285 hw) (w_284 hw) (w_3 hw) (w_286 hw) (rm44 l Z hw b10 p5 p2 p3 p4 b11_6 k11_7 b11_2 k11_3 b11_4 k11_5 b11_0 k11_1 b1 b11_8 T15.heap n0 z7 o15_14 o15_15 o15_1 g_b11_6 o15_11 ne_b10_b11_6 o15_3 o11_45 g_b11_2 o15_12 ne_b10_b11_2 o15_5 o11_49 (Ne.symm o11_44) g_b11_4 o15_10 ne_b10_b11_4 o15_7 o11_40 o11_38 o11_39 g_b11_0 ne_b10_b11_0 o15_8 g_b10 o15_0 o15_2 o15_4 o15_6 o15_9 o15_13 o15_16) rfl (Ls := #[vi p1, vi p2, vi p3, vi p4, vi p5, vi p6, vr b1, vr b10, vi 1, vi 1, vi 3, un]) hml.symm (argsL := [(.int p5), (.int p2), (.int p3), (.int p4)]) (rest := []) (lenOf pd_24 rfl) (B at_146) (W := 0)
    obtain ⟨rfl, Nq16, K16, o16_0, o16_1, o16_2, o16_3, o16_4, o16_5, o16_6, o16_7, o16_8, o16_9, o16_10, o16_11, o16_12, o16_13, o16_14, o16_15, o16_16⟩ := hQ16
    have N16 := Fr.app N15 Nq16
    have s7 := K16.1
    have z8 := Nat.le_trans Z0 (Nat.le_trans (Nat.le_trans (Nat.le_trans (Nat.le_trans (Nat.le_trans (Nat.le_trans (Nat.le_trans s0 s1) s2) s3) s4) s5) s6) s7)
    obtain ⟨_, T17, L17, X17, hQ17, st17⟩ := own_virtual X16 hx hZ hH hown (y := y_9) (z := y_9) o16_8 (w_83 hw) (w_84 hw) (own_nf hZ (w_86 hw)) (w_86 hw) (w_85 hw) (w_3 hw) (w_87 hw) (rm45 l Z hw b10 T16.heap n0 z8 o16_14) rfl (Ls := #[vi p1, vi p2, vi p3, vi p4, vi p5, vi p6, vr b1, vr b10, vi 1, vi 1, vi 3, un]) hml.symm (argsL := []) (rest := []) (lenOf pd_2 rfl) (B at_151) (W := 0)
    obtain ⟨rfl, Nq17, e17⟩ := hQ17
    have N17 := Fr.app N16 Nq17
    refine ⟨T17, _, _, _, (some (.int 1)), X17, nofun, by decide, by decide, ?_, fun fs hr => ?_⟩
    · show Q0 n0 _ T17.heap _
      rw [e17]
      exact ⟨rfl, N17⟩
    · refine sC X0 hx (B at_0) ?_
      refine st1 _ ?_
      refine XS.dup X1.here hx rfl (B at_3) rfl rfl ?_
      refine sC X1 hx (B at_4) ?_
      refine st2 _ ?_
      refine st5 _ ?_
      refine XS.dup X5.here hx rfl (B at_18) rfl rfl ?_
      refine sC X5 hx (B at_19) ?_
      refine st6 _ ?_
      refine st9 _ ?_
      refine XS.astore X9.here hx rfl (B at_33) rfl rfl (l' := #[vi p1, vi p2, vi p3, vi p4, vi p5, vi p6, vr b1, un, un, un, un, un]) rfl ?_
      refine st10 _ ?_
      refine XS.dup X10.here hx rfl (B at_38) rfl rfl ?_
      refine sB X10 hx (B at_39) rfl rfl ?_
      refine st11 _ ?_
      refine XS.astore X11.here hx rfl (B at_44) rfl rfl (l' := #[vi p1, vi p2, vi p3, vi p4, vi p5, vi p6, vr b1, vr b10, un, un, un, un]) rfl ?_
      refine sB X11 hx (B at_46) rfl rfl ?_
      refine st12 _ ?_
      refine XS.istore X12.here hx rfl (B at_51) rfl (l' := #[vi p1, vi p2, vi p3, vi p4, vi p5, vi p6, vr b1, vr b10, vi 1, un, un, un]) rfl ?_
      refine sJ X12 hx (B at_53) rfl ?_
      refine sC X12 hx (B at_55) ?_
      refine XS.iand X12.here hx rfl (B at_56) rfl ?_
      refine XS.ifYes X12.here hx rfl (pc0 := 57) (pc' := 89) rfl (B at_57) rfl ((if0 _ _).trans (teq cc1).1) (by decide) (by decide) ?_
      refine sB X12 hx (B at_89) rfl rfl ?_
      refine st13 _ ?_
      refine XS.istore X13.here hx rfl (B at_94) rfl (l' := #[vi p1, vi p2, vi p3, vi p4, vi p5, vi p6, vr b1, vr b10, vi 1, vi 1, un, un]) rfl ?_
      refine sI X13 hx (B at_96) rfl ?_
      refine sC X13 hx (B at_97) ?_
      refine XS.iand X13.here hx rfl (B at_98) rfl ?_
      show Steps p.tables e below (T13.setTop (mkF m 99 #[vi p1, vi p2, vi p3, vi p4, vi p5, vi p6, vr b1, vr b10, vi 1, vi 1, un, un] [(.int (p1 &&& (3 : Int32)))])) _
      rw [hk]
      refine XS.istore X13.here hx rfl (B at_99) rfl (l' := #[vi p1, vi p2, vi p3, vi p4, vi p5, vi p6, vr b1, vr b10, vi 1, vi 1, vi 3, un]) rfl ?_
      refine sJ X13 hx (B at_101) rfl ?_
      refine sC X13 hx (B at_103) ?_
      refine XS.icmpNo X13.here hx rfl (B at_104) rfl (flt (by decide : ¬ ((3 : Int32) < (1 : Int32)))).1 ?_
      refine sB X13 hx (B at_107) rfl rfl ?_
      refine sI X13 hx (B at_109) rfl ?_
      refine sI X13 hx (B at_110) rfl ?_
      refine sI X13 hx (B at_111) rfl ?_
      refine sJ X13 hx (B at_112) rfl ?_
      refine st14 _ ?_
      refine sJ X14 hx (B at_117) rfl ?_
      refine sC X14 hx (B at_119) ?_
      refine XS.icmpNo X14.here hx rfl (B at_120) rfl (flt (by decide : ¬ ((3 : Int32) < (2 : Int32)))).1 ?_
      refine sB X14 hx (B at_123) rfl rfl ?_
      refine sI X14 hx (B at_125) rfl ?_
      refine sI X14 hx (B at_126) rfl ?_
      refine sJ X14 hx (B at_127) rfl ?_
      refine sI X14 hx (B at_129) rfl ?_
      refine st15 _ ?_
      refine sJ X15 hx (B at_133) rfl ?_
      refine sC X15 hx (B at_135) ?_
      refine XS.icmpNo X15.here hx rfl (B at_136) rfl (flt (by decide : ¬ ((3 : Int32) < (3 : Int32)))).1 ?_
      refine sB X15 hx (B at_139) rfl rfl ?_
      refine sJ X15 hx (B at_141) rfl ?_
      refine sI X15 hx (B at_143) rfl ?_
      refine sI X15 hx (B at_144) rfl ?_
      refine sI X15 hx (B at_145) rfl ?_
      refine st16 _ ?_
      refine sB X16 hx (B at_149) rfl rfl ?_
      refine st17 _ ?_
      refine XS.istore X17.here hx rfl (B at_154) rfl (l' := #[vi p1, vi p2, vi p3, vi p4, vi p5, vi p6, vr b1, vr b10, vi 1, vi 1, vi 3, vi 0]) rfl ?_
      refine sJ X17 hx (B at_156) rfl ?_
      refine XS.ifNo X17.here hx rfl (B at_158) rfl ((if0 _ _).trans (feq (by decide : ¬ ((1 : Int32) = (0 : Int32)))).1) ?_
      refine sJ X17 hx (B at_161) rfl ?_
      refine XS.ifNo X17.here hx rfl (B at_163) rfl ((if0 _ _).trans (feq (by decide : ¬ ((1 : Int32) = (0 : Int32)))).1) ?_
      refine sJ X17 hx (B at_166) rfl ?_
      refine sJ X17 hx (B at_168) rfl ?_
      refine XS.ifYes X17.here hx rfl (pc0 := 170) (pc' := 177) rfl (B at_170) rfl ((if0 _ _).trans (feq (by decide : ¬ ((3 : Int32) = (0 : Int32)))).2) (by decide) (by decide) ?_
      refine sC X17 hx (B at_177) ?_
      refine XS.icmpNo X17.here hx rfl (B at_178) rfl (teq (by decide : (0 : Int32) = (0 : Int32))).2 ?_
      refine sC X17 hx (B at_181) ?_
      refine XS.goto X17.here hx rfl (pc0 := 182) (pc' := 186) rfl (B at_182) (by decide) (by decide) ?_
      exact retN X17 hx (t := .boolean) hret (by simp) (B at_186) hr
  · obtain ⟨T13, h13, k13, X13, e13, E13, A13, B13, st13⟩ := newPE (aty := .char) X12 hx hZ (w_88 hw) e12 (g := (mkF m 61 #[vi p1, vi p2, vi p3, vi p4, vi p5, vi p6, vr b1, vr b10, vi 1, un, un, un] [(.int 1)])) rfl (B at_61) rfl (by decide) (cap := 1) (by decide) (by decide) (by decide) (by decide) (ad := "[C") (by decide)
    obtain ⟨b13, g13⟩ : ∃ z, z = T11.heap.size := ⟨_, rfl⟩
    rw [← g13] at A13 B13 st13
    have s5 := E13.1
    have Vn13 : Arv Z h13 b13 k13 .char 1 [(.int 0)] (.int 0) := (Arv.new A13 (by decide)).pad (pad_rep [] (.int 0) 1)
    obtain ⟨cl14, Ar14, q14, S14, M14, Hs14, G14⟩ := id Vn13
    have hin15 := inb_of (j := 0) S14 ⟨by decide, by decide⟩
    obtain ⟨T16, h16, X16, e16, W16, st16⟩ := stC X13 hx hZ e13 Ar14 (j := 0) hin15 (g := (mkF m 71 #[vi p1, vi p2, vi p3, vi p4, vi p5, vi p6, vr b1, vr b10, vi 1, un, un, un] [(.int ((p2 &&& (255 : Int32)).toUInt32.toUInt16.toUInt32.toInt32)), (.int 0), (.ref b13), (.ref b13)])) rfl rfl (B at_71)
    have s6 := (Keep.of_wr W16).1
    have g_b13 : n0 ≤ b13 := Nat.le_trans z5 (Nat.le_of_eq g13.symm)
    have N16 := Fr.snoc X16 N12 g_b13
    have Vs16 : Arv Z h16 b13 k13 .char 1 [(.int (nar .char ((p2 &&& (255 : Int32)).toUInt32.toUInt16.toUInt32.toInt32)))] (.int 0) := Arv.set Ar14 q14 S14 M14 Hs14 G14 (fits_nar_char _) W16 0 rfl (nl rfl)
    obtain ⟨T17, h17, X17, e17, E17, A17, D17, -, st17⟩ := newO X16 hx hZ hown (w_89 hw) (w_90 hw) (w_91 hw) e16 (g := (mkF m 76 #[vi p1, vi p2, vi p3, vi p4, vi p5, vi p6, vr b1, vr b10, vi 1, vr b13, un, un] [(.ref b10)])) rfl (B at_76) (by decide) (by decide)
    obtain ⟨b17, g17⟩ : ∃ z, z = h16.size := ⟨_, rfl⟩
    rw [← g17] at A17 D17 st17
    have s7 := E17.1
    have Fn17_coder : Fld Z h17 b17 jS "coder" "B" (.int 0) := D17 (Or.inr (w_113 hw)) (ty := .byte) (by decide)
    have Fn17_value : Fld Z h17 b17 jS "value" "[B" .null := D17 (Or.inr (w_115 hw)) (ty := (.array .byte)) (by decide)
    have Fn17_hash : Fld Z h17 b17 jS "hash" "I" (.int 0) := D17 (Or.inl (w_149 hw)) (ty := .int) (by decide)
    have Fn17_hashIsZero : Fld Z h17 b17 jS "hashIsZero" "Z" (.int 0) := D17 (Or.inl (w_151 hw)) (ty := .boolean) (by decide)
    have Va18 := (Vs16.ext E17)
    have Od5 := Od4.keep K11 (allS g_b10 all0)
    have Od6 := Od5.ext E13
    have Od7 := Od6.wr W16 g_b13
    have Od8 := Od7.ext E17
    have cd19 : ¬ (255 < (nar .char ((p2 &&& (255 : Int32)).toUInt32.toUInt16.toUInt32.toInt32))) := (by rw [Int32.lt_iff_toInt_lt]; have : ((255 : Int32)).toInt = 255 := (by decide); have := rng32 (nar .char ((p2 &&& (255 : Int32)).toUInt32.toUInt16.toUInt32.toInt32)); have := rng32 ((p2 &&& (255 : Int32)).toUInt32.toUInt16.toUInt32.toInt32); have := rng32 (p2 &&& (255 : Int32)); have := rng32 p2; have := own_mask p2 (255 : Int32) 8 (by decide) (by decide) 256 (by decide); have := c_i2c (p2 &&& (255 : Int32)); have := own_c_nar_char ((p2 &&& (255 : Int32)).toUInt32.toUInt16.toUInt32.toInt32); omega)
    have z7 := Nat.le_trans Z0 (Nat.le_trans (Nat.le_trans (Nat.le_trans (Nat.le_trans (Nat.le_trans (Nat.le_trans s0 s1) s2) s3) s4) s5) s6)
    have g_b17 : n0 ≤ b17 := Nat.le_trans z7 (Nat.le_of_eq g17.symm)
    have z8 := Nat.le_trans Z0 (Nat.le_trans (Nat.le_trans (Nat.le_trans (Nat.le_trans (Nat.le_trans (Nat.le_trans (Nat.le_trans s0 s1) s2) s3) s4) s5) s6) s7)
    obtain ⟨_, T20, L20, X20, hQ20, st20⟩ := own_special X17 hx hZ hH hown (y := y_14) (a := b17) (w_92 hw) (w_93 hw) (w_91 hw) (w_94 hw) (rm16 l Z hw b17 b13 (nar .char ((p2 &&& (255 : Int32)).toUInt32.toUInt16.toUInt32.toInt32)) k13 si5 h17 n0 z8 Va18 S15_COMPACT_STRINGS Od8 nc7 cd19 Fn17_coder A17 g_b17 Fn17_value Fn17_hash Fn17_hashIsZero) e17 (Ls := #[vi p1, vi p2, vi p3, vi p4, vi p5, vi p6, vr b1, vr b10, vi 1, vr b13, un, un]) hml.symm (argsL := [(.ref b13)]) (rest := [(.ref b17), (.ref b10)]) (lenOf pd_7 rfl) (B at_82) (W := 2)
    obtain ⟨b20_0, k20_1, rfl, Nq20, K20, o20_0, o20_1, o20_2, o20_3, o20_4, o20_5, o20_6, o20_7⟩ := hQ20
    have N20 := Fr.app N16 Nq20
    have s8 := K20.1
    have Ex21 := ((((o11_0.ext E13).wr W16).ext E17).keep K20)
    have ne_b10_b13 := Nat.ne_of_lt (Nat.lt_of_lt_of_le o11_8.lt (Nat.le_of_eq g13.symm))
    have ne_b10_b17 := Nat.ne_of_lt (Nat.lt_of_lt_of_le (Nat.lt_of_lt_of_le o11_8.lt (Nat.le_trans s5 s6)) (Nat.le_of_eq g17.symm))
    have Fl22 := ((((o11_8.ext E13).other W16 (Or.inl ne_b10_b13)).ext E17).keep K20 (ninS ne_b10_b17 nin0))
    have Ex23 := ((((o11_22.ext E13).wr W16).ext E17).keep K20)
    have ne_b11_8_b13 := Nat.ne_of_lt (Nat.lt_of_lt_of_le o11_25.lt (Nat.le_of_eq g13.symm))
    have ne_b11_8_b17 := Nat.ne_of_lt (Nat.lt_of_lt_of_le (Nat.lt_of_lt_of_le o11_25.lt (Nat.le_trans s5 s6)) (Nat.le_of_eq g17.symm))
    have Fl24 := ((((o11_24.ext E13).other W16 (Or.inl ne_b11_8_b13)).ext E17).keep K20 (ninS ne_b11_8_b17 nin0))
    have Ex25 := ((((o11_27.ext E13).wr W16).ext E17).keep K20)
    have Od9 := Od8.keep K20 (allS g_b17 all0)
    have ne_b11_9_b13 := Nat.ne_of_lt (Nat.lt_of_lt_of_le o11_32.lt (Nat.le_of_eq g13.symm))
    have ne_b11_9_b17 := Nat.ne_of_lt (Nat.lt_of_lt_of_le (Nat.lt_of_lt_of_le o11_32.lt (Nat.le_trans s5 s6)) (Nat.le_of_eq g17.symm))
    have Fl26 := ((((o11_30.ext E13).other W16 (Or.inl ne_b11_9_b13)).ext E17).keep K20 (ninS ne_b11_9_b17 nin0))
    have Fl27 := ((((o11_32.ext E13).other W16 (Or.inl ne_b11_9_b13)).ext E17).keep K20 (ninS ne_b11_9_b17 nin0))
    have Fl28 := ((((o11_31.ext E13).other W16 (Or.inl ne_b11_9_b13)).ext E17).keep K20 (ninS ne_b11_9_b17 nin0))
    have g_b11_9 : n0 ≤ b11_9 := Nat.le_trans z4 o11_26
    have Fl29 := ((((o11_28.ext E13).other W16 (Or.inl ne_b11_9_b13)).ext E17).keep K20 (ninS ne_b11_9_b17 nin0))
    have Fl30 := ((((o11_29.ext E13).other W16 (Or.inl ne_b11_9_b13)).ext E17).keep K20 (ninS ne_b11_9_b17 nin0))
    have Fl31 := ((((o11_25.ext E13).other W16 (Or.inl ne_b11_8_b13)).ext E17).keep K20 (ninS ne_b11_8_b17 nin0))
    have Ex32 := ((((o11_34.ext E13).wr W16).ext E17).keep K20)
    have ne_b11_10_b13 := Nat.ne_of_lt (Nat.lt_of_lt_of_le o11_37.lt (Nat.le_of_eq g13.symm))
    have ne_b11_10_b17 := Nat.ne_of_lt (Nat.lt_of_lt_of_le (Nat.lt_of_lt_of_le o11_37.lt (Nat.le_trans s5 s6)) (Nat.le_of_eq g17.symm))
    have Fl33 := ((((o11_35.ext E13).other W16 (Or.inl ne_b11_10_b13)).ext E17).keep K20 (ninS ne_b11_10_b17 nin0))
    have g_b11_10 : n0 ≤ b11_10 := Nat.le_trans z4 o11_33
    have Fl34 := ((((o11_36.ext E13).other W16 (Or.inl ne_b11_10_b13)).ext E17).keep K20 (ninS ne_b11_10_b17 nin0))
    have Fl35 := ((((o11_37.ext E13).other W16 (Or.inl ne_b11_10_b13)).ext E17).keep K20 (ninS ne_b11_10_b17 nin0))
    have ne_sa2_b1 := Nat.ne_of_lt (Nat.lt_of_lt_of_le V_sa2.lt (Nat.le_of_eq g1.symm))
    have ne_sa2_b10 := Nat.ne_of_lt (Nat.lt_of_lt_of_le (Nat.lt_of_lt_of_le V_sa2.lt (Nat.le_trans (Nat.le_trans s0 s1) s2)) (Nat.le_of_eq g10.symm))
    have ne_sa2_b13 := Nat.ne_of_lt (Nat.lt_of_lt_of_le (Nat.lt_of_lt_of_le V_sa2.lt (Nat.le_trans (Nat.le_trans (Nat.le_trans (Nat.le_trans s0 s1) s2) s3) s4)) (Nat.le_of_eq g13.symm))
    have ne_sa2_b17 := Nat.ne_of_lt (Nat.lt_of_lt_of_le (Nat.lt_of_lt_of_le V_sa2.lt (Nat.le_trans (Nat.le_trans (Nat.le_trans (Nat.le_trans (Nat.le_trans (Nat.le_trans s0 s1) s2) s3) s4) s5) s6)) (Nat.le_of_eq g17.symm))
    have Va36 := (((((((((V_sa2.ext E1).other W5 ne_sa2_b1).other W9 ne_sa2_b1).ext E10).keep K11 (ninS ne_sa2_b10 nin0)).ext E13).other W16 ne_sa2_b13).ext E17).keep K20 (ninS ne_sa2_b17 nin0))
    have ne_sa2_b11_9 := Nat.ne_of_lt (Nat.lt_of_lt_of_le (Nat.lt_of_lt_of_le V_sa2.lt (Nat.le_trans (Nat.le_trans (Nat.le_trans s0 s1) s2) s3)) o11_26)
    have ne_sa2_b11_10 := Nat.ne_of_lt (Nat.lt_of_lt_of_le (Nat.lt_of_lt_of_le V_sa2.lt (Nat.le_trans (Nat.le_trans (Nat.le_trans s0 s1) s2) s3)) o11_33)
    have Fl37 := ((((o11_23.ext E13).other W16 (Or.inl ne_b11_8_b13)).ext E17).keep K20 (ninS ne_b11_8_b17 nin0))
    have ne_b17_b20_0 := Nat.ne_of_lt (Nat.lt_of_lt_of_le Fn17_value.lt o20_5)
    have ne_b11_9_b20_0 := Nat.ne_of_lt (Nat.lt_of_lt_of_le (Nat.lt_of_lt_of_le o11_32.lt (Nat.le_trans (Nat.le_trans s5 s6) s7)) o20_5)
    have ne_b11_10_b20_0 := Nat.ne_of_lt (Nat.lt_of_lt_of_le (Nat.lt_of_lt_of_le o11_37.lt (Nat.le_trans (Nat.le_trans s5 s6) s7)) o20_5)
    have g_b11_8 : n0 ≤ b11_8 := Nat.le_trans z4 o11_21
    have ne_sa3_b1 := Nat.ne_of_lt (Nat.lt_of_lt_of_le V_sa3.lt (Nat.le_of_eq g1.symm))
    have ne_sa3_b10 := Nat.ne_of_lt (Nat.lt_of_lt_of_le (Nat.lt_of_lt_of_le V_sa3.lt (Nat.le_trans (Nat.le_trans s0 s1) s2)) (Nat.le_of_eq g10.symm))
    have ne_sa3_b13 := Nat.ne_of_lt (Nat.lt_of_lt_of_le (Nat.lt_of_lt_of_le V_sa3.lt (Nat.le_trans (Nat.le_trans (Nat.le_trans (Nat.le_trans s0 s1) s2) s3) s4)) (Nat.le_of_eq g13.symm))
    have ne_sa3_b17 := Nat.ne_of_lt (Nat.lt_of_lt_of_le (Nat.lt_of_lt_of_le V_sa3.lt (Nat.le_trans (Nat.le_trans (Nat.le_trans (Nat.le_trans (Nat.le_trans (Nat.le_trans s0 s1) s2) s3) s4) s5) s6)) (Nat.le_of_eq g17.symm))
    have Va38 := (((((((((V_sa3.ext E1).other W5 ne_sa3_b1).other W9 ne_sa3_b1).ext E10).keep K11 (ninS ne_sa3_b10 nin0)).ext E13).other W16 ne_sa3_b13).ext E17).keep K20 (ninS ne_sa3_b17 nin0))
    have ne_sa3_b11_9 := Nat.ne_of_lt (Nat.lt_of_lt_of_le (Nat.lt_of_lt_of_le V_sa3.lt (Nat.le_trans (Nat.le_trans (Nat.le_trans s0 s1) s2) s3)) o11_26)
    have ne_sa3_b11_10 := Nat.ne_of_lt (Nat.lt_of_lt_of_le (Nat.lt_of_lt_of_le V_sa3.lt (Nat.le_trans (Nat.le_trans (Nat.le_trans s0 s1) s2) s3)) o11_33)
    have ne_sa3_b11_8 := Nat.ne_of_lt (Nat.lt_of_lt_of_le (Nat.lt_of_lt_of_le V_sa3.lt (Nat.le_trans (Nat.le_trans (Nat.le_trans s0 s1) s2) s3)) o11_21)
    have Ex39 := (((((((((E_sbi.ext E1).wr W5).wr W9).ext E10).keep K11).ext E13).wr W16).ext E17).keep K20)
    have ne_sbi_b1 := Nat.ne_of_lt (Nat.lt_of_lt_of_le F_sbi.lt (Nat.le_of_eq g1.symm))
    have ne_sbi_b10 := Nat.ne_of_lt (Nat.lt_of_lt_of_le (Nat.lt_of_lt_of_le F_sbi.lt (Nat.le_trans (Nat.le_trans s0 s1) s2)) (Nat.le_of_eq g10.symm))
    have ne_sbi_b13 := Nat.ne_of_lt (Nat.lt_of_lt_of_le (Nat.lt_of_lt_of_le F_sbi.lt (Nat.le_trans (Nat.le_trans (Nat.le_trans (Nat.le_trans s0 s1) s2) s3) s4)) (Nat.le_of_eq g13.symm))
    have ne_sbi_b17 := Nat.ne_of_lt (Nat.lt_of_lt_of_le (Nat.lt_of_lt_of_le F_sbi.lt (Nat.le_trans (Nat.le_trans (Nat.le_trans (Nat.le_trans (Nat.le_trans (Nat.le_trans s0 s1) s2) s3) s4) s5) s6)) (Nat.le_of_eq g17.symm))
    have Fl40 := (((((((((F_sbi.ext E1).other W5 (Or.inl ne_sbi_b1)).other W9 (Or.inl ne_sbi_b1)).ext E10).keep K11 (ninS ne_sbi_b10 nin0)).ext E13).other W16 (Or.inl ne_sbi_b13)).ext E17).keep K20 (ninS ne_sbi_b17 nin0))
    have ne_sbi_b11_9 := Nat.ne_of_lt (Nat.lt_of_lt_of_le (Nat.lt_of_lt_of_le F_sbi.lt (Nat.le_trans (Nat.le_trans (Nat.le_trans s0 s1) s2) s3)) o11_26)
    have ne_sbi_b11_10 := Nat.ne_of_lt (Nat.lt_of_lt_of_le (Nat.lt_of_lt_of_le F_sbi.lt (Nat.le_trans (Nat.le_trans (Nat.le_trans s0 s1) s2) s3)) o11_33)
    have ne_sbi_b11_8 := Nat.ne_of_lt (Nat.lt_of_lt_of_le (Nat.lt_of_lt_of_le F_sbi.lt (Nat.le_trans (Nat.le_trans (Nat.le_trans s0 s1) s2) s3)) o11_21)
    have z9 := Nat.le_trans Z0 (Nat.le_trans (Nat.le_trans (Nat.le_trans (Nat.le_trans (Nat.le_trans (Nat.le_trans (Nat.le_trans (Nat.le_trans s0 s1) s2) s3) s4) s5) s6) s7) s8)
    obtain ⟨_, T41, L41, X41, hQ41, st41⟩ := own_virtual X20 hx hZ hH hown (y := y_42) (z := y_42) Ex21 (w_116 hw) (w_117 hw) (own_nf hZ (w_119 hw)) (w_119 hw) (w_118 hw) (w_3 hw) (w_120 hw) (rm39 l Z hw b10 b17 b11_8 b11_9 sck si5 b20_0 (nar .byte ((nar .char ((p2 &&& (255 : Int32)).toUInt32.toUInt16.toUInt32.toInt32)).toInt8.toInt32)) k20_1 b11_10 sa2 sk11 sa3 suc skc sbi T20.heap n0 z9 Fl22 Ex23 Fl24 Site Ex25 o20_0 o20_2 o20_3 S15_COMPACT_STRINGS Od9 nc7 o20_1 o20_4 o20_7 g_b17 Fl26 ne_b11_9_b17 Fl27 Fl28 g_b11_9 Fl29 Fl30 Fl31 ne_b11_8_b17 o11_56 Ex32 Fl33 ne_b11_10_b17 (Ne.symm o11_58) g_b11_10 Fl34 Fl35 Va36 ne_sa2_b17 ne_sa2_b11_9 ne_sa2_b11_10 S10_DEFAULTCAPACITY_EMPTY_ELEMENTDATA Fl37 o11_57 (Ne.symm ne_b17_b20_0) (Ne.symm ne_b11_9_b20_0) (Ne.symm ne_b11_10_b20_0) g_b11_8 S16_high S12_cache Va38 ne_sa3_b17 ne_sa3_b11_9 ne_sa3_b11_10 ne_sa3_b11_8 rd_c Ex39 Fl40 ne_sbi_b17 ne_sbi_b11_9 ne_sbi_b11_10 ne_sbi_b11_8) rfl (Ls := #[vi p1, vi p2, vi p3, vi p4, vi p5, vi p6, vr b1, vr b10, vi 1, vr b13, un, un]) hml.symm (argsL := [(.ref b17)]) (rest := []) (lenOf pd_23 rfl) (B at_85) (W := 0)
    obtain ⟨b41_0, k41_1, u41_2, b41_3, k41_4, rfl, Nq41, K41, o41_0, o41_1, o41_2, o41_3, o41_4, o41_5, o41_6, o41_7, o41_8, o41_9, o41_10, o41_11, o41_12, o41_13, o41_14, o41_15, o41_16, o41_17, o41_18, o41_19, o41_20, o41_21, o41_22, o41_23, o41_24, o41_25, o41_26, o41_27⟩ := hQ41
    have N41 := Fr.app N20 Nq41
    have s9 := K41.1
    obtain ⟨x42, ex42⟩ : ∃ z, z = (if ((nar .byte ((nar .char ((p2 &&& (255 : Int32)).toUInt32.toUInt16.toUInt32.toInt32)).toInt8.toInt32)) &&& (255 : Int32)) = 0 then (0 : Int32) else ((nar .byte ((nar .char ((p2 &&& (255 : Int32)).toUInt32.toUInt16.toUInt32.toInt32)).toInt8.toInt32)) &&& (255 : Int32))) := ⟨_, rfl⟩
    have o41_2' : Fld Z T41.heap b17 jS "hash" "I" (.int x42) := by rw [ex42]; exact o41_2
    obtain ⟨x43, ex43⟩ : ∃ z, z = (if ((nar .byte ((nar .char ((p2 &&& (255 : Int32)).toUInt32.toUInt16.toUInt32.toInt32)).toInt8.toInt32)) &&& (255 : Int32)) = 0 then (1 : Int32) else (0 : Int32)) := ⟨_, rfl⟩
    have o41_3' : Fld Z T41.heap b17 jS "hashIsZero" "Z" (.int x43) := by rw [ex43]; exact o41_3
    have Ex44 := (Ex21.keep K41)
    have ne_b10_b11_9 := Nat.ne_of_lt (Nat.lt_of_lt_of_le Fn10_terms.lt o11_26)
    have ne_b10_b11_10 := Nat.ne_of_lt (Nat.lt_of_lt_of_le Fn10_terms.lt o11_33)
    have ne_b10_b11_8 := Nat.ne_of_lt (Nat.lt_of_lt_of_le Fn10_terms.lt o11_21)
    have Fl45 := (((((o11_6.ext E13).other W16 (Or.inl ne_b10_b13)).ext E17).keep K20 (ninS ne_b10_b17 nin0)).keep K41 (ninS ne_b10_b17 (ninS ne_b10_b11_9 (ninS ne_b10_b11_10 (ninS ne_b10_b11_8 nin0)))))
    have z10 := Nat.le_trans Z0 (Nat.le_trans (Nat.le_trans (Nat.le_trans (Nat.le_trans (Nat.le_trans (Nat.le_trans (Nat.le_trans (Nat.le_trans (Nat.le_trans s0 s1) s2) s3) s4) s5) s6) s7) s8) s9)
    obtain ⟨_, T46, L46, X46, hQ46, st46⟩ := own_virtual X41 hx hZ hH hown (y := y_9) (z := y_9) Ex44 (w_83 hw) (w_84 hw) (own_nf hZ (w_86 hw)) (w_86 hw) (w_85 hw) (w_3 hw) (w_87 hw) (rm11 l Z hw b10 T41.heap n0 z10 Fl45) rfl (Ls := #[vi p1, vi p2, vi p3, vi p4, vi p5, vi p6, vr b1, vr b10, vi 1, vr b13, un, un]) hml.symm (argsL := []) (rest := []) (lenOf pd_2 rfl) (B at_91) (W := 0)
    obtain ⟨rfl, Nq46, e46⟩ := hQ46
    have N46 := Fr.app N41 Nq46
    have Fl47 := (((((o11_7.ext E13).other W16 (Or.inl ne_b10_b13)).ext E17).keep K20 (ninS ne_b10_b17 nin0)).keep K41 (ninS ne_b10_b17 (ninS ne_b10_b11_9 (ninS ne_b10_b11_10 (ninS ne_b10_b11_8 nin0)))))
    have ne_b11_6_b13 := Nat.ne_of_lt (Nat.lt_of_lt_of_le o11_20.lt (Nat.le_of_eq g13.symm))
    have ne_b11_6_b17 := Nat.ne_of_lt (Nat.lt_of_lt_of_le (Nat.lt_of_lt_of_le o11_20.lt (Nat.le_trans s5 s6)) (Nat.le_of_eq g17.symm))
    have Va48 := (((((o11_20.ext E13).other W16 ne_b11_6_b13).ext E17).keep K20 (ninS ne_b11_6_b17 nin0)).keep K41 (ninS ne_b11_6_b17 (ninS o11_54 (ninS o11_55 (ninS o11_53 nin0)))))
    have g_b11_6 : n0 ≤ b11_6 := Nat.le_trans z4 o11_18
    have Fl49 := (((((o11_3.ext E13).other W16 (Or.inl ne_b10_b13)).ext E17).keep K20 (ninS ne_b10_b17 nin0)).keep K41 (ninS ne_b10_b17 (ninS ne_b10_b11_9 (ninS ne_b10_b11_10 (ninS ne_b10_b11_8 nin0)))))
    have ne_b10_b11_6 := Nat.ne_of_lt (Nat.lt_of_lt_of_le Fn10_terms.lt o11_18)
    have ne_b11_2_b13 := Nat.ne_of_lt (Nat.lt_of_lt_of_le o11_14.lt (Nat.le_of_eq g13.symm))
    have ne_b11_2_b17 := Nat.ne_of_lt (Nat.lt_of_lt_of_le (Nat.lt_of_lt_of_le o11_14.lt (Nat.le_trans s5 s6)) (Nat.le_of_eq g17.symm))
    have Va50 := (((((o11_14.ext E13).other W16 ne_b11_2_b13).ext E17).keep K20 (ninS ne_b11_2_b17 nin0)).keep K41 (ninS ne_b11_2_b17 (ninS o11_47 (ninS o11_48 (ninS o11_46 nin0)))))
    have g_b11_2 : n0 ≤ b11_2 := Nat.le_trans z4 o11_12
    have Fl51 := (((((o11_4.ext E13).other W16 (Or.inl ne_b10_b13)).ext E17).keep K20 (ninS ne_b10_b17 nin0)).keep K41 (ninS ne_b10_b17 (ninS ne_b10_b11_9 (ninS ne_b10_b11_10 (ninS ne_b10_b11_8 nin0)))))
    have ne_b10_b11_2 := Nat.ne_of_lt (Nat.lt_of_lt_of_le Fn10_terms.lt o11_12)
    have ne_b11_4_b13 := Nat.ne_of_lt (Nat.lt_of_lt_of_le o11_17.lt (Nat.le_of_eq g13.symm))
    have ne_b11_4_b17 := Nat.ne_of_lt (Nat.lt_of_lt_of_le (Nat.lt_of_lt_of_le o11_17.lt (Nat.le_trans s5 s6)) (Nat.le_of_eq g17.symm))
    have Va52 := (((((o11_17.ext E13).other W16 ne_b11_4_b13).ext E17).keep K20 (ninS ne_b11_4_b17 nin0)).keep K41 (ninS ne_b11_4_b17 (ninS o11_51 (ninS o11_52 (ninS o11_50 nin0)))))
    have g_b11_4 : n0 ≤ b11_4 := Nat.le_trans z4 o11_15
    have Fl53 := (((((o11_2.ext E13).other W16 (Or.inl ne_b10_b13)).ext E17).keep K20 (ninS ne_b10_b17 nin0)).keep K41 (ninS ne_b10_b17 (ninS ne_b10_b11_9 (ninS ne_b10_b11_10 (ninS ne_b10_b11_8 nin0)))))
    have ne_b10_b11_4 := Nat.ne_of_lt (Nat.lt_of_lt_of_le Fn10_terms.lt o11_15)
    have ne_b11_0_b13 := Nat.ne_of_lt (Nat.lt_of_lt_of_le o11_11.lt (Nat.le_of_eq g13.symm))
    have ne_b11_0_b17 := Nat.ne_of_lt (Nat.lt_of_lt_of_le (Nat.lt_of_lt_of_le o11_11.lt (Nat.le_trans s5 s6)) (Nat.le_of_eq g17.symm))
    have Va54 := (((((o11_11.ext E13).other W16 ne_b11_0_b13).ext E17).keep K20 (ninS ne_b11_0_b17 nin0)).keep K41 (ninS ne_b11_0_b17 (ninS o11_42 (ninS o11_43 (ninS o11_41 nin0)))))
    have g_b11_0 : n0 ≤ b11_0 := Nat.le_trans z4 o11_9
    have ne_b10_b11_0 := Nat.ne_of_lt (Nat.lt_of_lt_of_le Fn10_terms.lt o11_9)
    have Ex55 := (((((o11_19.ext E13).wr W16).ext E17).keep K20).keep K41)
    have Ex56 := (((((o11_13.ext E13).wr W16).ext E17).keep K20).keep K41)
    have Ex57 := (((((o11_16.ext E13).wr W16).ext E17).keep K20).keep K41)
    have Ex58 := (((((o11_10.ext E13).wr W16).ext E17).keep K20).keep K41)
    have Fl59 := (((((o11_1.ext E13).other W16 (Or.inl ne_b10_b13)).ext E17).keep K20 (ninS ne_b10_b17 nin0)).keep K41 (ninS ne_b10_b17 (ninS ne_b10_b11_9 (ninS ne_b10_b11_10 (ninS ne_b10_b11_8 nin0)))))
    have Fl60 := (((((o11_5.ext E13).other W16 (Or.inl ne_b10_b13)).ext E17).keep K20 (ninS ne_b10_b17 nin0)).keep K41 (ninS ne_b10_b17 (ninS ne_b10_b11_9 (ninS ne_b10_b11_10 (ninS ne_b10_b11_8 nin0)))))
    have Fl61 := (Fl22.keep K41 (ninS ne_b10_b17 (ninS ne_b10_b11_9 (ninS ne_b10_b11_10 (ninS ne_b10_b11_8 nin0)))))
    obtain ⟨_, T62, L62, X62, hQ62, st62⟩ := own_virtual X46 hx hZ hH hown (y := y_43) (z := y_43) Ex44 (w_282 hw) (w_283 hw) (own_nf hZ (w_285 hw)) (w_285 hw) (w_284 hw) (w_3 hw) (w_286 hw) (rm40 l Z hw b10 p2 p3 p4 p5 b11_6 k11_7 b11_2 k11_3 b11_4 k11_5 b11_0 k11_1 b1 b11_8 T41.heap n0 z10 Fl45 Fl47 Va48 g_b11_6 Fl49 ne_b10_b11_6 Va50 o11_45 g_b11_2 Fl51 ne_b10_b11_2 Va52 o11_49 (Ne.symm o11_44) g_b11_4 Fl53 ne_b10_b11_4 Va54 o11_40 o11_38 o11_39 g_b11_0 ne_b10_b11_0 Ex44 g_b10 Ex55 Ex56 Ex57 Ex58 Fl59 Fl60 Fl61) e46 (Ls := #[vi p1, vi p2, vi p3, vi p4, vi p5, vi p6, vr b1, vr b10, vi 1, vi 1, vi 3, un]) hml.symm (argsL := [(.int p2), (.int p3), (.int p4), (.int p5)]) (rest := []) (lenOf pd_24 rfl) (B at_114) (W := 0)
    obtain ⟨rfl, Nq62, K62, o62_0, o62_1, o62_2, o62_3, o62_4, o62_5, o62_6, o62_7, o62_8, o62_9, o62_10, o62_11, o62_12, o62_13, o62_14, o62_15, o62_16⟩ := hQ62
    have N62 := Fr.app N46 Nq62
    have s10 := K62.1
    have z11 := Nat.le_trans Z0 (Nat.le_trans (Nat.le_trans (Nat.le_trans (Nat.le_trans (Nat.le_trans (Nat.le_trans (Nat.le_trans (Nat.le_trans (Nat.le_trans (Nat.le_trans s0 s1) s2) s3) s4) s5) s6) s7) s8) s9) s10)
    obtain ⟨_, T63, L63, X63, hQ63, st63⟩ := own_virtual X62 hx hZ hH hown (y := y_43) (z := y_43) o62_8 (w_282 hw) (w_283 hw) (own_nf hZ (w_285 hw)) (w_285 hw) (w_284 hw) (w_3 hw) (w_286 hw) (rm42 l Z hw b10 p3 p4 p5 p2 b11_6 k11_7 b11_2 k11_3 b11_4 k11_5 b11_0 k11_1 b1 b11_8 T62.heap n0 z11 o62_14 o62_15 o62_1 g_b11_6 o62_11 ne_b10_b11_6 o62_3 o11_45 g_b11_2 o62_12 ne_b10_b11_2 o62_5 o11_49 (Ne.symm o11_44) g_b11_4 o62_10 ne_b10_b11_4 o62_7 o11_40 o11_38 o11_39 g_b11_0 ne_b10_b11_0 o62_8 g_b10 o62_0 o62_2 o62_4 o62_6 o62_9 o62_13 o62_16) rfl (Ls := #[vi p1, vi p2, vi p3, vi p4, vi p5, vi p6, vr b1, vr b10, vi 1, vi 1, vi 3, un]) hml.symm (argsL := [(.int p3), (.int p4), (.int p5), (.int p2)]) (rest := []) (lenOf pd_24 rfl) (B at_130) (W := 0)
    obtain ⟨rfl, Nq63, K63, o63_0, o63_1, o63_2, o63_3, o63_4, o63_5, o63_6, o63_7, o63_8, o63_9, o63_10, o63_11, o63_12, o63_13, o63_14, o63_15, o63_16⟩ := hQ63
    have N63 := Fr.app N62 Nq63
    have s11 := K63.1
    have z12 := Nat.le_trans Z0 (Nat.le_trans (Nat.le_trans (Nat.le_trans (Nat.le_trans (Nat.le_trans (Nat.le_trans (Nat.le_trans (Nat.le_trans (Nat.le_trans (Nat.le_trans (Nat.le_trans s0 s1) s2) s3) s4) s5) s6) s7) s8) s9) s10) s11)
    obtain ⟨_, T64, L64, X64, hQ64, st64⟩ := own_virtual X63 hx hZ hH hown (y := y_43) (z := y_43) o63_8 (w_282 hw) (w_283 hw) (own_nf hZ (w_285 hw)) (w_285 hw) (w_284 hw) (w_3 hw) (w_286 hw) (rm44 l Z hw b10 p5 p2 p3 p4 b11_6 k11_7 b11_2 k11_3 b11_4 k11_5 b11_0 k11_1 b1 b11_8 T63.heap n0 z12 o63_14 o63_15 o63_1 g_b11_6 o63_11 ne_b10_b11_6 o63_3 o11_45 g_b11_2 o63_12 ne_b10_b11_2 o63_5 o11_49 (Ne.symm o11_44) g_b11_4 o63_10 ne_b10_b11_4 o63_7 o11_40 o11_38 o11_39 g_b11_0 ne_b10_b11_0 o63_8 g_b10 o63_0 o63_2 o63_4 o63_6 o63_9 o63_13 o63_16) rfl (Ls := #[vi p1, vi p2, vi p3, vi p4, vi p5, vi p6, vr b1, vr b10, vi 1, vi 1, vi 3, un]) hml.symm (argsL := [(.int p5), (.int p2), (.int p3), (.int p4)]) (rest := []) (lenOf pd_24 rfl) (B at_146) (W := 0)
    obtain ⟨rfl, Nq64, K64, o64_0, o64_1, o64_2, o64_3, o64_4, o64_5, o64_6, o64_7, o64_8, o64_9, o64_10, o64_11, o64_12, o64_13, o64_14, o64_15, o64_16⟩ := hQ64
    have N64 := Fr.app N63 Nq64
    have s12 := K64.1
    have z13 := Nat.le_trans Z0 (Nat.le_trans (Nat.le_trans (Nat.le_trans (Nat.le_trans (Nat.le_trans (Nat.le_trans (Nat.le_trans (Nat.le_trans (Nat.le_trans (Nat.le_trans (Nat.le_trans (Nat.le_trans s0 s1) s2) s3) s4) s5) s6) s7) s8) s9) s10) s11) s12)
    obtain ⟨_, T65, L65, X65, hQ65, st65⟩ := own_virtual X64 hx hZ hH hown (y := y_9) (z := y_9) o64_8 (w_83 hw) (w_84 hw) (own_nf hZ (w_86 hw)) (w_86 hw) (w_85 hw) (w_3 hw) (w_87 hw) (rm45 l Z hw b10 T64.heap n0 z13 o64_14) rfl (Ls := #[vi p1, vi p2, vi p3, vi p4, vi p5, vi p6, vr b1, vr b10, vi 1, vi 1, vi 3, un]) hml.symm (argsL := []) (rest := []) (lenOf pd_2 rfl) (B at_151) (W := 0)
    obtain ⟨rfl, Nq65, e65⟩ := hQ65
    have N65 := Fr.app N64 Nq65
    refine ⟨T65, _, _, _, (some (.int 1)), X65, nofun, by decide, by decide, ?_, fun fs hr => ?_⟩
    · show Q0 n0 _ T65.heap _
      rw [e65]
      subst ex43
      subst ex42
      exact ⟨rfl, N65⟩
    · refine sC X0 hx (B at_0) ?_
      refine st1 _ ?_
      refine XS.dup X1.here hx rfl (B at_3) rfl rfl ?_
      refine sC X1 hx (B at_4) ?_
      refine st2 _ ?_
      refine st5 _ ?_
      refine XS.dup X5.here hx rfl (B at_18) rfl rfl ?_
      refine sC X5 hx (B at_19) ?_
      refine st6 _ ?_
      refine st9 _ ?_
      refine XS.astore X9.here hx rfl (B at_33) rfl rfl (l' := #[vi p1, vi p2, vi p3, vi p4, vi p5, vi p6, vr b1, un, un, un, un, un]) rfl ?_
      refine st10 _ ?_
      refine XS.dup X10.here hx rfl (B at_38) rfl rfl ?_
      refine sB X10 hx (B at_39) rfl rfl ?_
      refine st11 _ ?_
      refine XS.astore X11.here hx rfl (B at_44) rfl rfl (l' := #[vi p1, vi p2, vi p3, vi p4, vi p5, vi p6, vr b1, vr b10, un, un, un, un]) rfl ?_
      refine sB X11 hx (B at_46) rfl rfl ?_
      refine st12 _ ?_
      refine XS.istore X12.here hx rfl (B at_51) rfl (l' := #[vi p1, vi p2, vi p3, vi p4, vi p5, vi p6, vr b1, vr b10, vi 1, un, un, un]) rfl ?_
      refine sJ X12 hx (B at_53) rfl ?_
      refine sC X12 hx (B at_55) ?_
      refine XS.iand X12.here hx rfl (B at_56) rfl ?_
      refine XS.ifNo X12.here hx rfl (B at_57) rfl ((if0 _ _).trans (feq cc1).1) ?_
      refine sC X12 hx (B at_60) ?_
      refine st13 _ ?_
      refine XS.dup X13.here hx rfl (B at_63) rfl rfl ?_
      refine sC X13 hx (B at_64) ?_
      refine sI X13 hx (B at_65) rfl ?_
      refine XS.sipush X13.here hx rfl (B at_66) ?_
      refine XS.iand X13.here hx rfl (B at_69) rfl ?_
      refine XS.i2c X13.here hx rfl (B at_70) rfl ?_
      refine st16 _ ?_
      refine XS.astore X16.here hx rfl (B at_72) rfl rfl (l' := #[vi p1, vi p2, vi p3, vi p4, vi p5, vi p6, vr b1, vr b10, vi 1, vr b13, un, un]) rfl ?_
      refine sB X16 hx (B at_74) rfl rfl ?_
      refine st17 _ ?_
      refine XS.dup X17.here hx rfl (B at_79) rfl rfl ?_
      refine sB X17 hx (B at_80) rfl rfl ?_
      refine st20 _ ?_
      refine st41 _ ?_
      refine XS.pop X41.here hx rfl (B at_88) rfl rfl ?_
      refine sB X41 hx (B at_89) rfl rfl ?_
      refine st46 _ ?_
      refine XS.istore X46.here hx rfl (B at_94) rfl (l' := #[vi p1, vi p2, vi p3, vi p4, vi p5, vi p6, vr b1, vr b10, vi 1, vi 1, un, un]) rfl ?_
      refine sI X46 hx (B at_96) rfl ?_
      refine sC X46 hx (B at_97) ?_
      refine XS.iand X46.here hx rfl (B at_98) rfl ?_
      show Steps p.tables e below (T46.setTop (mkF m 99 #[vi p1, vi p2, vi p3, vi p4, vi p5, vi p6, vr b1, vr b10, vi 1, vi 1, un, un] [(.int (p1 &&& (3 : Int32)))])) _
      rw [hk]
      refine XS.istore X46.here hx rfl (B at_99) rfl (l' := #[vi p1, vi p2, vi p3, vi p4, vi p5, vi p6, vr b1, vr b10, vi 1, vi 1, vi 3, un]) rfl ?_
      refine sJ X46 hx (B at_101) rfl ?_
      refine sC X46 hx (B at_103) ?_
      refine XS.icmpNo X46.here hx rfl (B at_104) rfl (flt (by decide : ¬ ((3 : Int32) < (1 : Int32)))).1 ?_
      refine sB X46 hx (B at_107) rfl rfl ?_
      refine sI X46 hx (B at_109) rfl ?_
      refine sI X46 hx (B at_110) rfl ?_
      refine sI X46 hx (B at_111) rfl ?_
      refine sJ X46 hx (B at_112) rfl ?_
      refine st62 _ ?_
      refine sJ X62 hx (B at_117) rfl ?_
      refine sC X62 hx (B at_119) ?_
      refine XS.icmpNo X62.here hx rfl (B at_120) rfl (flt (by decide : ¬ ((3 : Int32) < (2 : Int32)))).1 ?_
      refine sB X62 hx (B at_123) rfl rfl ?_
      refine sI X62 hx (B at_125) rfl ?_
      refine sI X62 hx (B at_126) rfl ?_
      refine sJ X62 hx (B at_127) rfl ?_
      refine sI X62 hx (B at_129) rfl ?_
      refine st63 _ ?_
      refine sJ X63 hx (B at_133) rfl ?_
      refine sC X63 hx (B at_135) ?_
      refine XS.icmpNo X63.here hx rfl (B at_136) rfl (flt (by decide : ¬ ((3 : Int32) < (3 : Int32)))).1 ?_
      refine sB X63 hx (B at_139) rfl rfl ?_
      refine sJ X63 hx (B at_141) rfl ?_
      refine sI X63 hx (B at_143) rfl ?_
      refine sI X63 hx (B at_144) rfl ?_
      refine sI X63 hx (B at_145) rfl ?_
      refine st64 _ ?_
      refine sB X64 hx (B at_149) rfl rfl ?_
      refine st65 _ ?_
      refine XS.istore X65.here hx rfl (B at_154) rfl (l' := #[vi p1, vi p2, vi p3, vi p4, vi p5, vi p6, vr b1, vr b10, vi 1, vi 1, vi 3, vi 0]) rfl ?_
      refine sJ X65 hx (B at_156) rfl ?_
      refine XS.ifNo X65.here hx rfl (B at_158) rfl ((if0 _ _).trans (feq (by decide : ¬ ((1 : Int32) = (0 : Int32)))).1) ?_
      refine sJ X65 hx (B at_161) rfl ?_
      refine XS.ifNo X65.here hx rfl (B at_163) rfl ((if0 _ _).trans (feq (by decide : ¬ ((1 : Int32) = (0 : Int32)))).1) ?_
      refine sJ X65 hx (B at_166) rfl ?_
      refine sJ X65 hx (B at_168) rfl ?_
      refine XS.ifYes X65.here hx rfl (pc0 := 170) (pc' := 177) rfl (B at_170) rfl ((if0 _ _).trans (feq (by decide : ¬ ((3 : Int32) = (0 : Int32)))).2) (by decide) (by decide) ?_
      refine sC X65 hx (B at_177) ?_
      refine XS.icmpNo X65.here hx rfl (B at_178) rfl (teq (by decide : (0 : Int32) = (0 : Int32))).2 ?_
      refine sC X65 hx (B at_181) ?_
      refine XS.goto X65.here hx rfl (pc0 := 182) (pc' := 186) rfl (B at_182) (by decide) (by decide) ?_
      exact retN X65 hx (t := .boolean) hret (by simp) (B at_186) hr
theorem own_k4 (p1 : Int32) : (p1 &&& (3 : Int32)) = (0 : Int32) ∨ (p1 &&& (3 : Int32)) = (1 : Int32) ∨ (p1 &&& (3 : Int32)) = (2 : Int32) ∨ (p1 &&& (3 : Int32)) = (3 : Int32) := by
  have h2 := own_mask p1 (3 : Int32) 2 (by decide) (by decide) 4 (by decide)
  have h3 : ((p1 &&& (3 : Int32))).toInt = 0 ∨ ((p1 &&& (3 : Int32))).toInt = 1 ∨ ((p1 &&& (3 : Int32))).toInt = 2 ∨ ((p1 &&& (3 : Int32))).toInt = 3 := by omega
  rcases h3 with h | h | h | h
  · exact Or.inl (Int32.toInt_inj.mp h)
  · exact Or.inr (Or.inl (Int32.toInt_inj.mp h))
  · exact Or.inr (Or.inr (Or.inl (Int32.toInt_inj.mp h)))
  · exact Or.inr (Or.inr (Or.inr (Int32.toInt_inj.mp h)))
theorem rm0 (l : Launch) (Z : State) {a0 : Array Value} (hw : OW a0 Z) (ws : List Jvm.Cond) (p1 p2 p3 p4 p5 p6 : Int32) (sa1 sa2 sa3 : Addr) (sr4 : Value) (si5 : Int32) (sk9 sk11 skc : ClassId) (suc : List Value) (sbi : Addr) (sck : ClassId) (h0 : Heap) (n0 : Nat) (Z0 : n0 ≤ h0.size) (Od0 : Old Z n0 h0) (R_sr4 : sr4.isRef = true) (nc7 : ¬ (si5 = 0)) (S8_EMPTY_ELEMENTDATA : Sta Z Z.heap "java/util/ArrayList" "EMPTY_ELEMENTDATA" "[Ljava/lang/Object;" (.ref sa1)) (E_sa1 : Exa Z h0 sa1 "[Ljava/lang/Object;") (V_sa1 : Arv Z h0 sa1 sk9 (.object "java/lang/Object") (0 : Int32) [] .null) (S10_DEFAULTCAPACITY_EMPTY_ELEMENTDATA : Sta Z Z.heap "java/util/ArrayList" "DEFAULTCAPACITY_EMPTY_ELEMENTDATA" "[Ljava/lang/Object;" (.ref sa2)) (E_sa2 : Exa Z h0 sa2 "[Ljava/lang/Object;") (V_sa2 : Arv Z h0 sa2 sk11 (.object "java/lang/Object") (0 : Int32) [] .null) (S12_cache : Sta Z Z.heap "java/lang/Integer$IntegerCache" "cache" "[Ljava/lang/Integer;" (.ref sa3)) (E_sa3 : Exa Z h0 sa3 "[Ljava/lang/Integer;") (S14_SIOOBE_FORMATTER : Sta Z Z.heap "jdk/internal/util/Preconditions" "SIOOBE_FORMATTER" "Ljava/util/function/BiFunction;" sr4) (S15_COMPACT_STRINGS : Sta Z Z.heap "java/lang/String" "COMPACT_STRINGS" "Z" (.int si5)) (S16_high : Sta Z Z.heap "java/lang/Integer$IntegerCache" "high" "I" (.int 127)) (V_sa3 : Arv Z h0 sa3 skc (.object "java/lang/Integer") 256 suc .null) (rd_c : suc.getD (128 : Int32).toNatClampNeg .null = .ref sbi) (E_sbi : Exa Z h0 sbi "java/lang/Integer") (F_sbi : Fld Z h0 sbi "java/lang/Integer" "value" "I" (.int 0)) (Site : OwnSite Z sck) :
    OwnMetW l Z x code maxLocals ret ws room_1 #[(.int p1), (.int p2), (.int p3), (.int p4), (.int p5), (.int p6)] h0 (Q0 n0) := by
  rcases own_k4 p1 with hk | hk | hk | hk
  · exact own_wide (rm0_0 l Z hw ws p1 p2 p3 p4 p5 p6 sa1 sa2 sa3 sr4 si5 sk9 sk11 skc suc sbi sck h0 n0 Z0 Od0 R_sr4 nc7 S8_EMPTY_ELEMENTDATA E_sa1 V_sa1 S10_DEFAULTCAPACITY_EMPTY_ELEMENTDATA E_sa2 V_sa2 S12_cache E_sa3 S14_SIOOBE_FORMATTER S15_COMPACT_STRINGS S16_high V_sa3 rd_c E_sbi F_sbi Site hk)
  · exact own_wide (rm0_1 l Z hw ws p1 p2 p3 p4 p5 p6 sa1 sa2 sa3 sr4 si5 sk9 sk11 skc suc sbi sck h0 n0 Z0 Od0 R_sr4 nc7 S8_EMPTY_ELEMENTDATA E_sa1 V_sa1 S10_DEFAULTCAPACITY_EMPTY_ELEMENTDATA E_sa2 V_sa2 S12_cache E_sa3 S14_SIOOBE_FORMATTER S15_COMPACT_STRINGS S16_high V_sa3 rd_c E_sbi F_sbi Site hk)
  · exact own_wide (rm0_2 l Z hw ws p1 p2 p3 p4 p5 p6 sa1 sa2 sa3 sr4 si5 sk9 sk11 skc suc sbi sck h0 n0 Z0 Od0 R_sr4 nc7 S8_EMPTY_ELEMENTDATA E_sa1 V_sa1 S10_DEFAULTCAPACITY_EMPTY_ELEMENTDATA E_sa2 V_sa2 S12_cache E_sa3 S14_SIOOBE_FORMATTER S15_COMPACT_STRINGS S16_high V_sa3 rd_c E_sbi F_sbi Site hk)
  · exact own_wide (rm0_3 l Z hw ws p1 p2 p3 p4 p5 p6 sa1 sa2 sa3 sr4 si5 sk9 sk11 skc suc sbi sck h0 n0 Z0 Od0 R_sr4 nc7 S8_EMPTY_ELEMENTDATA E_sa1 V_sa1 S10_DEFAULTCAPACITY_EMPTY_ELEMENTDATA E_sa2 V_sa2 S12_cache E_sa3 S14_SIOOBE_FORMATTER S15_COMPACT_STRINGS S16_high V_sa3 rd_c E_sbi F_sbi Site hk)
theorem comes_1 {Post : Tables → Env → Array Value → State → Outcome → State → Prop} (hpost : ∀ tb e args s v u, (limb_1_1.after args s (.returned v) u = true ∧ limb_1_2.after args s (.returned v) u = true ∧ True) → ReturnedEndW s (.returned v) u (Jvm.fieldLocs frame_1_writes args s ++ Jvm.arrayLocs frame_1_arrays args s ++ Jvm.staticLocs frame_1_statics s) 40 8384 → Post tb e args s (.returned v) u) :
    ArmFor flags0 classFile x code maxLocals ret World_1 tables_1 room_1 Calls_1 rest_1 Pre_1 Post := by
  intro l hfl _ _ p e ha hc hk s m args below hf hA hF happ hP
  obtain ⟨hcalls, hrest, hpre⟩ := hP
  obtain ⟨-, -, -, hnamed, -, -, -, hat⟩ := (Spec.applies_iff hf).mp happ
  obtain ⟨hg, hn⟩ := and_e (Cond.before_iff.mp (show (Jvm.Cond.and given_1 narrow_1).before args s = true from hpre))
  obtain ⟨hg0, hr0⟩ := and_e hg
  obtain ⟨hg1, hr1⟩ := and_e hr0
  obtain ⟨hg2, hr2⟩ := and_e hr1
  obtain ⟨hg3, hr3⟩ := and_e hr2
  obtain ⟨hg4, hr4⟩ := and_e hr3
  obtain ⟨hg5, hr5⟩ := and_e hr4
  obtain ⟨w0, w1, w2, w3, w4, w5, rfl⟩ : ∃ w0 w1 w2 w3 w4 w5 : Value, args = #[w0, w1, w2, w3, w4, w5] := by
    have hs : args.size = 6 := by simpa [Cond.value, given_1] using hg0
    obtain ⟨L⟩ := args
    match L, hs with
    | [w0, w1, w2, w3, w4, w5], _ => exact ⟨w0, w1, w2, w3, w4, w5, rfl⟩
  have hw := fun d (hd : d ∈ tables_1) => atoms_spec (ws := Jvm.Cond.code x code maxLocals ret :: tables_1) hat d (List.mem_cons_of_mem _ hd)
  have hfit : Fit s := fun {y c} hc i hi => by
    obtain ⟨ha, rfl⟩ := Array.getElem?_eq_some_iff.mp hc
    have q := List.all_eq_true.mp ((Array.all_eq_true_iff_forall_mem.mp hF) _ (Array.getElem_mem ha)) i (List.mem_range.mpr hi)
    simpa [Array.getElem?_eq_getElem hi] using q
  obtain ⟨hsets, hown0⟩ := atoms_of _ (rest_1_c_eq ▸ (show rest_1_c.before _ s = true from hrest))
  have hro := Cond.before_iff.mp hown0
  obtain ⟨p1, ei0⟩ := is_v hg1
  obtain rfl : w0 = (.int p1) := Option.some.inj ei0
  obtain ⟨p2, ei1⟩ := is_v hg2
  obtain rfl : w1 = (.int p2) := Option.some.inj ei1
  obtain ⟨p3, ei2⟩ := is_v hg3
  obtain rfl : w2 = (.int p3) := Option.some.inj ei2
  obtain ⟨p4, ei3⟩ := is_v hg4
  obtain rfl : w3 = (.int p4) := Option.some.inj ei3
  obtain ⟨p5, ei4⟩ := is_v hg5
  obtain rfl : w4 = (.int p5) := Option.some.inj ei4
  obtain ⟨p6, ei5⟩ := is_v hr5
  obtain rfl : w5 = (.int p6) := Option.some.inj ei5
  obtain ⟨sa1, ev_sa1⟩ := exa_v (Cond.before_iff.mp (hsets _ (List.mem_of_getElem? (i := 4) rfl)))
  obtain ⟨sa2, ev_sa2⟩ := exa_v (Cond.before_iff.mp (hsets _ (List.mem_of_getElem? (i := 7) rfl)))
  obtain ⟨sa3, ev_sa3⟩ := exa_v (Cond.before_iff.mp (hsets _ (List.mem_of_getElem? (i := 23) rfl)))
  obtain ⟨sr4, ev_sr4, R_sr4⟩ := isR_v (Cond.before_iff.mp (hsets _ (List.mem_of_getElem? (i := 17) rfl)))
  obtain ⟨si5, ev_si5⟩ := is_v (Cond.before_iff.mp (hsets _ (List.mem_of_getElem? (i := 10) rfl)))
  have ev6 := own_eqI (Cond.before_iff.mp (hsets _ (List.mem_of_getElem? (i := 21) rfl)))
  have nc7 : ¬ (si5 = 0) := gotF (Cond.eq_ints ev_si5 (Term.int_eval (0))) (not_v (Cond.before_iff.mp (hsets _ (List.mem_of_getElem? (i := 11) rfl))))
  have S8_EMPTY_ELEMENTDATA : Sta s s.heap "java/util/ArrayList" "EMPTY_ELEMENTDATA" "[Ljava/lang/Object;" (.ref sa1) := Sta.start ev_sa1 (Or.inl (hsets _ (List.mem_of_getElem? (i := 1) rfl)))
  have E_sa1 : Exa s s.heap sa1 "[Ljava/lang/Object;" := Exa.start ev_sa1 (Cond.before_iff.mp (hsets _ (List.mem_of_getElem? (i := 4) rfl)))
  obtain ⟨c9, A9⟩ := Arr.start ev_sa1 (Cond.before_iff.mp (hsets _ (List.mem_of_getElem? (i := 3) rfl)))
  have L9 := own_len (own_eqI (Cond.before_iff.mp (hsets _ (List.mem_of_getElem? (i := 5) rfl)))) ev_sa1 A9
  obtain ⟨sk9, ek9⟩ : ∃ z, z = c9.cls := ⟨_, rfl⟩
  have V_sa1 : Arv s s.heap sa1 sk9 (.object "java/lang/Object") (0 : Int32) [] .null := by rw [ek9]; exact Arv.start hfit A9 L9.1 L9.2 (by decide) rfl trivial
  have S10_DEFAULTCAPACITY_EMPTY_ELEMENTDATA : Sta s s.heap "java/util/ArrayList" "DEFAULTCAPACITY_EMPTY_ELEMENTDATA" "[Ljava/lang/Object;" (.ref sa2) := Sta.start ev_sa2 (Or.inr ⟨(hw _ (List.mem_of_getElem? (i := 43) rfl)), (hsets _ (List.mem_of_getElem? (i := 2) rfl))⟩)
  have E_sa2 : Exa s s.heap sa2 "[Ljava/lang/Object;" := Exa.start ev_sa2 (Cond.before_iff.mp (hsets _ (List.mem_of_getElem? (i := 7) rfl)))
  obtain ⟨c11, A11⟩ := Arr.start ev_sa2 (Cond.before_iff.mp (hsets _ (List.mem_of_getElem? (i := 6) rfl)))
  have L11 := own_len (own_eqI (Cond.before_iff.mp (hsets _ (List.mem_of_getElem? (i := 8) rfl)))) ev_sa2 A11
  obtain ⟨sk11, ek11⟩ : ∃ z, z = c11.cls := ⟨_, rfl⟩
  have V_sa2 : Arv s s.heap sa2 sk11 (.object "java/lang/Object") (0 : Int32) [] .null := by rw [ek11]; exact Arv.start hfit A11 L11.1 L11.2 (by decide) rfl trivial
  have S12_cache : Sta s s.heap "java/lang/Integer$IntegerCache" "cache" "[Ljava/lang/Integer;" (.ref sa3) := Sta.start ev_sa3 (Or.inr ⟨(hw _ (List.mem_of_getElem? (i := 246) rfl)), (hsets _ (List.mem_of_getElem? (i := 20) rfl))⟩)
  have E_sa3 : Exa s s.heap sa3 "[Ljava/lang/Integer;" := Exa.start ev_sa3 (Cond.before_iff.mp (hsets _ (List.mem_of_getElem? (i := 23) rfl)))
  have S14_SIOOBE_FORMATTER : Sta s s.heap "jdk/internal/util/Preconditions" "SIOOBE_FORMATTER" "Ljava/util/function/BiFunction;" sr4 := Sta.start ev_sr4 (Or.inl (hsets _ (List.mem_of_getElem? (i := 16) rfl)))
  have S15_COMPACT_STRINGS : Sta s s.heap "java/lang/String" "COMPACT_STRINGS" "Z" (.int si5) := Sta.start ev_si5 (Or.inl (hsets _ (List.mem_of_getElem? (i := 9) rfl)))
  have S16_high : Sta s s.heap "java/lang/Integer$IntegerCache" "high" "I" (.int 127) := Sta.start ev6 (Or.inl (hsets _ (List.mem_of_getElem? (i := 19) rfl)))
  obtain ⟨skc, suc, sbi, V_sa3, rd_c, E_sbi, F_sbi⟩ := own_cache hfit ev_sa3 (Cond.before_iff.mp (hsets _ (List.mem_of_getElem? (i := 22) rfl))) (Cond.before_iff.mp (hsets _ (List.mem_of_getElem? (i := 24) rfl))) (Cond.before_iff.mp (hsets _ (List.mem_of_getElem? (i := 25) rfl)))
  obtain ⟨sck, Site⟩ := own_site (show (Jvm.Cond.lambdaSite own_nu 6 23 own_sg).before _ s = true from hw _ (List.mem_of_getElem? (i := 126) rfl))
  obtain ⟨n, o, h1, h2, h3, _, L, rfl, ⟨rfl, N⟩, hq⟩ := rm0 l s hw tables_1 p1 p2 p3 p4 p5 p6 sa1 sa2 sa3 sr4 si5 sk9 sk11 skc suc sbi sck s.heap s.heap.size (Nat.le_refl _) (Old.start s) R_sr4 nc7 S8_EMPTY_ELEMENTDATA E_sa1 V_sa1 S10_DEFAULTCAPACITY_EMPTY_ELEMENTDATA E_sa2 V_sa2 S12_cache E_sa3 S14_SIOOBE_FORMATTER S15_COMPACT_STRINGS S16_high V_sa3 rd_c E_sbi F_sbi Site p e ha hc hk s m _ below hf ((Spec.applies_iff_loose hf).mp happ).1 ⟨rfl, ⟨State.Warmed39.refl s, State.WarmedH.refl s⟩, rfl, IB.start⟩ trivial
  refine ⟨n, _, h1, h2, h3, hpost _ _ _ _ _ _ ⟨Cond.after_iff.mpr rfl, Cond.after_iff.mpr (eq_i res_at (Term.int_eval (1)) rfl), trivial⟩ ⟨hq.1, hq.2.1, hq.2.2.1, (hq.2.2.2.sift fun y hy => Or.inr (N y hy)).mono (by decide) (by decide)⟩⟩
theorem main_1_1 : Claimed_1_1 := comes_1 fun _ _ _ _ _ _ h hF => ⟨h.1, hF⟩
theorem main_1_2 : Claimed_1_2 := comes_1 fun _ _ _ _ _ _ h hF => ⟨h.2.1, hF⟩
end Jvm.Pilot.@@N@@
namespace Jvm.Pilot.@@N@@
open Jvm Jvm.ClassFile Sem Op Lib Jvm.Free Jvm.Stand Jvm.Pilot.@@N@@.Jvm.D
/-! MADE BY PROGRAM (witnessworld.py) out of the Statement's table words and the real class files: 45 classes; the members and pool entries that the words name. The judged class is class 1, her method 1. -/
namespace start1
open Jvm.ClassFile
def u (s : String) : CpInfo := .utf8 (stringToUtf16 s)
/-- a pool by its gaps: so many unusable entries, then the entry; so many at the end -/
def gap : Nat → List CpInfo → List CpInfo
  | 0, r => r
  | n + 1, r => .unusable :: gap n r
def poolList (es : List (Nat × CpInfo)) (last : Nat) : List CpInfo := es.foldr (fun e r => gap e.1 (e.2 :: r)) (gap last [])
def pool (es : List (Nat × CpInfo)) (last : Nat) : Array CpInfo := ⟨poolList es last⟩
def fileOf (pool : Array CpInfo) (this : Nat) (attrs : Array Attribute := #[]) (ms : Array MethodInfo := #[]) (fl : Nat := 33) (sup : Nat := 0) (ifs : Array Nat := #[]) (fds : Array FieldInfo := #[]) : ClassFile where
  minorVersion := 0
  majorVersion := 65
  constantPool := pool
  accessFlags := fl
  thisClass := this
  superClass := sup
  interfaces := ifs
  fields := fds
  methods := ms
  attributes := attrs
def plain (name : String) (sup : Option ClassId) : Class where
  name := name
  kind := .ordinary
  loader := none
  accessFlags := 33
  super := sup
  interfaces := #[]
  cf := none
  fields := #[]
  methods := #[]
  instanceTypes := #[]
  staticTypes := #[]
  resolved := #[]
  callSites := []
  init := .initialized
  statics := none
  mirror := none

def pool0 : Array CpInfo := pool [(5, u "<init>"), (0, u "()V"), (1, .class_ 10), (1, u "java/lang/Object"), (16, u "hashCode"), (0, u "()I")] 95

def k0c0 : Code := { maxStack := 0, maxLocals := 1, code := object_method_1_code, exceptionTable := #[], attributes := #[] }
def k0m0 : Method := { name := "<init>", desc := "()V", sig := { parameters := [], returnType := none }, accessFlags := 1, code := some k0c0 }
def k0m1 : Method := { name := "hashCode", desc := "()I", sig := { parameters := [], returnType := some .int }, accessFlags := 257, code := none }
/-- java/lang/Object -/
def k0 : Class := { plain "java/lang/Object" none with
  accessFlags := 33
  interfaces := #[]
  cf := some (fileOf pool0 8 #[] #[⟨1, 5, 6, #[]⟩, ⟨257, 27, 28, #[]⟩] 33 0 #[] #[])
  fields := #[]
  methods := #[k0m0, k0m1]
  instanceTypes := #[]
  staticTypes := #[]
  resolved := Array.replicate 124 none
  statics := none }

def pool1 : Array CpInfo := pool [(2, .class_ 4), (1, u "java/lang/Object"), (0, u "<init>"), (0, u "()V"), (0, .class_ 8), (0, u "com/example/informal_search/informalsearch/index/PostingBuffer"), (0, .methodref 7 10), (0, .nameAndType 5 11), (0, u "([Z)V"), (0, .methodref 7 13), (0, .nameAndType 14 15), (0, u "isEmpty"), (0, u "()Z"), (0, .class_ 17), (0, u "java/lang/String"), (0, .methodref 16 19), (0, .nameAndType 5 20), (0, u "([C)V"), (0, .methodref 7 22), (0, .nameAndType 23 24), (0, u "term"), (0, u "(Ljava/lang/String;)I"), (0, .methodref 7 26), (0, .nameAndType 27 28), (0, u "add"), (0, u "(IIII)V"), (0, .class_ 30), (0, u "com/example/informal_search/informalsearch/index/PostingBufferIsEmptyPinLaw"), (2, u "law"), (0, u "(IIIIII)Z")] 5

def k1m0 : Method := { name := "<init>", desc := "()V", sig := { parameters := [], returnType := none }, accessFlags := 2, code := none }
def k1c1 : Code := { maxStack := 5, maxLocals := 12, code := code, exceptionTable := #[], attributes := #[] }
def k1m1 : Method := { name := "law", desc := "(IIIIII)Z", sig := { parameters := [.int, .int, .int, .int, .int, .int], returnType := some .boolean }, accessFlags := 9, code := some k1c1 }
/-- com/example/informal_search/informalsearch/index/PostingBufferIsEmptyPinLaw -/
def k1 : Class := { plain "com/example/informal_search/informalsearch/index/PostingBufferIsEmptyPinLaw" (some 0) with
  accessFlags := 49
  interfaces := #[]
  cf := some (fileOf pool1 29 #[] #[⟨2, 5, 6, #[]⟩, ⟨9, 33, 34, #[]⟩] 49 2 #[] #[])
  fields := #[]
  methods := #[k1m0, k1m1]
  instanceTypes := #[]
  staticTypes := #[]
  resolved := Array.replicate 40 none
  statics := none }

def pool2 : Array CpInfo := pool [(3, .methodref 4 5), (0, .class_ 6), (0, .nameAndType 7 8), (0, u "java/lang/Object"), (0, u "<init>"), (0, u "()V"), (0, .fieldref 10 11), (0, .class_ 12), (0, .nameAndType 13 14), (0, u "com/example/informal_search/informalsearch/index/PostingBuffer"), (0, u "literal"), (0, u "[Z"), (0, .methodref 10 16), (0, .nameAndType 17 8), (0, u "clear"), (0, .fieldref 10 19), (0, .nameAndType 20 21), (0, u "terms"), (0, u "Lcom/example/informal_search/informalsearch/index/Numbering;"), (0, .methodref 23 24), (0, .class_ 25), (0, .nameAndType 26 27), (0, u "com/example/informal_search/informalsearch/index/Numbering"), (0, u "number"), (0, u "(Ljava/lang/String;)I"), (0, .fieldref 10 29), (0, .nameAndType 30 31), (0, u "size"), (0, u "I"), (0, .fieldref 10 33), (0, .nameAndType 34 35), (0, u "termOf"), (0, u "[I"), (6, .fieldref 10 43), (0, .nameAndType 44 35), (0, u "entityOf"), (0, .fieldref 10 46), (0, .nameAndType 47 35), (0, u "fieldOf"), (0, .fieldref 10 49), (0, .nameAndType 50 35), (0, u "countOf"), (0, .fieldref 10 52), (0, .nameAndType 53 54), (0, u "bytes"), (0, u "J"), (0, .long 20), (33, u "term"), (8, .methodref 23 5), (0, .long 20480), (1, u "ENTRY_BYTES"), (2, u "FIRST_CAPACITY"), (1, u "([Z)V"), (2, u "add"), (0, u "(IIII)V"), (1, u "isEmpty"), (0, u "()Z")] 14

def k2c0 : Code := { maxStack := 2, maxLocals := 2, code := prog_42_method_1_code, exceptionTable := #[], attributes := #[] }
def k2m0 : Method := { name := "<init>", desc := "([Z)V", sig := { parameters := [(.array .boolean)], returnType := none }, accessFlags := 0, code := some k2c0 }
def k2c1 : Code := { maxStack := 2, maxLocals := 2, code := prog_42_method_2_code, exceptionTable := #[], attributes := #[] }
def k2m1 : Method := { name := "term", desc := "(Ljava/lang/String;)I", sig := { parameters := [(.object "java/lang/String")], returnType := some .int }, accessFlags := 0, code := some k2c1 }
def k2c2 : Code := { maxStack := 7, maxLocals := 5, code := prog_42_method_3_code, exceptionTable := #[], attributes := #[] }
def k2m2 : Method := { name := "add", desc := "(IIII)V", sig := { parameters := [.int, .int, .int, .int], returnType := none }, accessFlags := 0, code := some k2c2 }
def k2c3 : Code := { maxStack := 1, maxLocals := 1, code := prog_42_method_5_code, exceptionTable := #[], attributes := #[] }
def k2m3 : Method := { name := "isEmpty", desc := "()Z", sig := { parameters := [], returnType := some .boolean }, accessFlags := 0, code := some k2c3 }
def k2c4 : Code := { maxStack := 3, maxLocals := 1, code := prog_42_method_9_code, exceptionTable := #[], attributes := #[] }
def k2m4 : Method := { name := "clear", desc := "()V", sig := { parameters := [], returnType := none }, accessFlags := 2, code := some k2c4 }
/-- com/example/informal_search/informalsearch/index/PostingBuffer -/
def k2 : Class := { plain "com/example/informal_search/informalsearch/index/PostingBuffer" (some 0) with
  accessFlags := 48
  interfaces := #[]
  cf := some (fileOf pool2 10 #[] #[⟨0, 7, 106, #[]⟩, ⟨0, 89, 27, #[]⟩, ⟨0, 109, 110, #[]⟩, ⟨0, 112, 113, #[]⟩, ⟨2, 17, 8, #[]⟩] 48 4 #[] #[⟨26, 101, 31, #[]⟩, ⟨26, 104, 31, #[]⟩, ⟨18, 13, 14, #[]⟩, ⟨2, 20, 21, #[]⟩, ⟨2, 34, 35, #[]⟩, ⟨2, 44, 35, #[]⟩, ⟨2, 47, 35, #[]⟩, ⟨2, 50, 35, #[]⟩, ⟨2, 30, 31, #[]⟩, ⟨2, 53, 54, #[]⟩])
  fields := #[⟨"ENTRY_BYTES", .int, 26, 0, 0⟩, ⟨"FIRST_CAPACITY", .int, 26, 1, 0⟩, ⟨"literal", (.array .boolean), 18, 0, 0⟩, ⟨"terms", (.object "com/example/informal_search/informalsearch/index/Numbering"), 2, 1, 0⟩, ⟨"termOf", (.array .int), 2, 2, 0⟩, ⟨"entityOf", (.array .int), 2, 3, 0⟩, ⟨"fieldOf", (.array .int), 2, 4, 0⟩, ⟨"countOf", (.array .int), 2, 5, 0⟩, ⟨"size", .int, 2, 6, 0⟩, ⟨"bytes", .long, 2, 7, 0⟩]
  methods := #[k2m0, k2m1, k2m2, k2m3, k2m4]
  instanceTypes := #[(.array .boolean), (.object "com/example/informal_search/informalsearch/index/Numbering"), (.array .int), (.array .int), (.array .int), (.array .int), .int, .long]
  staticTypes := #[.int, .int]
  resolved := Array.replicate 128 none
  statics := none }

def pool3 : Array CpInfo := pool [(1, .methodref 2 3), (0, .class_ 4), (0, .nameAndType 5 6), (0, u "java/lang/Object"), (0, u "<init>"), (0, u "()V"), (0, .class_ 8), (0, u "java/util/HashMap"), (0, .methodref 7 3), (0, .fieldref 11 12), (0, .class_ 13), (0, .nameAndType 14 15), (0, u "com/example/informal_search/informalsearch/index/Numbering"), (0, u "numbers"), (0, u "Ljava/util/Map;"), (0, .class_ 17), (0, u "java/util/ArrayList"), (0, .methodref 16 3), (0, .fieldref 11 20), (0, .nameAndType 21 22), (0, u "strings"), (0, u "Ljava/util/List;"), (0, .invokeDynamic 0 24), (0, .nameAndType 25 26), (0, u "apply"), (0, u "(Lcom/example/informal_search/informalsearch/index/Numbering;)Ljava/util/function/Function;"), (0, .interfaceMethodref 28 29), (0, .class_ 30), (0, .nameAndType 31 32), (0, u "java/util/Map"), (0, u "computeIfAbsent"), (0, u "(Ljava/lang/Object;Ljava/util/function/Function;)Ljava/lang/Object;"), (0, .class_ 34), (0, u "java/lang/Integer"), (0, .methodref 33 36), (0, .nameAndType 37 38), (0, u "intValue"), (0, u "()I"), (0, .long 3), (1, .methodref 42 43), (0, .class_ 44), (0, .nameAndType 45 38), (0, u "java/lang/String"), (0, u "length"), (0, .fieldref 11 47), (0, .nameAndType 48 49), (0, u "bytes"), (0, u "J"), (0, .interfaceMethodref 51 52), (0, .class_ 53), (0, .nameAndType 54 38), (0, u "java/util/List"), (0, u "size"), (30, .class_ 86), (0, u "com/example/informal_search/informalsearch/index/Numbering$InOrder"), (3, .interfaceMethodref 51 91), (0, .nameAndType 92 93), (0, u "add"), (0, u "(Ljava/lang/Object;)Z"), (0, .long 160), (1, .methodref 11 97), (0, .nameAndType 98 99), (0, u "characterBytes"), (0, u "(Ljava/lang/String;)J"), (4, u "STRING_BYTES"), (0, u "I"), (2, u "CHARACTER_BYTES"), (6, u "number"), (0, u "(Ljava/lang/String;)I"), (12, u "newNumber"), (6, .methodType 137), (0, u "(Ljava/lang/Object;)Ljava/lang/Object;"), (0, .methodHandle 5 139), (0, .methodref 11 140), (0, .nameAndType 129 116), (0, .methodType 142), (0, u "(Ljava/lang/String;)Ljava/lang/Integer;"), (7, .methodHandle 6 151), (0, .methodref 152 153), (0, .class_ 154), (0, .nameAndType 155 156), (0, u "java/lang/invoke/LambdaMetafactory"), (0, u "metafactory"), (0, u "(Ljava/lang/invoke/MethodHandles$Lookup;Ljava/lang/String;Ljava/lang/invoke/MethodType;Ljava/lang/invoke/MethodType;Ljava/lang/invoke/MethodHandle;Ljava/lang/invoke/MethodType;)Ljava/lang/invoke/CallSite;")] 7

def k3c0 : Code := { maxStack := 3, maxLocals := 1, code := prog_38_method_1_code, exceptionTable := #[], attributes := #[] }
def k3m0 : Method := { name := "<init>", desc := "()V", sig := { parameters := [], returnType := none }, accessFlags := 0, code := some k3c0 }
def k3c1 : Code := { maxStack := 3, maxLocals := 2, code := prog_38_method_2_code, exceptionTable := #[], attributes := #[] }
def k3m1 : Method := { name := "number", desc := "(Ljava/lang/String;)I", sig := { parameters := [(.object "java/lang/String")], returnType := some .int }, accessFlags := 0, code := some k3c1 }
def k3c2 : Code := { maxStack := 4, maxLocals := 1, code := prog_38_method_3_code, exceptionTable := #[], attributes := #[] }
def k3m2 : Method := { name := "characterBytes", desc := "(Ljava/lang/String;)J", sig := { parameters := [(.object "java/lang/String")], returnType := some .long }, accessFlags := 8, code := some k3c2 }
def k3c3 : Code := { maxStack := 7, maxLocals := 2, code := prog_38_method_8_code, exceptionTable := #[], attributes := #[] }
def k3m3 : Method := { name := "newNumber", desc := "(Ljava/lang/String;)I", sig := { parameters := [(.object "java/lang/String")], returnType := some .int }, accessFlags := 2, code := some k3c3 }
/-- com/example/informal_search/informalsearch/index/Numbering -/
def k3 : Class := { plain "com/example/informal_search/informalsearch/index/Numbering" (some 0) with
  accessFlags := 48
  interfaces := #[]
  cf := some (fileOf pool3 11 #[.nestMembers #[85], .bootstrapMethods #[⟨150, #[136, 138, 141]⟩, ⟨0, #[]⟩]] #[⟨0, 5, 6, #[]⟩, ⟨0, 115, 116, #[]⟩, ⟨8, 98, 99, #[]⟩, ⟨2, 129, 116, #[]⟩] 48 2 #[] #[⟨26, 104, 105, #[]⟩, ⟨26, 108, 105, #[]⟩, ⟨18, 14, 15, #[]⟩, ⟨18, 21, 22, #[]⟩, ⟨2, 48, 49, #[]⟩])
  fields := #[⟨"STRING_BYTES", .int, 26, 0, 0⟩, ⟨"CHARACTER_BYTES", .int, 26, 1, 0⟩, ⟨"numbers", (.object "java/util/Map"), 18, 0, 0⟩, ⟨"strings", (.object "java/util/List"), 18, 1, 0⟩, ⟨"bytes", .long, 2, 2, 0⟩]
  methods := #[k3m0, k3m1, k3m2, k3m3]
  instanceTypes := #[(.object "java/util/Map"), (.object "java/util/List"), .long]
  staticTypes := #[.int, .int]
  resolved := Array.replicate 164 none
  callSites := [(1, 6, .makes 44)]
  statics := none }

def pool4 : Array CpInfo := pool [(2, .class_ 4), (1, u "java/util/Map"), (31, .class_ 37), (0, u "java/util/Map$Entry"), (55, .class_ 94), (0, u "java/lang/Object"), (85, u "computeIfAbsent"), (0, u "(Ljava/lang/Object;Ljava/util/function/Function;)Ljava/lang/Object;")] 81

def k4c0 : Code := { maxStack := 3, maxLocals := 5, code := ⟨#[0x2c, 0xb8, 0x00, 0x0b, 0x57, 0x2a, 0x2b, 0xb9, 0x00, 0x01, 0x02, 0x00, 0x59, 0x4e, 0xc7, 0x00, 0x1d, 0x2c, 0x2b, 0xb9, 0x00, 0x4d, 0x02, 0x00, 0x59, 0x3a, 0x04, 0xc6, 0x00, 0x10, 0x2a, 0x2b, 0x19, 0x04, 0xb9, 0x00, 0x43, 0x03, 0x00, 0x57, 0x19, 0x04, 0xb0, 0x2d, 0xb0]⟩, exceptionTable := #[], attributes := #[] }
def k4m0 : Method := { name := "computeIfAbsent", desc := "(Ljava/lang/Object;Ljava/util/function/Function;)Ljava/lang/Object;", sig := { parameters := [(.object "java/lang/Object"), (.object "java/util/function/Function")], returnType := some (.object "java/lang/Object") }, accessFlags := 1, code := some k4c0 }
/-- java/util/Map -/
def k4 : Class := { plain "java/util/Map" (some 0) with
  accessFlags := 1537
  interfaces := #[]
  cf := some (fileOf pool4 2 #[.nestMembers #[36]] #[⟨1, 180, 181, #[]⟩] 1537 93 #[] #[])
  fields := #[]
  methods := #[k4m0]
  instanceTypes := #[]
  staticTypes := #[]
  resolved := Array.replicate 263 none
  statics := none }

def pool5 : Array CpInfo := pool [(1, .methodref 2 3), (0, .class_ 4), (0, .nameAndType 5 6), (0, u "java/lang/Object"), (0, u "<init>"), (0, u "()V"), (1, .class_ 10), (1, u "java/util/AbstractMap"), (42, .class_ 54), (0, u "java/util/Map"), (9, u "keySet"), (0, u "Ljava/util/Set;"), (0, .class_ 67), (0, u "java/util/AbstractMap$1"), (5, u "values"), (0, u "Ljava/util/Collection;"), (0, .class_ 76), (0, u "java/util/AbstractMap$2"), (104, .class_ 182), (0, u "java/util/AbstractMap$ViewCollection"), (0, .class_ 184), (0, u "java/util/AbstractMap$SimpleImmutableEntry"), (0, .class_ 186), (0, u "java/util/AbstractMap$SimpleEntry"), (0, .class_ 188), (0, u "java/util/AbstractMap$2$1"), (0, .class_ 190), (0, u "java/util/AbstractMap$1$1")] 5

def k5c0 : Code := { maxStack := 1, maxLocals := 1, code := jdk_71_method_1_code, exceptionTable := #[], attributes := #[] }
def k5m0 : Method := { name := "<init>", desc := "()V", sig := { parameters := [], returnType := none }, accessFlags := 4, code := some k5c0 }
/-- java/util/AbstractMap -/
def k5 : Class := { plain "java/util/AbstractMap" (some 0) with
  accessFlags := 1057
  interfaces := #[4]
  cf := some (fileOf pool5 8 #[.nestMembers #[181, 183, 185, 75, 187, 66, 189]] #[⟨4, 5, 6, #[]⟩] 1057 2 #[53] #[⟨128, 64, 65, #[]⟩, ⟨128, 73, 74, #[]⟩])
  fields := #[⟨"keySet", (.object "java/util/Set"), 128, 0, 0⟩, ⟨"values", (.object "java/util/Collection"), 128, 1, 0⟩]
  methods := #[k5m0]
  instanceTypes := #[(.object "java/util/Set"), (.object "java/util/Collection")]
  staticTypes := #[]
  resolved := Array.replicate 196 none
  statics := none }

def pool6 : Array CpInfo := pool [(1, .class_ 2), (0, u "java/lang/Cloneable"), (0, .class_ 4), (0, u "java/lang/Object")] 2

/-- java/lang/Cloneable -/
def k6 : Class := { plain "java/lang/Cloneable" (some 0) with
  accessFlags := 1537
  interfaces := #[]
  cf := some (fileOf pool6 1 #[] #[] 1537 3 #[] #[])
  fields := #[]
  methods := #[]
  instanceTypes := #[]
  staticTypes := #[]
  resolved := Array.replicate 7 none
  statics := none }

def pool7 : Array CpInfo := pool [(1, .class_ 2), (0, u "java/io/Serializable"), (0, .class_ 4), (0, u "java/lang/Object")] 2

/-- java/io/Serializable -/
def k7 : Class := { plain "java/io/Serializable" (some 0) with
  accessFlags := 1537
  interfaces := #[]
  cf := some (fileOf pool7 1 #[] #[] 1537 3 #[] #[])
  fields := #[]
  methods := #[]
  instanceTypes := #[]
  staticTypes := #[]
  resolved := Array.replicate 7 none
  statics := none }

def pool8 : Array CpInfo := pool [(1, .methodref 2 3), (0, .class_ 4), (0, .nameAndType 5 6), (0, u "java/lang/Object"), (0, u "hashCode"), (0, u "()I"), (26, u "(Ljava/lang/Object;)I"), (6, .class_ 41), (0, u "java/util/HashMap"), (1, .methodref 44 45), (0, .class_ 46), (0, .nameAndType 47 48), (0, u "java/util/AbstractMap"), (0, u "<init>"), (0, u "()V"), (32, .fieldref 40 82), (0, .nameAndType 83 84), (0, u "loadFactor"), (0, u "F"), (3, .fieldref 40 89), (0, .nameAndType 90 91), (0, u "threshold"), (0, u "I"), (0, .float 1061158912), (8, .class_ 103), (1, u "java/util/Map"), (0, u "size"), (0, .fieldref 40 106), (0, .nameAndType 107 108), (0, u "table"), (0, u "[Ljava/util/HashMap$Node;"), (8, .methodref 40 118), (0, .nameAndType 119 120), (0, u "resize"), (0, u "()[Ljava/util/HashMap$Node;"), (2, u "entrySet"), (25, .methodref 40 150), (0, .nameAndType 151 33), (0, u "hash"), (4, .fieldref 40 157), (0, .nameAndType 104 91), (5, .class_ 165), (1, u "java/util/HashMap$Node"), (14, .class_ 181), (0, u "java/util/HashMap$TreeNode"), (4, .methodref 40 187), (0, .nameAndType 188 189), (0, u "newNode"), (0, u "(ILjava/lang/Object;Ljava/lang/Object;Ljava/util/HashMap$Node;)Ljava/util/HashMap$Node;"), (12, .fieldref 40 203), (0, .nameAndType 204 91), (0, u "modCount"), (0, .methodref 40 206), (0, .nameAndType 207 208), (0, u "afterNodeInsertion"), (0, u "(Z)V"), (33, u "Ljava/util/Set;"), (0, .class_ 244), (0, u "java/util/HashMap$KeySet"), (18, .class_ 264), (0, u "java/util/HashMap$Values"), (3, .class_ 269), (0, u "java/util/HashMap$EntrySet"), (4, .interfaceMethodref 275 276), (0, .class_ 277), (0, .nameAndType 278 279), (0, u "java/util/function/Function"), (0, u "apply"), (0, u "(Ljava/lang/Object;)Ljava/lang/Object;"), (66, .class_ 348), (1, u "java/util/HashMap$UnsafeHolder"), (26, .methodref 163 376), (0, .nameAndType 47 377), (0, u "(ILjava/lang/Object;Ljava/lang/Object;Ljava/util/HashMap$Node;)V"), (14, .class_ 393), (0, u "java/lang/Cloneable"), (0, .class_ 395), (0, u "java/io/Serializable"), (0, u "serialVersionUID"), (0, u "J"), (3, u "DEFAULT_INITIAL_CAPACITY"), (1, u "MAXIMUM_CAPACITY"), (0, u "DEFAULT_LOAD_FACTOR"), (0, u "TREEIFY_THRESHOLD"), (1, u "UNTREEIFY_THRESHOLD"), (1, u "MIN_TREEIFY_CAPACITY"), (123, u "computeIfAbsent"), (0, u "(Ljava/lang/Object;Ljava/util/function/Function;)Ljava/lang/Object;"), (61, .class_ 597), (0, u "java/util/HashMap$EntrySpliterator"), (0, .class_ 599), (0, u "java/util/HashMap$ValueSpliterator"), (0, .class_ 601), (0, u "java/util/HashMap$KeySpliterator"), (0, .class_ 603), (0, u "java/util/HashMap$HashMapSpliterator"), (0, .class_ 605), (0, u "java/util/HashMap$EntryIterator"), (0, .class_ 607), (0, u "java/util/HashMap$ValueIterator"), (0, .class_ 609), (0, u "java/util/HashMap$KeyIterator"), (0, .class_ 611), (0, u "java/util/HashMap$HashIterator")] 17

def k8c0 : Code := { maxStack := 3, maxLocals := 2, code := jdk_69_method_1_code, exceptionTable := #[], attributes := #[] }
def k8m0 : Method := { name := "hash", desc := "(Ljava/lang/Object;)I", sig := { parameters := [(.object "java/lang/Object")], returnType := some .int }, accessFlags := 24, code := some k8c0 }
def k8c1 : Code := { maxStack := 2, maxLocals := 1, code := jdk_69_method_7_code, exceptionTable := #[], attributes := #[] }
def k8m1 : Method := { name := "<init>", desc := "()V", sig := { parameters := [], returnType := none }, accessFlags := 1, code := some k8c1 }
def k8c2 : Code := { maxStack := 5, maxLocals := 14, code := jdk_69_method_17_code, exceptionTable := #[], attributes := #[] }
def k8m2 : Method := { name := "resize", desc := "()[Ljava/util/HashMap$Node;", sig := { parameters := [], returnType := some (.array (.object "java/util/HashMap$Node")) }, accessFlags := 16, code := some k8c2 }
def k8c3 : Code := { maxStack := 7, maxLocals := 13, code := jdk_69_method_35_code, exceptionTable := #[], attributes := #[] }
def k8m3 : Method := { name := "computeIfAbsent", desc := "(Ljava/lang/Object;Ljava/util/function/Function;)Ljava/lang/Object;", sig := { parameters := [(.object "java/lang/Object"), (.object "java/util/function/Function")], returnType := some (.object "java/lang/Object") }, accessFlags := 1, code := some k8c3 }
def k8c4 : Code := { maxStack := 6, maxLocals := 5, code := jdk_69_method_46_code, exceptionTable := #[], attributes := #[] }
def k8m4 : Method := { name := "newNode", desc := "(ILjava/lang/Object;Ljava/lang/Object;Ljava/util/HashMap$Node;)Ljava/util/HashMap$Node;", sig := { parameters := [.int, (.object "java/lang/Object"), (.object "java/lang/Object"), (.object "java/util/HashMap$Node")], returnType := some (.object "java/util/HashMap$Node") }, accessFlags := 0, code := some k8c4 }
def k8c5 : Code := { maxStack := 0, maxLocals := 2, code := jdk_69_method_52_code, exceptionTable := #[], attributes := #[] }
def k8m5 : Method := { name := "afterNodeInsertion", desc := "(Z)V", sig := { parameters := [.boolean], returnType := none }, accessFlags := 0, code := some k8c5 }
/-- java/util/HashMap -/
def k8 : Class := { plain "java/util/HashMap" (some 5) with
  accessFlags := 33
  interfaces := #[4, 6, 7]
  cf := some (fileOf pool8 40 #[.nestMembers #[180, 596, 598, 600, 602, 604, 606, 608, 610, 346, 268, 263, 243, 163]] #[⟨24, 151, 33, #[]⟩, ⟨1, 47, 48, #[]⟩, ⟨16, 119, 120, #[]⟩, ⟨1, 533, 534, #[]⟩, ⟨0, 188, 189, #[]⟩, ⟨0, 207, 208, #[]⟩] 33 44 #[101, 392, 394] #[⟨26, 396, 397, #[]⟩, ⟨24, 401, 91, #[]⟩, ⟨24, 403, 91, #[]⟩, ⟨24, 404, 84, #[]⟩, ⟨24, 405, 91, #[]⟩, ⟨24, 407, 91, #[]⟩, ⟨24, 409, 91, #[]⟩, ⟨128, 107, 108, #[]⟩, ⟨128, 123, 242, #[]⟩, ⟨128, 104, 91, #[]⟩, ⟨128, 204, 91, #[]⟩, ⟨0, 90, 91, #[]⟩, ⟨16, 83, 84, #[]⟩])
  fields := #[⟨"serialVersionUID", .long, 26, 0, 0⟩, ⟨"DEFAULT_INITIAL_CAPACITY", .int, 24, 1, 0⟩, ⟨"MAXIMUM_CAPACITY", .int, 24, 2, 0⟩, ⟨"DEFAULT_LOAD_FACTOR", .float, 24, 3, 0⟩, ⟨"TREEIFY_THRESHOLD", .int, 24, 4, 0⟩, ⟨"UNTREEIFY_THRESHOLD", .int, 24, 5, 0⟩, ⟨"MIN_TREEIFY_CAPACITY", .int, 24, 6, 0⟩, ⟨"table", (.array (.object "java/util/HashMap$Node")), 128, 2, 0⟩, ⟨"entrySet", (.object "java/util/Set"), 128, 3, 0⟩, ⟨"size", .int, 128, 4, 0⟩, ⟨"modCount", .int, 128, 5, 0⟩, ⟨"threshold", .int, 0, 6, 0⟩, ⟨"loadFactor", .float, 16, 7, 0⟩]
  methods := #[k8m0, k8m1, k8m2, k8m3, k8m4, k8m5]
  instanceTypes := #[(.object "java/util/Set"), (.object "java/util/Collection"), (.array (.object "java/util/HashMap$Node")), (.object "java/util/Set"), .int, .int, .int, .float]
  staticTypes := #[.long, .int, .int, .float, .int, .int, .int]
  resolved := Array.replicate 629 none
  statics := none }

def pool9 : Array CpInfo := pool [(8, .class_ 10), (1, u "java/lang/Iterable"), (24, .class_ 36), (0, u "java/lang/Object")] 25

/-- java/lang/Iterable -/
def k9 : Class := { plain "java/lang/Iterable" (some 0) with
  accessFlags := 1537
  interfaces := #[]
  cf := some (fileOf pool9 8 #[] #[] 1537 35 #[] #[])
  fields := #[]
  methods := #[]
  instanceTypes := #[]
  staticTypes := #[]
  resolved := Array.replicate 62 none
  statics := none }

def pool10 : Array CpInfo := pool [(10, .class_ 12), (1, u "java/util/Collection"), (47, .class_ 61), (0, u "java/lang/Object"), (0, .class_ 63), (0, u "java/lang/Iterable")] 51

/-- java/util/Collection -/
def k10 : Class := { plain "java/util/Collection" (some 0) with
  accessFlags := 1537
  interfaces := #[9]
  cf := some (fileOf pool10 10 #[] #[] 1537 60 #[62] #[])
  fields := #[]
  methods := #[]
  instanceTypes := #[]
  staticTypes := #[]
  resolved := Array.replicate 115 none
  statics := none }

def pool11 : Array CpInfo := pool [(1, .methodref 2 3), (0, .class_ 4), (0, .nameAndType 5 6), (0, u "java/lang/Object"), (0, u "<init>"), (0, u "()V"), (1, .class_ 10), (1, u "java/util/AbstractCollection"), (66, .class_ 78), (0, u "java/util/Collection")] 81

def k11c0 : Code := { maxStack := 1, maxLocals := 1, code := jdk_22_method_1_code, exceptionTable := #[], attributes := #[] }
def k11m0 : Method := { name := "<init>", desc := "()V", sig := { parameters := [], returnType := none }, accessFlags := 4, code := some k11c0 }
/-- java/util/AbstractCollection -/
def k11 : Class := { plain "java/util/AbstractCollection" (some 0) with
  accessFlags := 1057
  interfaces := #[10]
  cf := some (fileOf pool11 8 #[] #[⟨4, 5, 6, #[]⟩] 1057 2 #[77] #[])
  fields := #[]
  methods := #[k11m0]
  instanceTypes := #[]
  staticTypes := #[]
  resolved := Array.replicate 160 none
  statics := none }

def pool12 : Array CpInfo := pool [(8, .class_ 10), (1, u "java/util/SequencedCollection"), (15, .class_ 27), (0, u "java/lang/Object"), (0, .class_ 29), (0, u "java/util/Collection")] 27

/-- java/util/SequencedCollection -/
def k12 : Class := { plain "java/util/SequencedCollection" (some 0) with
  accessFlags := 1537
  interfaces := #[10]
  cf := some (fileOf pool12 8 #[] #[] 1537 26 #[28] #[])
  fields := #[]
  methods := #[]
  instanceTypes := #[]
  staticTypes := #[]
  resolved := Array.replicate 57 none
  statics := none }

def pool13 : Array CpInfo := pool [(8, .class_ 10), (1, u "java/util/List"), (49, u "add"), (3, u "(Ljava/lang/Object;)Z"), (14, u "size"), (0, u "()I"), (22, .class_ 104), (0, u "java/lang/Object"), (15, .class_ 121), (0, u "java/util/SequencedCollection")] 129

def k13m0 : Method := { name := "size", desc := "()I", sig := { parameters := [], returnType := some .int }, accessFlags := 1025, code := none }
def k13m1 : Method := { name := "add", desc := "(Ljava/lang/Object;)Z", sig := { parameters := [(.object "java/lang/Object")], returnType := some .boolean }, accessFlags := 1025, code := none }
/-- java/util/List -/
def k13 : Class := { plain "java/util/List" (some 0) with
  accessFlags := 1537
  interfaces := #[12]
  cf := some (fileOf pool13 8 #[] #[⟨1025, 79, 80, #[]⟩, ⟨1025, 60, 64, #[]⟩] 1537 103 #[120] #[])
  fields := #[]
  methods := #[k13m0, k13m1]
  instanceTypes := #[]
  staticTypes := #[]
  resolved := Array.replicate 251 none
  statics := none }

def pool14 : Array CpInfo := pool [(1, .methodref 2 3), (0, .class_ 4), (0, .nameAndType 5 6), (0, u "java/util/AbstractCollection"), (0, u "<init>"), (0, u "()V"), (0, .fieldref 8 9), (0, .class_ 10), (0, .nameAndType 11 12), (0, u "java/util/AbstractList"), (0, u "modCount"), (0, u "I"), (64, .class_ 78), (0, u "java/util/AbstractList$Itr"), (3, .class_ 83), (0, u "java/util/AbstractList$ListItr"), (9, .class_ 94), (0, u "java/util/AbstractList$RandomAccessSubList"), (3, .class_ 99), (0, u "java/util/AbstractList$SubList"), (33, .class_ 134), (0, u "java/util/List"), (73, .class_ 209), (0, u "java/util/AbstractList$SubList$1"), (0, .class_ 211), (0, u "java/util/AbstractList$RandomAccessSpliterator")] 6

def k14c0 : Code := { maxStack := 2, maxLocals := 1, code := jdk_39_method_1_code, exceptionTable := #[], attributes := #[] }
def k14m0 : Method := { name := "<init>", desc := "()V", sig := { parameters := [], returnType := none }, accessFlags := 4, code := some k14c0 }
/-- java/util/AbstractList -/
def k14 : Class := { plain "java/util/AbstractList" (some 11) with
  accessFlags := 1057
  interfaces := #[13]
  cf := some (fileOf pool14 8 #[.nestMembers #[93, 98, 208, 210, 82, 77]] #[⟨4, 5, 6, #[]⟩] 1057 2 #[133] #[⟨132, 11, 12, #[]⟩])
  fields := #[⟨"modCount", .int, 132, 0, 0⟩]
  methods := #[k14m0]
  instanceTypes := #[.int]
  staticTypes := #[]
  resolved := Array.replicate 218 none
  statics := none }

def pool15 : Array CpInfo := pool [(1, .class_ 2), (0, u "java/util/RandomAccess"), (0, .class_ 4), (0, u "java/lang/Object")] 2

/-- java/util/RandomAccess -/
def k15 : Class := { plain "java/util/RandomAccess" (some 0) with
  accessFlags := 1537
  interfaces := #[]
  cf := some (fileOf pool15 1 #[] #[] 1537 3 #[] #[])
  fields := #[]
  methods := #[]
  instanceTypes := #[]
  staticTypes := #[]
  resolved := Array.replicate 7 none
  statics := none }

def pool16 : Array CpInfo := pool [(1, .methodref 2 3), (0, .class_ 4), (0, .nameAndType 5 6), (0, u "java/util/AbstractList"), (0, u "<init>"), (0, u "()V"), (0, .class_ 8), (0, u "java/lang/Object"), (0, .fieldref 10 11), (0, .class_ 12), (0, .nameAndType 13 14), (0, u "java/util/ArrayList"), (0, u "elementData"), (0, u "[Ljava/lang/Object;"), (2, u "EMPTY_ELEMENTDATA"), (21, .fieldref 10 40), (0, .nameAndType 41 14), (0, u "DEFAULTCAPACITY_EMPTY_ELEMENTDATA"), (5, u "()[Ljava/lang/Object;"), (0, .fieldref 10 49), (0, .nameAndType 50 51), (0, u "size"), (0, u "I"), (11, .fieldref 10 64), (0, .nameAndType 65 51), (0, u "modCount"), (3, .methodref 10 70), (0, .nameAndType 71 72), (0, u "grow"), (0, u "(I)[Ljava/lang/Object;"), (6, .methodref 80 81), (0, .class_ 82), (0, .nameAndType 83 84), (0, u "java/lang/Math"), (0, u "max"), (0, u "(II)I"), (11, u "(Ljava/lang/Object;)Z"), (32, .methodref 10 130), (0, .nameAndType 71 47), (0, .methodref 10 132), (0, .nameAndType 133 134), (0, u "add"), (0, u "(Ljava/lang/Object;[Ljava/lang/Object;I)V"), (13, .class_ 149), (0, u "java/util/List"), (36, u "()I"), (75, .class_ 263), (0, u "java/util/ArrayList$ListItr"), (3, .class_ 268), (0, u "java/util/ArrayList$Itr"), (7, .class_ 277), (0, u "java/util/ArrayList$SubList"), (12, .class_ 291), (0, u "java/util/ArrayList$ArrayListSpliterator"), (37, .class_ 330), (0, u "java/util/RandomAccess"), (0, .class_ 332), (0, u "java/lang/Cloneable"), (0, .class_ 334), (0, u "java/io/Serializable"), (0, u "serialVersionUID"), (0, u "J"), (3, u "DEFAULT_CAPACITY"), (159, .class_ 501), (0, u "java/util/ArrayList$SubList$2"), (0, .class_ 503), (0, u "java/util/ArrayList$SubList$1")] 5

def k16c0 : Code := { maxStack := 2, maxLocals := 1, code := jdk_38_method_2_code, exceptionTable := #[], attributes := #[] }
def k16m0 : Method := { name := "<init>", desc := "()V", sig := { parameters := [], returnType := none }, accessFlags := 1, code := some k16c0 }
def k16c1 : Code := { maxStack := 4, maxLocals := 4, code := jdk_38_method_6_code, exceptionTable := #[], attributes := #[] }
def k16m1 : Method := { name := "grow", desc := "(I)[Ljava/lang/Object;", sig := { parameters := [.int], returnType := some (.array (.object "java/lang/Object")) }, accessFlags := 2, code := some k16c1 }
def k16c2 : Code := { maxStack := 3, maxLocals := 1, code := jdk_38_method_7_code, exceptionTable := #[], attributes := #[] }
def k16m2 : Method := { name := "grow", desc := "()[Ljava/lang/Object;", sig := { parameters := [], returnType := some (.array (.object "java/lang/Object")) }, accessFlags := 2, code := some k16c2 }
def k16c3 : Code := { maxStack := 1, maxLocals := 1, code := jdk_38_method_8_code, exceptionTable := #[], attributes := #[] }
def k16m3 : Method := { name := "size", desc := "()I", sig := { parameters := [], returnType := some .int }, accessFlags := 1, code := some k16c3 }
def k16c4 : Code := { maxStack := 3, maxLocals := 4, code := jdk_38_method_24_code, exceptionTable := #[], attributes := #[] }
def k16m4 : Method := { name := "add", desc := "(Ljava/lang/Object;[Ljava/lang/Object;I)V", sig := { parameters := [(.object "java/lang/Object"), (.array (.object "java/lang/Object")), .int], returnType := none }, accessFlags := 2, code := some k16c4 }
def k16c5 : Code := { maxStack := 4, maxLocals := 2, code := jdk_38_method_25_code, exceptionTable := #[], attributes := #[] }
def k16m5 : Method := { name := "add", desc := "(Ljava/lang/Object;)Z", sig := { parameters := [(.object "java/lang/Object")], returnType := some .boolean }, accessFlags := 1, code := some k16c5 }
/-- java/util/ArrayList -/
def k16 : Class := { plain "java/util/ArrayList" (some 14) with
  accessFlags := 33
  interfaces := #[13, 15, 6, 7]
  cf := some (fileOf pool16 10 #[.nestMembers #[290, 276, 500, 502, 262, 267]] #[⟨1, 5, 6, #[]⟩, ⟨2, 71, 72, #[]⟩, ⟨2, 71, 47, #[]⟩, ⟨1, 50, 186, #[]⟩, ⟨2, 133, 134, #[]⟩, ⟨1, 133, 96, #[]⟩] 33 2 #[148, 329, 331, 333] #[⟨26, 335, 336, #[]⟩, ⟨26, 340, 51, #[]⟩, ⟨26, 17, 14, #[]⟩, ⟨26, 41, 14, #[]⟩, ⟨128, 13, 14, #[]⟩, ⟨2, 50, 51, #[]⟩])
  fields := #[⟨"serialVersionUID", .long, 26, 0, 0⟩, ⟨"DEFAULT_CAPACITY", .int, 26, 1, 0⟩, ⟨"EMPTY_ELEMENTDATA", (.array (.object "java/lang/Object")), 26, 2, 0⟩, ⟨"DEFAULTCAPACITY_EMPTY_ELEMENTDATA", (.array (.object "java/lang/Object")), 26, 3, 0⟩, ⟨"elementData", (.array (.object "java/lang/Object")), 128, 1, 0⟩, ⟨"size", .int, 2, 2, 0⟩]
  methods := #[k16m0, k16m1, k16m2, k16m3, k16m4, k16m5]
  instanceTypes := #[.int, (.array (.object "java/lang/Object")), .int]
  staticTypes := #[.long, .int, (.array (.object "java/lang/Object")), (.array (.object "java/lang/Object"))]
  resolved := Array.replicate 509 none
  statics := some 0 }

def pool17 : Array CpInfo := pool [(1, .class_ 2), (0, u "java/lang/Comparable"), (0, .class_ 4), (0, u "java/lang/Object")] 7

/-- java/lang/Comparable -/
def k17 : Class := { plain "java/lang/Comparable" (some 0) with
  accessFlags := 1537
  interfaces := #[]
  cf := some (fileOf pool17 1 #[] #[] 1537 3 #[] #[])
  fields := #[]
  methods := #[]
  instanceTypes := #[]
  staticTypes := #[]
  resolved := Array.replicate 12 none
  statics := none }

def pool18 : Array CpInfo := pool [(2, .class_ 4), (1, u "java/lang/CharSequence"), (42, .class_ 48), (0, u "java/lang/CharSequence$1CodePointIterator"), (10, .class_ 60), (0, u "java/lang/CharSequence$1CharIterator"), (5, .class_ 67), (0, u "java/lang/Object")] 63

/-- java/lang/CharSequence -/
def k18 : Class := { plain "java/lang/CharSequence" (some 0) with
  accessFlags := 1537
  interfaces := #[]
  cf := some (fileOf pool18 2 #[.nestMembers #[47, 59]] #[] 1537 66 #[] #[])
  fields := #[]
  methods := #[]
  instanceTypes := #[]
  staticTypes := #[]
  resolved := Array.replicate 131 none
  statics := none }

def pool19 : Array CpInfo := pool [(1, .class_ 2), (0, u "java/lang/constant/Constable"), (0, .class_ 4), (0, u "java/lang/Object")] 6

/-- java/lang/constant/Constable -/
def k19 : Class := { plain "java/lang/constant/Constable" (some 0) with
  accessFlags := 1537
  interfaces := #[]
  cf := some (fileOf pool19 1 #[] #[] 1537 3 #[] #[])
  fields := #[]
  methods := #[]
  instanceTypes := #[]
  staticTypes := #[]
  resolved := Array.replicate 11 none
  statics := none }

def pool20 : Array CpInfo := pool [(1, .class_ 2), (0, u "java/lang/constant/ConstantDesc"), (0, .class_ 4), (0, u "java/lang/Object")] 32

/-- java/lang/constant/ConstantDesc -/
def k20 : Class := { plain "java/lang/constant/ConstantDesc" (some 0) with
  accessFlags := 1537
  interfaces := #[]
  cf := some (fileOf pool20 1 #[] #[] 1537 3 #[] #[])
  fields := #[]
  methods := #[]
  instanceTypes := #[]
  staticTypes := #[]
  resolved := Array.replicate 37 none
  statics := none }

def pool21 : Array CpInfo := pool [(1, .methodref 2 3), (0, .class_ 4), (0, .nameAndType 5 6), (0, u "java/lang/Object"), (0, u "<init>"), (0, u "()V"), (2, .fieldref 10 11), (0, .class_ 12), (0, .nameAndType 13 14), (0, u "java/lang/String"), (0, u "value"), (0, u "[B"), (0, .fieldref 10 16), (0, .nameAndType 17 18), (0, u "coder"), (0, u "B"), (0, .fieldref 10 20), (0, .nameAndType 21 22), (0, u "hash"), (0, u "I"), (0, .fieldref 10 24), (0, .nameAndType 25 26), (0, u "hashIsZero"), (0, u "Z"), (0, .methodref 10 28), (0, .nameAndType 5 29), (0, u "([CIILjava/lang/Void;)V"), (8, .fieldref 10 39), (0, .nameAndType 40 26), (0, u "COMPACT_STRINGS"), (1, .class_ 44), (1, u "java/lang/StringUTF16"), (0, u "compress"), (1, .methodref 42 48), (0, .nameAndType 49 50), (0, u "coderFromArrayLen"), (0, u "([BI)B"), (56, .class_ 109), (1, u "java/lang/StringLatin1"), (32, u "()Z"), (34, .methodref 42 178), (0, .nameAndType 45 179), (0, u "([CII)[B"), (154, u "()I"), (0, .methodref 10 336), (0, .nameAndType 17 337), (0, u "()B"), (154, .methodref 10 493), (0, .nameAndType 494 142), (0, u "isLatin1"), (12, u "length"), (67, .class_ 576), (0, u "java/lang/CharSequence"), (22, u "CASE_INSENSITIVE_ORDER"), (0, u "Ljava/util/Comparator;"), (27, .methodref 107 629), (0, .nameAndType 630 631), (0, u "hashCode"), (0, u "([B)I"), (378, u "([C)V"), (90, u "serialPersistentFields"), (0, u "[Ljava/io/ObjectStreamField;"), (0, .class_ 1104), (0, u "java/lang/String$CaseInsensitiveComparator"), (1, .class_ 1107), (0, u "java/io/Serializable"), (0, .class_ 1109), (0, u "java/lang/Comparable"), (0, .class_ 1111), (0, u "java/lang/constant/Constable"), (0, .class_ 1113), (0, u "java/lang/constant/ConstantDesc"), (2, u "serialVersionUID"), (0, u "J"), (3, u "REPL"), (0, u "C"), (2, u "LATIN1"), (1, u "UTF16")] 323

def k21m0 : Method := { name := "<init>", desc := "()V", sig := { parameters := [], returnType := none }, accessFlags := 1, code := none }
def k21c1 : Code := { maxStack := 5, maxLocals := 2, code := jdk_42_method_3_code, exceptionTable := #[], attributes := #[] }
def k21m1 : Method := { name := "<init>", desc := "([C)V", sig := { parameters := [(.array .char)], returnType := none }, accessFlags := 1, code := some k21c1 }
def k21c2 : Code := { maxStack := 2, maxLocals := 1, code := jdk_42_method_54_code, exceptionTable := #[], attributes := #[] }
def k21m2 : Method := { name := "length", desc := "()I", sig := { parameters := [], returnType := some .int }, accessFlags := 1, code := some k21c2 }
def k21c3 : Code := { maxStack := 2, maxLocals := 2, code := jdk_42_method_78_code, exceptionTable := #[], attributes := #[] }
def k21m3 : Method := { name := "hashCode", desc := "()I", sig := { parameters := [], returnType := some .int }, accessFlags := 1, code := some k21c3 }
def k21c4 : Code := { maxStack := 4, maxLocals := 6, code := jdk_42_method_149_code, exceptionTable := #[], attributes := #[] }
def k21m4 : Method := { name := "<init>", desc := "([CIILjava/lang/Void;)V", sig := { parameters := [(.array .char), .int, .int, (.object "java/lang/Void")], returnType := none }, accessFlags := 2, code := some k21c4 }
def k21c5 : Code := { maxStack := 1, maxLocals := 1, code := jdk_42_method_152_code, exceptionTable := #[], attributes := #[] }
def k21m5 : Method := { name := "coder", desc := "()B", sig := { parameters := [], returnType := some .byte }, accessFlags := 0, code := some k21c5 }
def k21c6 : Code := { maxStack := 1, maxLocals := 1, code := jdk_42_method_154_code, exceptionTable := #[], attributes := #[] }
def k21m6 : Method := { name := "isLatin1", desc := "()Z", sig := { parameters := [], returnType := some .boolean }, accessFlags := 0, code := some k21c6 }
/-- java/lang/String -/
def k21 : Class := { plain "java/lang/String" (some 0) with
  accessFlags := 49
  interfaces := #[7, 17, 18, 19, 20]
  cf := some (fileOf pool21 10 #[.nestMembers #[1103]] #[⟨1, 5, 6, #[]⟩, ⟨1, 5, 1010, #[]⟩, ⟨1, 507, 334, #[]⟩, ⟨1, 630, 334, #[]⟩, ⟨2, 5, 29, #[]⟩, ⟨0, 17, 337, #[]⟩, ⟨0, 494, 142, #[]⟩] 49 2 #[1106, 1108, 575, 1110, 1112] #[⟨18, 13, 14, #[]⟩, ⟨18, 17, 18, #[]⟩, ⟨2, 21, 22, #[]⟩, ⟨2, 25, 26, #[]⟩, ⟨26, 1116, 1117, #[]⟩, ⟨24, 40, 26, #[]⟩, ⟨26, 1101, 1102, #[]⟩, ⟨26, 1121, 1122, #[]⟩, ⟨25, 599, 600, #[]⟩, ⟨24, 1125, 18, #[]⟩, ⟨24, 1127, 18, #[]⟩])
  fields := #[⟨"value", (.array .byte), 18, 0, 0⟩, ⟨"coder", .byte, 18, 1, 0⟩, ⟨"hash", .int, 2, 2, 0⟩, ⟨"hashIsZero", .boolean, 2, 3, 0⟩, ⟨"serialVersionUID", .long, 26, 0, 0⟩, ⟨"COMPACT_STRINGS", .boolean, 24, 1, 0⟩, ⟨"serialPersistentFields", (.array (.object "java/io/ObjectStreamField")), 26, 2, 0⟩, ⟨"REPL", .char, 26, 3, 0⟩, ⟨"CASE_INSENSITIVE_ORDER", (.object "java/util/Comparator"), 25, 4, 0⟩, ⟨"LATIN1", .byte, 24, 5, 0⟩, ⟨"UTF16", .byte, 24, 6, 0⟩]
  methods := #[k21m0, k21m1, k21m2, k21m3, k21m4, k21m5, k21m6]
  instanceTypes := #[(.array .byte), .byte, .int, .boolean]
  staticTypes := #[.long, .boolean, (.array (.object "java/io/ObjectStreamField")), .char, (.object "java/util/Comparator"), .byte, .byte]
  resolved := Array.replicate 1451 none
  statics := some 1 }

def pool22 : Array CpInfo := pool [(6, .class_ 8), (1, u "java/lang/Object"), (0, u "<init>"), (0, u "()V"), (1, .class_ 14), (1, u "java/lang/StringUTF16"), (31, u "$assertionsDisabled"), (0, u "Z"), (13, u "HI_BYTE_SHIFT"), (0, u "I"), (2, u "LO_BYTE_SHIFT"), (49, .methodref 12 116), (0, .nameAndType 117 118), (0, u "compress"), (0, u "([CI[BII)I"), (3, u "([CII)[B"), (138, u "coderFromArrayLen"), (0, u "([BI)B"), (106, .class_ 371), (1, u "java/lang/StringUTF16$LinesSpliterator"), (58, u "MAX_LENGTH"), (196, .class_ 628), (0, u "java/lang/StringUTF16$CodePointsSpliterator"), (0, .class_ 630), (0, u "java/lang/StringUTF16$CharsSpliterator")] 4

def k22m0 : Method := { name := "<init>", desc := "()V", sig := { parameters := [], returnType := none }, accessFlags := 0, code := none }
def k22c1 : Code := { maxStack := 2, maxLocals := 2, code := jdk_52_method_15_code, exceptionTable := #[], attributes := #[] }
def k22m1 : Method := { name := "coderFromArrayLen", desc := "([BI)B", sig := { parameters := [(.array .byte), .int], returnType := some .byte }, accessFlags := 8, code := some k22c1 }
def k22c2 : Code := { maxStack := 5, maxLocals := 6, code := jdk_52_method_16_code, exceptionTable := #[], attributes := #[] }
def k22m2 : Method := { name := "compress", desc := "([CII)[B", sig := { parameters := [(.array .char), .int, .int], returnType := some (.array .byte) }, accessFlags := 9, code := some k22c2 }
def k22c3 : Code := { maxStack := 3, maxLocals := 7, code := jdk_52_method_21_code, exceptionTable := #[], attributes := #[] }
def k22m3 : Method := { name := "compress", desc := "([CI[BII)I", sig := { parameters := [(.array .char), .int, (.array .byte), .int, .int], returnType := some .int }, accessFlags := 9, code := some k22c3 }
/-- java/lang/StringUTF16 -/
def k22 : Class := { plain "java/lang/StringUTF16" (some 0) with
  accessFlags := 48
  interfaces := #[]
  cf := some (fileOf pool22 12 #[.nestMembers #[627, 629, 369]] #[⟨0, 9, 10, #[]⟩, ⟨8, 261, 262, #[]⟩, ⟨9, 117, 122, #[]⟩, ⟨9, 117, 118, #[]⟩] 48 6 #[] #[⟨26, 61, 62, #[]⟩, ⟨26, 65, 62, #[]⟩, ⟨24, 430, 62, #[]⟩, ⟨4120, 46, 47, #[]⟩])
  fields := #[⟨"HI_BYTE_SHIFT", .int, 26, 0, 0⟩, ⟨"LO_BYTE_SHIFT", .int, 26, 1, 0⟩, ⟨"MAX_LENGTH", .int, 24, 2, 0⟩, ⟨"$assertionsDisabled", .boolean, 4120, 3, 0⟩]
  methods := #[k22m0, k22m1, k22m2, k22m3]
  instanceTypes := #[]
  staticTypes := #[.int, .int, .int, .boolean]
  resolved := Array.replicate 635 none
  statics := none }

def pool23 : Array CpInfo := pool [(6, u "(Ljava/lang/Object;)Ljava/lang/Object;"), (2, u "apply"), (6, .class_ 18), (1, u "java/util/function/Function"), (0, .class_ 20), (0, u "java/lang/Object")] 56

def k23m0 : Method := { name := "apply", desc := "(Ljava/lang/Object;)Ljava/lang/Object;", sig := { parameters := [(.object "java/lang/Object")], returnType := some (.object "java/lang/Object") }, accessFlags := 1025, code := none }
/-- java/util/function/Function -/
def k23 : Class := { plain "java/util/function/Function" (some 0) with
  accessFlags := 1537
  interfaces := #[]
  cf := some (fileOf pool23 16 #[] #[⟨1025, 9, 6, #[]⟩] 1537 19 #[] #[])
  fields := #[]
  methods := #[k23m0]
  instanceTypes := #[]
  staticTypes := #[]
  resolved := Array.replicate 77 none
  statics := none }

def pool24 : Array CpInfo := pool [(4, .class_ 6), (1, u "java/lang/Object"), (0, u "<init>"), (0, u "()V"), (5, .class_ 16), (1, u "java/lang/StringLatin1"), (40, u "([B)I"), (63, u "$assertionsDisabled"), (0, u "Z"), (98, .class_ 223), (1, u "java/lang/StringLatin1$LinesSpliterator"), (74, u "hashCode"), (91, .class_ 391), (0, u "java/lang/StringLatin1$CharsSpliterator")] 3

def k24m0 : Method := { name := "<init>", desc := "()V", sig := { parameters := [], returnType := none }, accessFlags := 0, code := none }
def k24c1 : Code := { maxStack := 5, maxLocals := 1, code := jdk_43_method_21_code, exceptionTable := #[], attributes := #[] }
def k24m1 : Method := { name := "hashCode", desc := "([B)I", sig := { parameters := [(.array .byte)], returnType := some .int }, accessFlags := 9, code := some k24c1 }
/-- java/lang/StringLatin1 -/
def k24 : Class := { plain "java/lang/StringLatin1" (some 0) with
  accessFlags := 48
  interfaces := #[]
  cf := some (fileOf pool24 14 #[.nestMembers #[390, 221]] #[⟨0, 7, 8, #[]⟩, ⟨9, 298, 57, #[]⟩] 48 4 #[] #[⟨4120, 121, 122, #[]⟩])
  fields := #[⟨"$assertionsDisabled", .boolean, 4120, 0, 0⟩]
  methods := #[k24m0, k24m1]
  instanceTypes := #[]
  staticTypes := #[.boolean]
  resolved := Array.replicate 395 none
  statics := none }

def pool25 : Array CpInfo := pool [(23, .class_ 25), (1, u "java/util/Map$Entry"), (6, .class_ 34), (1, u "java/util/Map"), (34, .class_ 70), (0, u "java/lang/Object")] 107

/-- java/util/Map$Entry -/
def k25 : Class := { plain "java/util/Map$Entry" (some 0) with
  accessFlags := 1537
  interfaces := #[]
  cf := some (fileOf pool25 23 #[.nestHost 32] #[] 1537 69 #[] #[])
  fields := #[]
  methods := #[]
  instanceTypes := #[]
  staticTypes := #[]
  resolved := Array.replicate 178 none
  statics := none }

def pool26 : Array CpInfo := pool [(1, .methodref 2 3), (0, .class_ 4), (0, .nameAndType 5 6), (0, u "java/lang/Object"), (0, u "<init>"), (0, u "()V"), (0, .fieldref 8 9), (0, .class_ 10), (0, .nameAndType 11 12), (0, u "java/util/HashMap$Node"), (0, u "hash"), (0, u "I"), (0, .fieldref 8 14), (0, .nameAndType 15 16), (0, u "key"), (0, u "Ljava/lang/Object;"), (0, .fieldref 8 18), (0, .nameAndType 19 16), (0, u "value"), (0, .fieldref 8 21), (0, .nameAndType 22 23), (0, u "next"), (0, u "Ljava/util/HashMap$Node;"), (22, .class_ 47), (0, u "java/util/Map$Entry"), (15, u "(ILjava/lang/Object;Ljava/lang/Object;Ljava/util/HashMap$Node;)V"), (24, .class_ 89), (0, u "java/util/HashMap")] 5

def k26c0 : Code := { maxStack := 2, maxLocals := 5, code := jdk_70_method_1_code, exceptionTable := #[], attributes := #[] }
def k26m0 : Method := { name := "<init>", desc := "(ILjava/lang/Object;Ljava/lang/Object;Ljava/util/HashMap$Node;)V", sig := { parameters := [.int, (.object "java/lang/Object"), (.object "java/lang/Object"), (.object "java/util/HashMap$Node")], returnType := none }, accessFlags := 0, code := some k26c0 }
/-- java/util/HashMap$Node -/
def k26 : Class := { plain "java/util/HashMap$Node" (some 0) with
  accessFlags := 32
  interfaces := #[25]
  cf := some (fileOf pool26 8 #[.nestHost 88] #[⟨0, 5, 63, #[]⟩] 32 2 #[46] #[⟨16, 11, 12, #[]⟩, ⟨16, 15, 16, #[]⟩, ⟨0, 19, 16, #[]⟩, ⟨0, 22, 23, #[]⟩])
  fields := #[⟨"hash", .int, 16, 0, 0⟩, ⟨"key", (.object "java/lang/Object"), 16, 1, 0⟩, ⟨"value", (.object "java/lang/Object"), 0, 2, 0⟩, ⟨"next", (.object "java/util/HashMap$Node"), 0, 3, 0⟩]
  methods := #[k26m0]
  instanceTypes := #[.int, (.object "java/lang/Object"), (.object "java/lang/Object"), (.object "java/util/HashMap$Node")]
  staticTypes := #[]
  resolved := Array.replicate 95 none
  statics := none }

def pool27 : Array CpInfo := pool [(1, .class_ 2), (0, u "java/lang/Math"), (1, .class_ 6), (1, u "java/lang/Object"), (0, u "<init>"), (0, u "()V"), (89, .class_ 100), (1, u "java/lang/Math$RandomNumberGeneratorHolder"), (71, u "negativeZeroFloatBits"), (0, u "J"), (2, u "negativeZeroDoubleBits"), (21, u "max"), (46, u "$assertionsDisabled"), (0, u "Z"), (88, u "(II)I"), (2, u "twoToTheDoubleScaleDown"), (0, u "D"), (4, u "twoToTheDoubleScaleUp"), (9, u "E"), (3, u "PI"), (2, u "TAU"), (2, u "DEGREES_TO_RADIANS"), (0, u "RADIANS_TO_DEGREES")] 94

def k27m0 : Method := { name := "<init>", desc := "()V", sig := { parameters := [], returnType := none }, accessFlags := 2, code := none }
def k27c1 : Code := { maxStack := 2, maxLocals := 2, code := jdk_29_method_65_code, exceptionTable := #[], attributes := #[] }
def k27m1 : Method := { name := "max", desc := "(II)I", sig := { parameters := [.int, .int], returnType := some .int }, accessFlags := 9, code := some k27c1 }
/-- java/lang/Math -/
def k27 : Class := { plain "java/lang/Math" (some 0) with
  accessFlags := 49
  interfaces := #[]
  cf := some (fileOf pool27 1 #[.nestMembers #[98]] #[⟨2, 7, 8, #[]⟩, ⟨9, 198, 335, #[]⟩] 49 4 #[] #[⟨25, 354, 339, #[]⟩, ⟨25, 358, 339, #[]⟩, ⟨25, 361, 339, #[]⟩, ⟨26, 364, 339, #[]⟩, ⟨26, 365, 339, #[]⟩, ⟨26, 172, 173, #[]⟩, ⟨26, 176, 173, #[]⟩, ⟨8, 344, 339, #[]⟩, ⟨8, 338, 339, #[]⟩, ⟨4120, 245, 246, #[]⟩])
  fields := #[⟨"E", .double, 25, 0, 0⟩, ⟨"PI", .double, 25, 1, 0⟩, ⟨"TAU", .double, 25, 2, 0⟩, ⟨"DEGREES_TO_RADIANS", .double, 26, 3, 0⟩, ⟨"RADIANS_TO_DEGREES", .double, 26, 4, 0⟩, ⟨"negativeZeroFloatBits", .long, 26, 5, 0⟩, ⟨"negativeZeroDoubleBits", .long, 26, 6, 0⟩, ⟨"twoToTheDoubleScaleUp", .double, 8, 7, 0⟩, ⟨"twoToTheDoubleScaleDown", .double, 8, 8, 0⟩, ⟨"$assertionsDisabled", .boolean, 4120, 9, 0⟩]
  methods := #[k27m0, k27m1]
  instanceTypes := #[]
  staticTypes := #[.double, .double, .double, .double, .double, .long, .long, .double, .double, .boolean]
  resolved := Array.replicate 460 none
  statics := none }

def pool28 : Array CpInfo := pool [(2, .class_ 4), (1, u "java/lang/Object"), (0, u "<init>"), (0, u "()V"), (1, .class_ 10), (1, u "java/lang/Number"), (2, .class_ 14), (0, u "java/io/Serializable"), (0, u "serialVersionUID"), (0, u "J")] 20

def k28m0 : Method := { name := "<init>", desc := "()V", sig := { parameters := [], returnType := none }, accessFlags := 1, code := none }
/-- java/lang/Number -/
def k28 : Class := { plain "java/lang/Number" (some 0) with
  accessFlags := 1057
  interfaces := #[7]
  cf := some (fileOf pool28 8 #[] #[⟨1, 5, 6, #[]⟩] 1057 2 #[13] #[⟨26, 15, 16, #[]⟩])
  fields := #[⟨"serialVersionUID", .long, 26, 0, 0⟩]
  methods := #[k28m0]
  instanceTypes := #[]
  staticTypes := #[.long]
  resolved := Array.replicate 37 none
  statics := none }

def pool29 : Array CpInfo := pool [(1, .class_ 2), (0, u "java/lang/Integer"), (16, u "digits"), (0, u "[C"), (64, u "DigitOnes"), (0, u "[B"), (2, u "DigitTens"), (31, u "()I"), (65, u "valueOf"), (0, u "(I)Ljava/lang/Integer;"), (0, .class_ 190), (0, u "java/lang/Integer$IntegerCache"), (0, .fieldref 189 192), (0, .nameAndType 193 194), (0, u "high"), (0, u "I"), (0, .fieldref 189 196), (0, .nameAndType 197 198), (0, u "cache"), (0, u "[Ljava/lang/Integer;"), (4, .class_ 204), (0, u "java/lang/Number"), (0, .fieldref 1 206), (0, .nameAndType 207 194), (0, u "value"), (5, u "intValue"), (88, u "TYPE"), (0, u "Ljava/lang/Class;"), (0, .class_ 305), (0, u "java/lang/Comparable"), (0, .class_ 307), (0, u "java/lang/constant/Constable"), (0, .class_ 309), (0, u "java/lang/constant/ConstantDesc"), (0, u "MIN_VALUE"), (1, u "MAX_VALUE"), (3, u "SIZE"), (1, u "BYTES"), (1, u "serialVersionUID"), (0, u "J")] 131

def k29c0 : Code := { maxStack := 3, maxLocals := 1, code := jdk_33_method_22_code, exceptionTable := #[], attributes := #[] }
def k29m0 : Method := { name := "valueOf", desc := "(I)Ljava/lang/Integer;", sig := { parameters := [.int], returnType := some (.object "java/lang/Integer") }, accessFlags := 9, code := some k29c0 }
def k29c1 : Code := { maxStack := 1, maxLocals := 1, code := jdk_33_method_27_code, exceptionTable := #[], attributes := #[] }
def k29m1 : Method := { name := "intValue", desc := "()I", sig := { parameters := [], returnType := some .int }, accessFlags := 1, code := some k29c1 }
/-- java/lang/Integer -/
def k29 : Class := { plain "java/lang/Integer" (some 28) with
  accessFlags := 49
  interfaces := #[17, 19, 20]
  cf := some (fileOf pool29 1 #[.nestMembers #[189]] #[⟨9, 187, 188, #[]⟩, ⟨1, 213, 121, #[]⟩] 49 203 #[304, 306, 308] #[⟨25, 310, 194, #[]⟩, ⟨25, 312, 194, #[]⟩, ⟨25, 302, 303, #[]⟩, ⟨24, 19, 20, #[]⟩, ⟨24, 89, 86, #[]⟩, ⟨24, 85, 86, #[]⟩, ⟨18, 207, 194, #[]⟩, ⟨25, 316, 194, #[]⟩, ⟨25, 318, 194, #[]⟩, ⟨26, 320, 321, #[]⟩])
  fields := #[⟨"MIN_VALUE", .int, 25, 0, 0⟩, ⟨"MAX_VALUE", .int, 25, 1, 0⟩, ⟨"TYPE", (.object "java/lang/Class"), 25, 2, 0⟩, ⟨"digits", (.array .char), 24, 3, 0⟩, ⟨"DigitTens", (.array .byte), 24, 4, 0⟩, ⟨"DigitOnes", (.array .byte), 24, 5, 0⟩, ⟨"value", .int, 18, 0, 0⟩, ⟨"SIZE", .int, 25, 6, 0⟩, ⟨"BYTES", .int, 25, 7, 0⟩, ⟨"serialVersionUID", .long, 26, 8, 0⟩]
  methods := #[k29m0, k29m1]
  instanceTypes := #[.int]
  staticTypes := #[.int, .int, (.object "java/lang/Class"), (.array .char), (.array .byte), (.array .byte), .int, .int, .long]
  resolved := Array.replicate 453 none
  statics := none }

def pool30 : Array CpInfo := pool [(2, .class_ 4), (1, u "java/lang/Object"), (0, u "<init>"), (0, u "()V"), (0, .class_ 8), (0, u "java/lang/Integer"), (7, .class_ 18), (1, u "java/lang/Integer$IntegerCache"), (0, u "$assertionsDisabled"), (0, u "Z"), (26, u "high"), (0, u "I"), (8, u "archivedCache"), (0, u "[Ljava/lang/Integer;"), (12, u "cache"), (0, u "low")] 27

def k30m0 : Method := { name := "<init>", desc := "()V", sig := { parameters := [], returnType := none }, accessFlags := 2, code := none }
/-- java/lang/Integer$IntegerCache -/
def k30 : Class := { plain "java/lang/Integer$IntegerCache" (some 0) with
  accessFlags := 48
  interfaces := #[]
  cf := some (fileOf pool30 16 #[.nestHost 7] #[⟨2, 5, 6, #[]⟩] 48 2 #[] #[⟨24, 72, 48, #[]⟩, ⟨24, 47, 48, #[]⟩, ⟨24, 71, 58, #[]⟩, ⟨8, 57, 58, #[]⟩, ⟨4120, 19, 20, #[]⟩])
  fields := #[⟨"low", .int, 24, 0, 0⟩, ⟨"high", .int, 24, 1, 0⟩, ⟨"cache", (.array (.object "java/lang/Integer")), 24, 2, 0⟩, ⟨"archivedCache", (.array (.object "java/lang/Integer")), 8, 3, 0⟩, ⟨"$assertionsDisabled", .boolean, 4120, 4, 0⟩]
  methods := #[k30m0]
  instanceTypes := #[]
  staticTypes := #[.int, .int, (.array (.object "java/lang/Integer")), (.array (.object "java/lang/Integer")), .boolean]
  resolved := Array.replicate 100 none
  statics := some 2 }

def pool31 : Array CpInfo := pool [(2, .class_ 4), (1, u "java/lang/Object"), (0, u "<init>"), (0, u "()V"), (17, .class_ 26), (1, u "jdk/internal/util/Preconditions"), (28, .class_ 56), (0, u "jdk/internal/util/Preconditions$4"), (57, .class_ 115), (0, u "jdk/internal/util/Preconditions$1"), (7, u "SIOOBE_FORMATTER"), (0, u "Ljava/util/function/BiFunction;"), (0, .class_ 126), (0, u "jdk/internal/util/Preconditions$2"), (3, u "AIOOBE_FORMATTER"), (0, .class_ 132), (0, u "jdk/internal/util/Preconditions$3"), (3, u "IOOBE_FORMATTER")] 57

def k31m0 : Method := { name := "<init>", desc := "()V", sig := { parameters := [], returnType := none }, accessFlags := 1, code := none }
/-- jdk/internal/util/Preconditions -/
def k31 : Class := { plain "jdk/internal/util/Preconditions" (some 0) with
  accessFlags := 33
  interfaces := #[]
  cf := some (fileOf pool31 24 #[.nestMembers #[55, 131, 125, 114]] #[⟨1, 5, 6, #[]⟩] 33 2 #[] #[⟨25, 123, 124, #[]⟩, ⟨25, 130, 124, #[]⟩, ⟨25, 136, 124, #[]⟩])
  fields := #[⟨"SIOOBE_FORMATTER", (.object "java/util/function/BiFunction"), 25, 0, 0⟩, ⟨"AIOOBE_FORMATTER", (.object "java/util/function/BiFunction"), 25, 1, 0⟩, ⟨"IOOBE_FORMATTER", (.object "java/util/function/BiFunction"), 25, 2, 0⟩]
  methods := #[k31m0]
  instanceTypes := #[]
  staticTypes := #[(.object "java/util/function/BiFunction"), (.object "java/util/function/BiFunction"), (.object "java/util/function/BiFunction")]
  resolved := Array.replicate 194 none
  statics := some 3 }

def pool32 : Array CpInfo := pool [(9, u "<init>"), (6, .class_ 18), (1, u "java/lang/Object"), (0, u "()V"), (1, .class_ 23), (1, u "jdk/internal/util/ArraysSupport"), (0, u "LOG2_ARRAY_LONG_INDEX_SCALE"), (0, u "I"), (2, u "U"), (0, u "Ljdk/internal/misc/Unsafe;"), (8, u "BIG_ENDIAN"), (0, u "Z"), (8, u "LOG2_BYTE_BIT_SIZE"), (4, u "LOG2_ARRAY_INT_INDEX_SCALE"), (54, u "JLA"), (0, u "Ljdk/internal/access/JavaLangAccess;"), (11, u "LOG2_ARRAY_BOOLEAN_INDEX_SCALE"), (9, u "LOG2_ARRAY_BYTE_INDEX_SCALE"), (5, u "LOG2_ARRAY_CHAR_INDEX_SCALE"), (5, u "LOG2_ARRAY_SHORT_INDEX_SCALE"), (18, u "LOG2_ARRAY_FLOAT_INDEX_SCALE"), (24, u "LOG2_ARRAY_DOUBLE_INDEX_SCALE"), (89, u "T_BOOLEAN"), (2, u "T_CHAR"), (1, u "T_FLOAT"), (1, u "T_DOUBLE"), (1, u "T_BYTE"), (1, u "T_SHORT"), (1, u "T_INT"), (1, u "T_LONG"), (1, u "SOFT_MAX_ARRAY_LENGTH")] 83

def k32m0 : Method := { name := "<init>", desc := "()V", sig := { parameters := [], returnType := none }, accessFlags := 2, code := none }
/-- jdk/internal/util/ArraysSupport -/
def k32 : Class := { plain "jdk/internal/util/ArraysSupport" (some 0) with
  accessFlags := 33
  interfaces := #[]
  cf := some (fileOf pool32 21 #[] #[⟨2, 9, 19, #[]⟩] 33 16 #[] #[⟨24, 28, 29, #[]⟩, ⟨26, 38, 39, #[]⟩, ⟨25, 121, 25, #[]⟩, ⟨25, 131, 25, #[]⟩, ⟨25, 137, 25, #[]⟩, ⟨25, 143, 25, #[]⟩, ⟨25, 53, 25, #[]⟩, ⟨25, 24, 25, #[]⟩, ⟨25, 162, 25, #[]⟩, ⟨25, 187, 25, #[]⟩, ⟨26, 48, 25, #[]⟩, ⟨25, 277, 25, #[]⟩, ⟨25, 280, 25, #[]⟩, ⟨25, 282, 25, #[]⟩, ⟨25, 284, 25, #[]⟩, ⟨25, 286, 25, #[]⟩, ⟨25, 288, 25, #[]⟩, ⟨25, 290, 25, #[]⟩, ⟨25, 292, 25, #[]⟩, ⟨26, 108, 109, #[]⟩, ⟨25, 294, 25, #[]⟩])
  fields := #[⟨"U", (.object "jdk/internal/misc/Unsafe"), 24, 0, 0⟩, ⟨"BIG_ENDIAN", .boolean, 26, 1, 0⟩, ⟨"LOG2_ARRAY_BOOLEAN_INDEX_SCALE", .int, 25, 2, 0⟩, ⟨"LOG2_ARRAY_BYTE_INDEX_SCALE", .int, 25, 3, 0⟩, ⟨"LOG2_ARRAY_CHAR_INDEX_SCALE", .int, 25, 4, 0⟩, ⟨"LOG2_ARRAY_SHORT_INDEX_SCALE", .int, 25, 5, 0⟩, ⟨"LOG2_ARRAY_INT_INDEX_SCALE", .int, 25, 6, 0⟩, ⟨"LOG2_ARRAY_LONG_INDEX_SCALE", .int, 25, 7, 0⟩, ⟨"LOG2_ARRAY_FLOAT_INDEX_SCALE", .int, 25, 8, 0⟩, ⟨"LOG2_ARRAY_DOUBLE_INDEX_SCALE", .int, 25, 9, 0⟩, ⟨"LOG2_BYTE_BIT_SIZE", .int, 26, 10, 0⟩, ⟨"T_BOOLEAN", .int, 25, 11, 0⟩, ⟨"T_CHAR", .int, 25, 12, 0⟩, ⟨"T_FLOAT", .int, 25, 13, 0⟩, ⟨"T_DOUBLE", .int, 25, 14, 0⟩, ⟨"T_BYTE", .int, 25, 15, 0⟩, ⟨"T_SHORT", .int, 25, 16, 0⟩, ⟨"T_INT", .int, 25, 17, 0⟩, ⟨"T_LONG", .int, 25, 18, 0⟩, ⟨"JLA", (.object "jdk/internal/access/JavaLangAccess"), 26, 19, 0⟩, ⟨"SOFT_MAX_ARRAY_LENGTH", .int, 25, 20, 0⟩]
  methods := #[k32m0]
  instanceTypes := #[]
  staticTypes := #[(.object "jdk/internal/misc/Unsafe"), .boolean, .int, .int, .int, .int, .int, .int, .int, .int, .int, .int, .int, .int, .int, .int, .int, .int, .int, (.object "jdk/internal/access/JavaLangAccess"), .int]
  resolved := Array.replicate 378 none
  statics := none }

/-- the primitive boolean -/
def k33 : Class := { plain "boolean" none with kind := .primitive 'Z', accessFlags := 0x411 }
/-- [Z -/
def k34 : Class := { plain "[Z" (some 0) with kind := .array 33 .boolean, interfaces := #[6, 7], accessFlags := 1041 }

/-- the primitive byte -/
def k35 : Class := { plain "byte" none with kind := .primitive 'B', accessFlags := 0x411 }
/-- [B -/
def k36 : Class := { plain "[B" (some 0) with kind := .array 35 .byte, interfaces := #[6, 7], accessFlags := 1041 }

/-- the primitive char -/
def k37 : Class := { plain "char" none with kind := .primitive 'C', accessFlags := 0x411 }
/-- [C -/
def k38 : Class := { plain "[C" (some 0) with kind := .array 37 .char, interfaces := #[6, 7], accessFlags := 1041 }

/-- the primitive int -/
def k39 : Class := { plain "int" none with kind := .primitive 'I', accessFlags := 0x411 }
/-- [I -/
def k40 : Class := { plain "[I" (some 0) with kind := .array 39 .int, interfaces := #[6, 7], accessFlags := 1041 }

/-- [Ljava/lang/Integer; -/
def k41 : Class := { plain "[Ljava/lang/Integer;" (some 0) with kind := .array 29 (.object "java/lang/Integer"), interfaces := #[6, 7], accessFlags := 1041 }

/-- [Ljava/lang/Object; -/
def k42 : Class := { plain "[Ljava/lang/Object;" (some 0) with kind := .array 0 (.object "java/lang/Object"), interfaces := #[6, 7], accessFlags := 1041 }

/-- [Ljava/util/HashMap$Node; -/
def k43 : Class := { plain "[Ljava/util/HashMap$Node;" (some 0) with kind := .array 26 (.object "java/util/HashMap$Node"), interfaces := #[6, 7], accessFlags := 1041 }

def classes0 : Array Class := #[k0, k1, k2, k3, k4, k5, k6, k7, k8, k9, k10, k11, k12, k13, k14, k15, k16, k17, k18, k19, k20, k21, k22, k23, k24, k25, k26, k27, k28, k29, k30, k31, k32, k33, k34, k35, k36, k37, k38, k39, k40, k41, k42, k43]
/-- the class that the rule has made for the site at 6 of com/example/informal_search/informalsearch/index/Numbering.number -/
def k44 : Class := Jvm.LamKit.madeRec { classes := classes0 } "com/example/informal_search/informalsearch/index/Numbering" (Jvm.Lambda.Shape.mk "java/util/function/Function" "apply" (Jvm.ClassFile.MethodDescriptor.mk ([(Jvm.ClassFile.FieldType.object "java/lang/Object")] : List Jvm.ClassFile.FieldType) (Option.some (Jvm.ClassFile.FieldType.object "java/lang/Object"))) ([(Jvm.ClassFile.FieldType.object "com/example/informal_search/informalsearch/index/Numbering")] : List Jvm.ClassFile.FieldType) (5 : Nat) "com/example/informal_search/informalsearch/index/Numbering" "newNumber" (Jvm.ClassFile.MethodDescriptor.mk ([(Jvm.ClassFile.FieldType.object "java/lang/String")] : List Jvm.ClassFile.FieldType) (Option.some Jvm.ClassFile.FieldType.int)) false (Jvm.ClassFile.MethodDescriptor.mk ([(Jvm.ClassFile.FieldType.object "java/lang/String")] : List Jvm.ClassFile.FieldType) (Option.some (Jvm.ClassFile.FieldType.object "java/lang/Integer")))) 44

def heap : Heap := #[{ cls := 16, slots := #[.long 0, .int 0, .ref 261, .ref 262], vm := .statics 16 },
  { cls := 21, slots := #[.long 0, .int 1, .null, .int 0, .null, .int 0, .int 0], vm := .statics 21 },
  { cls := 30, slots := #[.int 0, .int 127, .ref 4, .null, .int 0], vm := .statics 30 },
  { cls := 31, slots := #[.null, .null, .null], vm := .statics 31 },
  { cls := 41, slots := #[.ref 5, .ref 6, .ref 7, .ref 8, .ref 9, .ref 10, .ref 11, .ref 12, .ref 13, .ref 14, .ref 15, .ref 16, .ref 17, .ref 18, .ref 19, .ref 20, .ref 21, .ref 22, .ref 23, .ref 24, .ref 25, .ref 26, .ref 27, .ref 28, .ref 29, .ref 30, .ref 31, .ref 32, .ref 33, .ref 34, .ref 35, .ref 36, .ref 37, .ref 38, .ref 39, .ref 40, .ref 41, .ref 42, .ref 43, .ref 44, .ref 45, .ref 46, .ref 47, .ref 48, .ref 49, .ref 50, .ref 51, .ref 52, .ref 53, .ref 54, .ref 55, .ref 56, .ref 57, .ref 58, .ref 59, .ref 60, .ref 61, .ref 62, .ref 63, .ref 64, .ref 65, .ref 66, .ref 67, .ref 68, .ref 69, .ref 70, .ref 71, .ref 72, .ref 73, .ref 74, .ref 75, .ref 76, .ref 77, .ref 78, .ref 79, .ref 80, .ref 81, .ref 82, .ref 83, .ref 84, .ref 85, .ref 86, .ref 87, .ref 88, .ref 89, .ref 90, .ref 91, .ref 92, .ref 93, .ref 94, .ref 95, .ref 96, .ref 97, .ref 98, .ref 99, .ref 100, .ref 101, .ref 102, .ref 103, .ref 104, .ref 105, .ref 106, .ref 107, .ref 108, .ref 109, .ref 110, .ref 111, .ref 112, .ref 113, .ref 114, .ref 115, .ref 116, .ref 117, .ref 118, .ref 119, .ref 120, .ref 121, .ref 122, .ref 123, .ref 124, .ref 125, .ref 126, .ref 127, .ref 128, .ref 129, .ref 130, .ref 131, .ref 132, .ref 133, .ref 134, .ref 135, .ref 136, .ref 137, .ref 138, .ref 139, .ref 140, .ref 141, .ref 142, .ref 143, .ref 144, .ref 145, .ref 146, .ref 147, .ref 148, .ref 149, .ref 150, .ref 151, .ref 152, .ref 153, .ref 154, .ref 155, .ref 156, .ref 157, .ref 158, .ref 159, .ref 160, .ref 161, .ref 162, .ref 163, .ref 164, .ref 165, .ref 166, .ref 167, .ref 168, .ref 169, .ref 170, .ref 171, .ref 172, .ref 173, .ref 174, .ref 175, .ref 176, .ref 177, .ref 178, .ref 179, .ref 180, .ref 181, .ref 182, .ref 183, .ref 184, .ref 185, .ref 186, .ref 187, .ref 188, .ref 189, .ref 190, .ref 191, .ref 192, .ref 193, .ref 194, .ref 195, .ref 196, .ref 197, .ref 198, .ref 199, .ref 200, .ref 201, .ref 202, .ref 203, .ref 204, .ref 205, .ref 206, .ref 207, .ref 208, .ref 209, .ref 210, .ref 211, .ref 212, .ref 213, .ref 214, .ref 215, .ref 216, .ref 217, .ref 218, .ref 219, .ref 220, .ref 221, .ref 222, .ref 223, .ref 224, .ref 225, .ref 226, .ref 227, .ref 228, .ref 229, .ref 230, .ref 231, .ref 232, .ref 233, .ref 234, .ref 235, .ref 236, .ref 237, .ref 238, .ref 239, .ref 240, .ref 241, .ref 242, .ref 243, .ref 244, .ref 245, .ref 246, .ref 247, .ref 248, .ref 249, .ref 250, .ref 251, .ref 252, .ref 253, .ref 254, .ref 255, .ref 256, .ref 257, .ref 258, .ref 259, .ref 260], vm := .none },
  { cls := 29, slots := #[.int (-128)], vm := .none },
  { cls := 29, slots := #[.int (-127)], vm := .none },
  { cls := 29, slots := #[.int (-126)], vm := .none },
  { cls := 29, slots := #[.int (-125)], vm := .none },
  { cls := 29, slots := #[.int (-124)], vm := .none },
  { cls := 29, slots := #[.int (-123)], vm := .none },
  { cls := 29, slots := #[.int (-122)], vm := .none },
  { cls := 29, slots := #[.int (-121)], vm := .none },
  { cls := 29, slots := #[.int (-120)], vm := .none },
  { cls := 29, slots := #[.int (-119)], vm := .none },
  { cls := 29, slots := #[.int (-118)], vm := .none },
  { cls := 29, slots := #[.int (-117)], vm := .none },
  { cls := 29, slots := #[.int (-116)], vm := .none },
  { cls := 29, slots := #[.int (-115)], vm := .none },
  { cls := 29, slots := #[.int (-114)], vm := .none },
  { cls := 29, slots := #[.int (-113)], vm := .none },
  { cls := 29, slots := #[.int (-112)], vm := .none },
  { cls := 29, slots := #[.int (-111)], vm := .none },
  { cls := 29, slots := #[.int (-110)], vm := .none },
  { cls := 29, slots := #[.int (-109)], vm := .none },
  { cls := 29, slots := #[.int (-108)], vm := .none },
  { cls := 29, slots := #[.int (-107)], vm := .none },
  { cls := 29, slots := #[.int (-106)], vm := .none },
  { cls := 29, slots := #[.int (-105)], vm := .none },
  { cls := 29, slots := #[.int (-104)], vm := .none },
  { cls := 29, slots := #[.int (-103)], vm := .none },
  { cls := 29, slots := #[.int (-102)], vm := .none },
  { cls := 29, slots := #[.int (-101)], vm := .none },
  { cls := 29, slots := #[.int (-100)], vm := .none },
  { cls := 29, slots := #[.int (-99)], vm := .none },
  { cls := 29, slots := #[.int (-98)], vm := .none },
  { cls := 29, slots := #[.int (-97)], vm := .none },
  { cls := 29, slots := #[.int (-96)], vm := .none },
  { cls := 29, slots := #[.int (-95)], vm := .none },
  { cls := 29, slots := #[.int (-94)], vm := .none },
  { cls := 29, slots := #[.int (-93)], vm := .none },
  { cls := 29, slots := #[.int (-92)], vm := .none },
  { cls := 29, slots := #[.int (-91)], vm := .none },
  { cls := 29, slots := #[.int (-90)], vm := .none },
  { cls := 29, slots := #[.int (-89)], vm := .none },
  { cls := 29, slots := #[.int (-88)], vm := .none },
  { cls := 29, slots := #[.int (-87)], vm := .none },
  { cls := 29, slots := #[.int (-86)], vm := .none },
  { cls := 29, slots := #[.int (-85)], vm := .none },
  { cls := 29, slots := #[.int (-84)], vm := .none },
  { cls := 29, slots := #[.int (-83)], vm := .none },
  { cls := 29, slots := #[.int (-82)], vm := .none },
  { cls := 29, slots := #[.int (-81)], vm := .none },
  { cls := 29, slots := #[.int (-80)], vm := .none },
  { cls := 29, slots := #[.int (-79)], vm := .none },
  { cls := 29, slots := #[.int (-78)], vm := .none },
  { cls := 29, slots := #[.int (-77)], vm := .none },
  { cls := 29, slots := #[.int (-76)], vm := .none },
  { cls := 29, slots := #[.int (-75)], vm := .none },
  { cls := 29, slots := #[.int (-74)], vm := .none },
  { cls := 29, slots := #[.int (-73)], vm := .none },
  { cls := 29, slots := #[.int (-72)], vm := .none },
  { cls := 29, slots := #[.int (-71)], vm := .none },
  { cls := 29, slots := #[.int (-70)], vm := .none },
  { cls := 29, slots := #[.int (-69)], vm := .none },
  { cls := 29, slots := #[.int (-68)], vm := .none },
  { cls := 29, slots := #[.int (-67)], vm := .none },
  { cls := 29, slots := #[.int (-66)], vm := .none },
  { cls := 29, slots := #[.int (-65)], vm := .none },
  { cls := 29, slots := #[.int (-64)], vm := .none },
  { cls := 29, slots := #[.int (-63)], vm := .none },
  { cls := 29, slots := #[.int (-62)], vm := .none },
  { cls := 29, slots := #[.int (-61)], vm := .none },
  { cls := 29, slots := #[.int (-60)], vm := .none },
  { cls := 29, slots := #[.int (-59)], vm := .none },
  { cls := 29, slots := #[.int (-58)], vm := .none },
  { cls := 29, slots := #[.int (-57)], vm := .none },
  { cls := 29, slots := #[.int (-56)], vm := .none },
  { cls := 29, slots := #[.int (-55)], vm := .none },
  { cls := 29, slots := #[.int (-54)], vm := .none },
  { cls := 29, slots := #[.int (-53)], vm := .none },
  { cls := 29, slots := #[.int (-52)], vm := .none },
  { cls := 29, slots := #[.int (-51)], vm := .none },
  { cls := 29, slots := #[.int (-50)], vm := .none },
  { cls := 29, slots := #[.int (-49)], vm := .none },
  { cls := 29, slots := #[.int (-48)], vm := .none },
  { cls := 29, slots := #[.int (-47)], vm := .none },
  { cls := 29, slots := #[.int (-46)], vm := .none },
  { cls := 29, slots := #[.int (-45)], vm := .none },
  { cls := 29, slots := #[.int (-44)], vm := .none },
  { cls := 29, slots := #[.int (-43)], vm := .none },
  { cls := 29, slots := #[.int (-42)], vm := .none },
  { cls := 29, slots := #[.int (-41)], vm := .none },
  { cls := 29, slots := #[.int (-40)], vm := .none },
  { cls := 29, slots := #[.int (-39)], vm := .none },
  { cls := 29, slots := #[.int (-38)], vm := .none },
  { cls := 29, slots := #[.int (-37)], vm := .none },
  { cls := 29, slots := #[.int (-36)], vm := .none },
  { cls := 29, slots := #[.int (-35)], vm := .none },
  { cls := 29, slots := #[.int (-34)], vm := .none },
  { cls := 29, slots := #[.int (-33)], vm := .none },
  { cls := 29, slots := #[.int (-32)], vm := .none },
  { cls := 29, slots := #[.int (-31)], vm := .none },
  { cls := 29, slots := #[.int (-30)], vm := .none },
  { cls := 29, slots := #[.int (-29)], vm := .none },
  { cls := 29, slots := #[.int (-28)], vm := .none },
  { cls := 29, slots := #[.int (-27)], vm := .none },
  { cls := 29, slots := #[.int (-26)], vm := .none },
  { cls := 29, slots := #[.int (-25)], vm := .none },
  { cls := 29, slots := #[.int (-24)], vm := .none },
  { cls := 29, slots := #[.int (-23)], vm := .none },
  { cls := 29, slots := #[.int (-22)], vm := .none },
  { cls := 29, slots := #[.int (-21)], vm := .none },
  { cls := 29, slots := #[.int (-20)], vm := .none },
  { cls := 29, slots := #[.int (-19)], vm := .none },
  { cls := 29, slots := #[.int (-18)], vm := .none },
  { cls := 29, slots := #[.int (-17)], vm := .none },
  { cls := 29, slots := #[.int (-16)], vm := .none },
  { cls := 29, slots := #[.int (-15)], vm := .none },
  { cls := 29, slots := #[.int (-14)], vm := .none },
  { cls := 29, slots := #[.int (-13)], vm := .none },
  { cls := 29, slots := #[.int (-12)], vm := .none },
  { cls := 29, slots := #[.int (-11)], vm := .none },
  { cls := 29, slots := #[.int (-10)], vm := .none },
  { cls := 29, slots := #[.int (-9)], vm := .none },
  { cls := 29, slots := #[.int (-8)], vm := .none },
  { cls := 29, slots := #[.int (-7)], vm := .none },
  { cls := 29, slots := #[.int (-6)], vm := .none },
  { cls := 29, slots := #[.int (-5)], vm := .none },
  { cls := 29, slots := #[.int (-4)], vm := .none },
  { cls := 29, slots := #[.int (-3)], vm := .none },
  { cls := 29, slots := #[.int (-2)], vm := .none },
  { cls := 29, slots := #[.int (-1)], vm := .none },
  { cls := 29, slots := #[.int 0], vm := .none },
  { cls := 29, slots := #[.int 1], vm := .none },
  { cls := 29, slots := #[.int 2], vm := .none },
  { cls := 29, slots := #[.int 3], vm := .none },
  { cls := 29, slots := #[.int 4], vm := .none },
  { cls := 29, slots := #[.int 5], vm := .none },
  { cls := 29, slots := #[.int 6], vm := .none },
  { cls := 29, slots := #[.int 7], vm := .none },
  { cls := 29, slots := #[.int 8], vm := .none },
  { cls := 29, slots := #[.int 9], vm := .none },
  { cls := 29, slots := #[.int 10], vm := .none },
  { cls := 29, slots := #[.int 11], vm := .none },
  { cls := 29, slots := #[.int 12], vm := .none },
  { cls := 29, slots := #[.int 13], vm := .none },
  { cls := 29, slots := #[.int 14], vm := .none },
  { cls := 29, slots := #[.int 15], vm := .none },
  { cls := 29, slots := #[.int 16], vm := .none },
  { cls := 29, slots := #[.int 17], vm := .none },
  { cls := 29, slots := #[.int 18], vm := .none },
  { cls := 29, slots := #[.int 19], vm := .none },
  { cls := 29, slots := #[.int 20], vm := .none },
  { cls := 29, slots := #[.int 21], vm := .none },
  { cls := 29, slots := #[.int 22], vm := .none },
  { cls := 29, slots := #[.int 23], vm := .none },
  { cls := 29, slots := #[.int 24], vm := .none },
  { cls := 29, slots := #[.int 25], vm := .none },
  { cls := 29, slots := #[.int 26], vm := .none },
  { cls := 29, slots := #[.int 27], vm := .none },
  { cls := 29, slots := #[.int 28], vm := .none },
  { cls := 29, slots := #[.int 29], vm := .none },
  { cls := 29, slots := #[.int 30], vm := .none },
  { cls := 29, slots := #[.int 31], vm := .none },
  { cls := 29, slots := #[.int 32], vm := .none },
  { cls := 29, slots := #[.int 33], vm := .none },
  { cls := 29, slots := #[.int 34], vm := .none },
  { cls := 29, slots := #[.int 35], vm := .none },
  { cls := 29, slots := #[.int 36], vm := .none },
  { cls := 29, slots := #[.int 37], vm := .none },
  { cls := 29, slots := #[.int 38], vm := .none },
  { cls := 29, slots := #[.int 39], vm := .none },
  { cls := 29, slots := #[.int 40], vm := .none },
  { cls := 29, slots := #[.int 41], vm := .none },
  { cls := 29, slots := #[.int 42], vm := .none },
  { cls := 29, slots := #[.int 43], vm := .none },
  { cls := 29, slots := #[.int 44], vm := .none },
  { cls := 29, slots := #[.int 45], vm := .none },
  { cls := 29, slots := #[.int 46], vm := .none },
  { cls := 29, slots := #[.int 47], vm := .none },
  { cls := 29, slots := #[.int 48], vm := .none },
  { cls := 29, slots := #[.int 49], vm := .none },
  { cls := 29, slots := #[.int 50], vm := .none },
  { cls := 29, slots := #[.int 51], vm := .none },
  { cls := 29, slots := #[.int 52], vm := .none },
  { cls := 29, slots := #[.int 53], vm := .none },
  { cls := 29, slots := #[.int 54], vm := .none },
  { cls := 29, slots := #[.int 55], vm := .none },
  { cls := 29, slots := #[.int 56], vm := .none },
  { cls := 29, slots := #[.int 57], vm := .none },
  { cls := 29, slots := #[.int 58], vm := .none },
  { cls := 29, slots := #[.int 59], vm := .none },
  { cls := 29, slots := #[.int 60], vm := .none },
  { cls := 29, slots := #[.int 61], vm := .none },
  { cls := 29, slots := #[.int 62], vm := .none },
  { cls := 29, slots := #[.int 63], vm := .none },
  { cls := 29, slots := #[.int 64], vm := .none },
  { cls := 29, slots := #[.int 65], vm := .none },
  { cls := 29, slots := #[.int 66], vm := .none },
  { cls := 29, slots := #[.int 67], vm := .none },
  { cls := 29, slots := #[.int 68], vm := .none },
  { cls := 29, slots := #[.int 69], vm := .none },
  { cls := 29, slots := #[.int 70], vm := .none },
  { cls := 29, slots := #[.int 71], vm := .none },
  { cls := 29, slots := #[.int 72], vm := .none },
  { cls := 29, slots := #[.int 73], vm := .none },
  { cls := 29, slots := #[.int 74], vm := .none },
  { cls := 29, slots := #[.int 75], vm := .none },
  { cls := 29, slots := #[.int 76], vm := .none },
  { cls := 29, slots := #[.int 77], vm := .none },
  { cls := 29, slots := #[.int 78], vm := .none },
  { cls := 29, slots := #[.int 79], vm := .none },
  { cls := 29, slots := #[.int 80], vm := .none },
  { cls := 29, slots := #[.int 81], vm := .none },
  { cls := 29, slots := #[.int 82], vm := .none },
  { cls := 29, slots := #[.int 83], vm := .none },
  { cls := 29, slots := #[.int 84], vm := .none },
  { cls := 29, slots := #[.int 85], vm := .none },
  { cls := 29, slots := #[.int 86], vm := .none },
  { cls := 29, slots := #[.int 87], vm := .none },
  { cls := 29, slots := #[.int 88], vm := .none },
  { cls := 29, slots := #[.int 89], vm := .none },
  { cls := 29, slots := #[.int 90], vm := .none },
  { cls := 29, slots := #[.int 91], vm := .none },
  { cls := 29, slots := #[.int 92], vm := .none },
  { cls := 29, slots := #[.int 93], vm := .none },
  { cls := 29, slots := #[.int 94], vm := .none },
  { cls := 29, slots := #[.int 95], vm := .none },
  { cls := 29, slots := #[.int 96], vm := .none },
  { cls := 29, slots := #[.int 97], vm := .none },
  { cls := 29, slots := #[.int 98], vm := .none },
  { cls := 29, slots := #[.int 99], vm := .none },
  { cls := 29, slots := #[.int 100], vm := .none },
  { cls := 29, slots := #[.int 101], vm := .none },
  { cls := 29, slots := #[.int 102], vm := .none },
  { cls := 29, slots := #[.int 103], vm := .none },
  { cls := 29, slots := #[.int 104], vm := .none },
  { cls := 29, slots := #[.int 105], vm := .none },
  { cls := 29, slots := #[.int 106], vm := .none },
  { cls := 29, slots := #[.int 107], vm := .none },
  { cls := 29, slots := #[.int 108], vm := .none },
  { cls := 29, slots := #[.int 109], vm := .none },
  { cls := 29, slots := #[.int 110], vm := .none },
  { cls := 29, slots := #[.int 111], vm := .none },
  { cls := 29, slots := #[.int 112], vm := .none },
  { cls := 29, slots := #[.int 113], vm := .none },
  { cls := 29, slots := #[.int 114], vm := .none },
  { cls := 29, slots := #[.int 115], vm := .none },
  { cls := 29, slots := #[.int 116], vm := .none },
  { cls := 29, slots := #[.int 117], vm := .none },
  { cls := 29, slots := #[.int 118], vm := .none },
  { cls := 29, slots := #[.int 119], vm := .none },
  { cls := 29, slots := #[.int 120], vm := .none },
  { cls := 29, slots := #[.int 121], vm := .none },
  { cls := 29, slots := #[.int 122], vm := .none },
  { cls := 29, slots := #[.int 123], vm := .none },
  { cls := 29, slots := #[.int 124], vm := .none },
  { cls := 29, slots := #[.int 125], vm := .none },
  { cls := 29, slots := #[.int 126], vm := .none },
  { cls := 29, slots := #[.int 127], vm := .none },
  { cls := 42, slots := #[], vm := .none },
  { cls := 42, slots := #[], vm := .none }]
def classes : Array Class := #[k0, k1, k2, k3, k4, k5, k6, k7, k8, k9, k10, k11, k12, k13, k14, k15, k16, k17, k18, k19, k20, k21, k22, k23, k24, k25, k26, k27, k28, k29, k30, k31, k32, k33, k34, k35, k36, k37, k38, k39, k40, k41, k42, k43, k44]
def interned : List (Array UInt16 × Addr) := []
def slotsUsed : Nat := 531
def theMethod : MethodId := ⟨1, 1⟩
def args0 : Array Value := #[.int 5, .int 6, .int 7, .int 8, .int 9, .int 4]
def aboutOver (below : List Frame) : State where
  vm := { classes := classes, interned := interned.toArray }
  heap := heap
  slotsUsed := slotsUsed
  threads := #[{ frames := .invoking theMethod args0 :: below }]
def below0 : List Frame := [.native { method := ⟨0, 0⟩, args := #[] }]
def about1 : State := aboutOver below0
def p0 : Program := .bare "" "" ""
def e0 : Env := launch0.env 0 0 0
theorem w_frames : about1.frames = Frame.invoking theMethod args0 :: below0 := rfl
set_option maxRecDepth 65536 in
theorem w_args : argsFit about1.vm theMethod args0 = true := by decide +kernel
set_option maxRecDepth 65536 in
theorem w_heap : heapFits about1 = true := by decide +kernel
set_option maxRecDepth 65536 in
theorem w_runnable : about1.curStatus? = some .runnable := by decide +kernel
set_option maxRecDepth 65536 in
theorem w_alone : about1.alone = true := by decide +kernel
set_option maxRecDepth 65536 in
theorem w_named : about1.methodNamed? x = some theMethod := by decide +kernel
set_option maxRecDepth 65536 in
theorem w_hears : about1.hears theMethod below0 = true := by decide +kernel
set_option maxRecDepth 65536 in
theorem w_ripe : about1.ripe theMethod args0 below0 = true := by decide +kernel
theorem w_running : about1.status = .running := rfl
set_option maxRecDepth 65536 in
theorem w_room : about1.hasRoom e0.platform room_1 = true :=
  launch0.hasRoom_least _ room_1 (by decide +kernel) (by decide +kernel) (by decide +kernel) (by decide +kernel) (by decide +kernel) (by decide +kernel)
theorem allAtoms_all (ts : List Jvm.Cond) (a : Array Jvm.Value) (st : Jvm.State) : (allAtoms ts).before a st = ts.all (fun c => c.before a st) := by
  induction ts with
  | nil => rfl
  | cons c t ih =>
    show (Jvm.Cond.and c (allAtoms t)).before a st = _
    rw [Jvm.Cond.before_and, ih, List.all_cons]
def words1 : List Jvm.Cond := Jvm.Cond.code x code maxLocals ret :: tables_1
/-- a 'code' word, met by the world's own term for the bytes: nothing is compared byte by byte -/
theorem code_word {y : MethodName} {bytes : ByteArray} {mx : Nat} {rt : Option FieldType} {a : Array Value} {s : State} {m : MethodId} {meth : Method} {c : Code} (h1 : s.methodNamed? y = some m) (h2 : s.vm.method? m = some meth) (h3 : meth.code = some c) (h4 : c.code = bytes)
    (h5 : (c.maxLocals == mx && c.exceptionTable.isEmpty && decide (c.maxStack ≤ mostOperands) && decide (meth.sig.returnType = rt) && !meth.locks && decide (parseMethodDescriptor y.desc = some meth.sig)) = true) : (Jvm.Cond.code y bytes mx rt).before a s = true := by
  simp only [Bool.and_eq_true, beq_iff_eq, Bool.not_eq_true', decide_eq_true_eq] at h5
  obtain ⟨⟨⟨⟨⟨g1, g2⟩, g3⟩, g4⟩, g5⟩, g6⟩ := h5
  simp [Cond.before, Cond.holds, Cond.value, h1, h2, h3, h4, g1, g2, g3, g4, g5, g6]
def isCode : Jvm.Cond → Bool
  | .code _ _ _ _ => true
  | _ => false
theorem all_split {L : List Jvm.Cond} {P : Jvm.Cond → Bool} (h1 : L.all (fun c => isCode c || P c) = true) (h2 : ∀ c ∈ L.filter isCode, P c = true) : L.all P = true := by
  refine List.all_eq_true.mpr fun c hc => ?_
  have h := List.all_eq_true.mp h1 c hc
  rcases Bool.eq_false_or_eq_true (isCode c) with hi | hi
  · exact h2 c (List.mem_filter.mpr ⟨hc, hi⟩)
  · simpa [hi] using h
set_option maxRecDepth 65536 in
theorem w_c0 : (Jvm.Cond.code x code maxLocals ret).before args0 about1 = true := code_word (m := ⟨1, 1⟩) (meth := k1m1) (c := k1c1) (by decide +kernel) rfl rfl rfl (by decide +kernel)
set_option maxRecDepth 65536 in
theorem w_c1 : (Jvm.Cond.code y_8 prog_42_method_1_code (2 : Nat) (Option.none : Option Jvm.ClassFile.FieldType)).before args0 about1 = true := code_word (m := ⟨2, 0⟩) (meth := k2m0) (c := k2c0) (by decide +kernel) rfl rfl rfl (by decide +kernel)
set_option maxRecDepth 65536 in
theorem w_c2 : (Jvm.Cond.code y_0 object_method_1_code (1 : Nat) (Option.none : Option Jvm.ClassFile.FieldType)).before args0 about1 = true := code_word (m := ⟨0, 0⟩) (meth := k0m0) (c := k0c0) (by decide +kernel) rfl rfl rfl (by decide +kernel)
set_option maxRecDepth 65536 in
theorem w_c3 : (Jvm.Cond.code y_7 prog_42_method_9_code (1 : Nat) (Option.none : Option Jvm.ClassFile.FieldType)).before args0 about1 = true := code_word (m := ⟨2, 4⟩) (meth := k2m4) (c := k2c4) (by decide +kernel) rfl rfl rfl (by decide +kernel)
set_option maxRecDepth 65536 in
theorem w_c4 : (Jvm.Cond.code y_6 prog_38_method_1_code (1 : Nat) (Option.none : Option Jvm.ClassFile.FieldType)).before args0 about1 = true := code_word (m := ⟨3, 0⟩) (meth := k3m0) (c := k3c0) (by decide +kernel) rfl rfl rfl (by decide +kernel)
set_option maxRecDepth 65536 in
theorem w_c5 : (Jvm.Cond.code y_2 jdk_69_method_7_code (1 : Nat) (Option.none : Option Jvm.ClassFile.FieldType)).before args0 about1 = true := code_word (m := ⟨8, 1⟩) (meth := k8m1) (c := k8c1) (by decide +kernel) rfl rfl rfl (by decide +kernel)
set_option maxRecDepth 65536 in
theorem w_c6 : (Jvm.Cond.code y_1 jdk_71_method_1_code (1 : Nat) (Option.none : Option Jvm.ClassFile.FieldType)).before args0 about1 = true := code_word (m := ⟨5, 0⟩) (meth := k5m0) (c := k5c0) (by decide +kernel) rfl rfl rfl (by decide +kernel)
set_option maxRecDepth 65536 in
theorem w_c7 : (Jvm.Cond.code y_5 jdk_38_method_2_code (1 : Nat) (Option.none : Option Jvm.ClassFile.FieldType)).before args0 about1 = true := code_word (m := ⟨16, 0⟩) (meth := k16m0) (c := k16c0) (by decide +kernel) rfl rfl rfl (by decide +kernel)
set_option maxRecDepth 65536 in
theorem w_c8 : (Jvm.Cond.code y_4 jdk_39_method_1_code (1 : Nat) (Option.none : Option Jvm.ClassFile.FieldType)).before args0 about1 = true := code_word (m := ⟨14, 0⟩) (meth := k14m0) (c := k14c0) (by decide +kernel) rfl rfl rfl (by decide +kernel)
set_option maxRecDepth 65536 in
theorem w_c9 : (Jvm.Cond.code y_3 jdk_22_method_1_code (1 : Nat) (Option.none : Option Jvm.ClassFile.FieldType)).before args0 about1 = true := code_word (m := ⟨11, 0⟩) (meth := k11m0) (c := k11c0) (by decide +kernel) rfl rfl rfl (by decide +kernel)
set_option maxRecDepth 65536 in
theorem w_c10 : (Jvm.Cond.code y_9 prog_42_method_5_code (1 : Nat) (Option.some Jvm.ClassFile.FieldType.boolean)).before args0 about1 = true := code_word (m := ⟨2, 3⟩) (meth := k2m3) (c := k2c3) (by decide +kernel) rfl rfl rfl (by decide +kernel)
set_option maxRecDepth 65536 in
theorem w_c11 : (Jvm.Cond.code y_14 jdk_42_method_3_code (2 : Nat) (Option.none : Option Jvm.ClassFile.FieldType)).before args0 about1 = true := code_word (m := ⟨21, 1⟩) (meth := k21m1) (c := k21c1) (by decide +kernel) rfl rfl rfl (by decide +kernel)
set_option maxRecDepth 65536 in
theorem w_c12 : (Jvm.Cond.code y_13 jdk_42_method_149_code (6 : Nat) (Option.none : Option Jvm.ClassFile.FieldType)).before args0 about1 = true := code_word (m := ⟨21, 4⟩) (meth := k21m4) (c := k21c4) (by decide +kernel) rfl rfl rfl (by decide +kernel)
set_option maxRecDepth 65536 in
theorem w_c13 : (Jvm.Cond.code y_11 jdk_52_method_16_code (6 : Nat) (Option.some (Jvm.ClassFile.FieldType.array Jvm.ClassFile.FieldType.byte))).before args0 about1 = true := code_word (m := ⟨22, 2⟩) (meth := k22m2) (c := k22c2) (by decide +kernel) rfl rfl rfl (by decide +kernel)
set_option maxRecDepth 65536 in
theorem w_c14 : (Jvm.Cond.code y_10 jdk_52_method_21_code (7 : Nat) (Option.some Jvm.ClassFile.FieldType.int)).before args0 about1 = true := code_word (m := ⟨22, 3⟩) (meth := k22m3) (c := k22c3) (by decide +kernel) rfl rfl rfl (by decide +kernel)
set_option maxRecDepth 65536 in
theorem w_c15 : (Jvm.Cond.code y_12 jdk_52_method_15_code (2 : Nat) (Option.some Jvm.ClassFile.FieldType.byte)).before args0 about1 = true := code_word (m := ⟨22, 1⟩) (meth := k22m1) (c := k22c1) (by decide +kernel) rfl rfl rfl (by decide +kernel)
set_option maxRecDepth 65536 in
theorem w_c16 : (Jvm.Cond.code y_42 prog_42_method_2_code (2 : Nat) (Option.some Jvm.ClassFile.FieldType.int)).before args0 about1 = true := code_word (m := ⟨2, 1⟩) (meth := k2m1) (c := k2c1) (by decide +kernel) rfl rfl rfl (by decide +kernel)
set_option maxRecDepth 65536 in
theorem w_c17 : (Jvm.Cond.code y_41 prog_38_method_2_code (2 : Nat) (Option.some Jvm.ClassFile.FieldType.int)).before args0 about1 = true := code_word (m := ⟨3, 1⟩) (meth := k3m1) (c := k3c1) (by decide +kernel) rfl rfl rfl (by decide +kernel)
set_option maxRecDepth 65536 in
theorem w_c18 : (Jvm.Cond.code y_38 jdk_69_method_35_code (13 : Nat) (Option.some (Jvm.ClassFile.FieldType.object "java/lang/Object"))).before args0 about1 = true := code_word (m := ⟨8, 3⟩) (meth := k8m3) (c := k8c3) (by decide +kernel) rfl rfl rfl (by decide +kernel)
set_option maxRecDepth 65536 in
theorem w_c19 : (Jvm.Cond.code y_19 jdk_69_method_1_code (2 : Nat) (Option.some Jvm.ClassFile.FieldType.int)).before args0 about1 = true := code_word (m := ⟨8, 0⟩) (meth := k8m0) (c := k8c0) (by decide +kernel) rfl rfl rfl (by decide +kernel)
set_option maxRecDepth 65536 in
theorem w_c20 : (Jvm.Cond.code y_17 jdk_42_method_78_code (2 : Nat) (Option.some Jvm.ClassFile.FieldType.int)).before args0 about1 = true := code_word (m := ⟨21, 3⟩) (meth := k21m3) (c := k21c3) (by decide +kernel) rfl rfl rfl (by decide +kernel)
set_option maxRecDepth 65536 in
theorem w_c21 : (Jvm.Cond.code y_15 jdk_42_method_154_code (1 : Nat) (Option.some Jvm.ClassFile.FieldType.boolean)).before args0 about1 = true := code_word (m := ⟨21, 6⟩) (meth := k21m6) (c := k21c6) (by decide +kernel) rfl rfl rfl (by decide +kernel)
set_option maxRecDepth 65536 in
theorem w_c22 : (Jvm.Cond.code y_16 jdk_43_method_21_code (1 : Nat) (Option.some Jvm.ClassFile.FieldType.int)).before args0 about1 = true := code_word (m := ⟨24, 1⟩) (meth := k24m1) (c := k24c1) (by decide +kernel) rfl rfl rfl (by decide +kernel)
set_option maxRecDepth 65536 in
theorem w_c23 : (Jvm.Cond.code y_20 jdk_69_method_17_code (14 : Nat) (Option.some (Jvm.ClassFile.FieldType.array (Jvm.ClassFile.FieldType.object "java/util/HashMap$Node")))).before args0 about1 = true := code_word (m := ⟨8, 2⟩) (meth := k8m2) (c := k8c2) (by decide +kernel) rfl rfl rfl (by decide +kernel)
set_option maxRecDepth 65536 in
theorem w_c24 : (Jvm.Cond.code y_32 prog_38_method_8_code (2 : Nat) (Option.some Jvm.ClassFile.FieldType.int)).before args0 about1 = true := code_word (m := ⟨3, 3⟩) (meth := k3m3) (c := k3c3) (by decide +kernel) rfl rfl rfl (by decide +kernel)
set_option maxRecDepth 65536 in
theorem w_c25 : (Jvm.Cond.code y_25 jdk_38_method_25_code (2 : Nat) (Option.some Jvm.ClassFile.FieldType.boolean)).before args0 about1 = true := code_word (m := ⟨16, 5⟩) (meth := k16m5) (c := k16c5) (by decide +kernel) rfl rfl rfl (by decide +kernel)
set_option maxRecDepth 65536 in
theorem w_c26 : (Jvm.Cond.code y_24 jdk_38_method_24_code (4 : Nat) (Option.none : Option Jvm.ClassFile.FieldType)).before args0 about1 = true := code_word (m := ⟨16, 4⟩) (meth := k16m4) (c := k16c4) (by decide +kernel) rfl rfl rfl (by decide +kernel)
set_option maxRecDepth 65536 in
theorem w_c27 : (Jvm.Cond.code y_23 jdk_38_method_7_code (1 : Nat) (Option.some (Jvm.ClassFile.FieldType.array (Jvm.ClassFile.FieldType.object "java/lang/Object")))).before args0 about1 = true := code_word (m := ⟨16, 2⟩) (meth := k16m2) (c := k16c2) (by decide +kernel) rfl rfl rfl (by decide +kernel)
set_option maxRecDepth 65536 in
theorem w_c28 : (Jvm.Cond.code y_22 jdk_38_method_6_code (4 : Nat) (Option.some (Jvm.ClassFile.FieldType.array (Jvm.ClassFile.FieldType.object "java/lang/Object")))).before args0 about1 = true := code_word (m := ⟨16, 1⟩) (meth := k16m1) (c := k16c1) (by decide +kernel) rfl rfl rfl (by decide +kernel)
set_option maxRecDepth 65536 in
theorem w_c29 : (Jvm.Cond.code y_21 jdk_29_method_65_code (2 : Nat) (Option.some Jvm.ClassFile.FieldType.int)).before args0 about1 = true := code_word (m := ⟨27, 1⟩) (meth := k27m1) (c := k27c1) (by decide +kernel) rfl rfl rfl (by decide +kernel)
set_option maxRecDepth 65536 in
theorem w_c30 : (Jvm.Cond.code y_29 prog_38_method_3_code (1 : Nat) (Option.some Jvm.ClassFile.FieldType.long)).before args0 about1 = true := code_word (m := ⟨3, 2⟩) (meth := k3m2) (c := k3c2) (by decide +kernel) rfl rfl rfl (by decide +kernel)
set_option maxRecDepth 65536 in
theorem w_c31 : (Jvm.Cond.code y_28 jdk_42_method_54_code (1 : Nat) (Option.some Jvm.ClassFile.FieldType.int)).before args0 about1 = true := code_word (m := ⟨21, 2⟩) (meth := k21m2) (c := k21c2) (by decide +kernel) rfl rfl rfl (by decide +kernel)
set_option maxRecDepth 65536 in
theorem w_c32 : (Jvm.Cond.code y_27 jdk_42_method_152_code (1 : Nat) (Option.some Jvm.ClassFile.FieldType.byte)).before args0 about1 = true := code_word (m := ⟨21, 5⟩) (meth := k21m5) (c := k21c5) (by decide +kernel) rfl rfl rfl (by decide +kernel)
set_option maxRecDepth 65536 in
theorem w_c33 : (Jvm.Cond.code y_30 jdk_38_method_8_code (1 : Nat) (Option.some Jvm.ClassFile.FieldType.int)).before args0 about1 = true := code_word (m := ⟨16, 3⟩) (meth := k16m3) (c := k16c3) (by decide +kernel) rfl rfl rfl (by decide +kernel)
set_option maxRecDepth 65536 in
theorem w_c34 : (Jvm.Cond.code y_33 jdk_33_method_22_code (1 : Nat) (Option.some (Jvm.ClassFile.FieldType.object "java/lang/Integer"))).before args0 about1 = true := code_word (m := ⟨29, 0⟩) (meth := k29m0) (c := k29c0) (by decide +kernel) rfl rfl rfl (by decide +kernel)
set_option maxRecDepth 65536 in
theorem w_c35 : (Jvm.Cond.code y_36 jdk_69_method_46_code (5 : Nat) (Option.some (Jvm.ClassFile.FieldType.object "java/util/HashMap$Node"))).before args0 about1 = true := code_word (m := ⟨8, 4⟩) (meth := k8m4) (c := k8c4) (by decide +kernel) rfl rfl rfl (by decide +kernel)
set_option maxRecDepth 65536 in
theorem w_c36 : (Jvm.Cond.code y_35 jdk_70_method_1_code (5 : Nat) (Option.none : Option Jvm.ClassFile.FieldType)).before args0 about1 = true := code_word (m := ⟨26, 0⟩) (meth := k26m0) (c := k26c0) (by decide +kernel) rfl rfl rfl (by decide +kernel)
set_option maxRecDepth 65536 in
theorem w_c37 : (Jvm.Cond.code y_37 jdk_69_method_52_code (2 : Nat) (Option.none : Option Jvm.ClassFile.FieldType)).before args0 about1 = true := code_word (m := ⟨8, 5⟩) (meth := k8m5) (c := k8c5) (by decide +kernel) rfl rfl rfl (by decide +kernel)
set_option maxRecDepth 65536 in
theorem w_c38 : (Jvm.Cond.code y_40 jdk_33_method_27_code (1 : Nat) (Option.some Jvm.ClassFile.FieldType.int)).before args0 about1 = true := code_word (m := ⟨29, 1⟩) (meth := k29m1) (c := k29c1) (by decide +kernel) rfl rfl rfl (by decide +kernel)
set_option maxRecDepth 65536 in
theorem w_c39 : (Jvm.Cond.code y_43 prog_42_method_3_code (5 : Nat) (Option.none : Option Jvm.ClassFile.FieldType)).before args0 about1 = true := code_word (m := ⟨2, 2⟩) (meth := k2m2) (c := k2c2) (by decide +kernel) rfl rfl rfl (by decide +kernel)
def codes1 : List Jvm.Cond := [Jvm.Cond.code x code maxLocals ret, Jvm.Cond.code y_8 prog_42_method_1_code (2 : Nat) (Option.none : Option Jvm.ClassFile.FieldType), Jvm.Cond.code y_0 object_method_1_code (1 : Nat) (Option.none : Option Jvm.ClassFile.FieldType), Jvm.Cond.code y_7 prog_42_method_9_code (1 : Nat) (Option.none : Option Jvm.ClassFile.FieldType), Jvm.Cond.code y_6 prog_38_method_1_code (1 : Nat) (Option.none : Option Jvm.ClassFile.FieldType), Jvm.Cond.code y_2 jdk_69_method_7_code (1 : Nat) (Option.none : Option Jvm.ClassFile.FieldType), Jvm.Cond.code y_1 jdk_71_method_1_code (1 : Nat) (Option.none : Option Jvm.ClassFile.FieldType), Jvm.Cond.code y_5 jdk_38_method_2_code (1 : Nat) (Option.none : Option Jvm.ClassFile.FieldType), Jvm.Cond.code y_4 jdk_39_method_1_code (1 : Nat) (Option.none : Option Jvm.ClassFile.FieldType), Jvm.Cond.code y_3 jdk_22_method_1_code (1 : Nat) (Option.none : Option Jvm.ClassFile.FieldType), Jvm.Cond.code y_9 prog_42_method_5_code (1 : Nat) (Option.some Jvm.ClassFile.FieldType.boolean), Jvm.Cond.code y_14 jdk_42_method_3_code (2 : Nat) (Option.none : Option Jvm.ClassFile.FieldType), Jvm.Cond.code y_13 jdk_42_method_149_code (6 : Nat) (Option.none : Option Jvm.ClassFile.FieldType), Jvm.Cond.code y_11 jdk_52_method_16_code (6 : Nat) (Option.some (Jvm.ClassFile.FieldType.array Jvm.ClassFile.FieldType.byte)), Jvm.Cond.code y_10 jdk_52_method_21_code (7 : Nat) (Option.some Jvm.ClassFile.FieldType.int), Jvm.Cond.code y_12 jdk_52_method_15_code (2 : Nat) (Option.some Jvm.ClassFile.FieldType.byte), Jvm.Cond.code y_42 prog_42_method_2_code (2 : Nat) (Option.some Jvm.ClassFile.FieldType.int), Jvm.Cond.code y_41 prog_38_method_2_code (2 : Nat) (Option.some Jvm.ClassFile.FieldType.int), Jvm.Cond.code y_38 jdk_69_method_35_code (13 : Nat) (Option.some (Jvm.ClassFile.FieldType.object "java/lang/Object")), Jvm.Cond.code y_19 jdk_69_method_1_code (2 : Nat) (Option.some Jvm.ClassFile.FieldType.int), Jvm.Cond.code y_17 jdk_42_method_78_code (2 : Nat) (Option.some Jvm.ClassFile.FieldType.int), Jvm.Cond.code y_15 jdk_42_method_154_code (1 : Nat) (Option.some Jvm.ClassFile.FieldType.boolean), Jvm.Cond.code y_16 jdk_43_method_21_code (1 : Nat) (Option.some Jvm.ClassFile.FieldType.int), Jvm.Cond.code y_20 jdk_69_method_17_code (14 : Nat) (Option.some (Jvm.ClassFile.FieldType.array (Jvm.ClassFile.FieldType.object "java/util/HashMap$Node"))), Jvm.Cond.code y_32 prog_38_method_8_code (2 : Nat) (Option.some Jvm.ClassFile.FieldType.int), Jvm.Cond.code y_25 jdk_38_method_25_code (2 : Nat) (Option.some Jvm.ClassFile.FieldType.boolean), Jvm.Cond.code y_24 jdk_38_method_24_code (4 : Nat) (Option.none : Option Jvm.ClassFile.FieldType), Jvm.Cond.code y_23 jdk_38_method_7_code (1 : Nat) (Option.some (Jvm.ClassFile.FieldType.array (Jvm.ClassFile.FieldType.object "java/lang/Object"))), Jvm.Cond.code y_22 jdk_38_method_6_code (4 : Nat) (Option.some (Jvm.ClassFile.FieldType.array (Jvm.ClassFile.FieldType.object "java/lang/Object"))), Jvm.Cond.code y_21 jdk_29_method_65_code (2 : Nat) (Option.some Jvm.ClassFile.FieldType.int), Jvm.Cond.code y_29 prog_38_method_3_code (1 : Nat) (Option.some Jvm.ClassFile.FieldType.long), Jvm.Cond.code y_28 jdk_42_method_54_code (1 : Nat) (Option.some Jvm.ClassFile.FieldType.int), Jvm.Cond.code y_27 jdk_42_method_152_code (1 : Nat) (Option.some Jvm.ClassFile.FieldType.byte), Jvm.Cond.code y_30 jdk_38_method_8_code (1 : Nat) (Option.some Jvm.ClassFile.FieldType.int), Jvm.Cond.code y_33 jdk_33_method_22_code (1 : Nat) (Option.some (Jvm.ClassFile.FieldType.object "java/lang/Integer")), Jvm.Cond.code y_36 jdk_69_method_46_code (5 : Nat) (Option.some (Jvm.ClassFile.FieldType.object "java/util/HashMap$Node")), Jvm.Cond.code y_35 jdk_70_method_1_code (5 : Nat) (Option.none : Option Jvm.ClassFile.FieldType), Jvm.Cond.code y_37 jdk_69_method_52_code (2 : Nat) (Option.none : Option Jvm.ClassFile.FieldType), Jvm.Cond.code y_40 jdk_33_method_27_code (1 : Nat) (Option.some Jvm.ClassFile.FieldType.int), Jvm.Cond.code y_43 prog_42_method_3_code (5 : Nat) (Option.none : Option Jvm.ClassFile.FieldType)]
set_option maxRecDepth 65536 in
theorem codes_eq : words1.filter isCode = codes1 := rfl
theorem w_codes : ∀ c ∈ words1.filter isCode, c.before args0 about1 = true := by
  rw [codes_eq]
  intro c hc
  simp only [codes1, List.mem_cons, List.not_mem_nil, or_false] at hc
  rcases hc with rfl | rfl | rfl | rfl | rfl | rfl | rfl | rfl | rfl | rfl | rfl | rfl | rfl | rfl | rfl | rfl | rfl | rfl | rfl | rfl | rfl | rfl | rfl | rfl | rfl | rfl | rfl | rfl | rfl | rfl | rfl | rfl | rfl | rfl | rfl | rfl | rfl | rfl | rfl | rfl
  · exact w_c0
  · exact w_c1
  · exact w_c2
  · exact w_c3
  · exact w_c4
  · exact w_c5
  · exact w_c6
  · exact w_c7
  · exact w_c8
  · exact w_c9
  · exact w_c10
  · exact w_c11
  · exact w_c12
  · exact w_c13
  · exact w_c14
  · exact w_c15
  · exact w_c16
  · exact w_c17
  · exact w_c18
  · exact w_c19
  · exact w_c20
  · exact w_c21
  · exact w_c22
  · exact w_c23
  · exact w_c24
  · exact w_c25
  · exact w_c26
  · exact w_c27
  · exact w_c28
  · exact w_c29
  · exact w_c30
  · exact w_c31
  · exact w_c32
  · exact w_c33
  · exact w_c34
  · exact w_c35
  · exact w_c36
  · exact w_c37
  · exact w_c38
  · exact w_c39
set_option maxRecDepth 65536 in
theorem w_t1 : (words1.take 24).all (fun c => isCode c || c.before args0 about1) = true := by decide +kernel
set_option maxRecDepth 65536 in
theorem w_t2 : ((words1.drop 24).take 24).all (fun c => isCode c || c.before args0 about1) = true := by decide +kernel
set_option maxRecDepth 65536 in
theorem w_t3 : (((words1.drop 24).drop 24).take 24).all (fun c => isCode c || c.before args0 about1) = true := by decide +kernel
set_option maxRecDepth 65536 in
theorem w_t4 : ((((words1.drop 24).drop 24).drop 24).take 24).all (fun c => isCode c || c.before args0 about1) = true := by decide +kernel
set_option maxRecDepth 65536 in
theorem w_t5 : (((((words1.drop 24).drop 24).drop 24).drop 24).take 24).all (fun c => isCode c || c.before args0 about1) = true := by decide +kernel
set_option maxRecDepth 65536 in
theorem w_t6 : ((((((words1.drop 24).drop 24).drop 24).drop 24).drop 24).take 24).all (fun c => isCode c || c.before args0 about1) = true := by decide +kernel
set_option maxRecDepth 65536 in
theorem w_t7 : (((((((words1.drop 24).drop 24).drop 24).drop 24).drop 24).drop 24).take 24).all (fun c => isCode c || c.before args0 about1) = true := by decide +kernel
set_option maxRecDepth 65536 in
theorem w_t8 : ((((((((words1.drop 24).drop 24).drop 24).drop 24).drop 24).drop 24).drop 24).take 24).all (fun c => isCode c || c.before args0 about1) = true := by decide +kernel
set_option maxRecDepth 65536 in
theorem w_t9 : (((((((((words1.drop 24).drop 24).drop 24).drop 24).drop 24).drop 24).drop 24).drop 24).take 24).all (fun c => isCode c || c.before args0 about1) = true := by decide +kernel
set_option maxRecDepth 65536 in
theorem w_t10 : ((((((((((words1.drop 24).drop 24).drop 24).drop 24).drop 24).drop 24).drop 24).drop 24).drop 24).take 24).all (fun c => isCode c || c.before args0 about1) = true := by decide +kernel
set_option maxRecDepth 65536 in
theorem w_t11 : (((((((((((words1.drop 24).drop 24).drop 24).drop 24).drop 24).drop 24).drop 24).drop 24).drop 24).drop 24).take 24).all (fun c => isCode c || c.before args0 about1) = true := by decide +kernel
set_option maxRecDepth 65536 in
theorem w_t12 : ((((((((((((words1.drop 24).drop 24).drop 24).drop 24).drop 24).drop 24).drop 24).drop 24).drop 24).drop 24).drop 24).take 24).all (fun c => isCode c || c.before args0 about1) = true := by decide +kernel
set_option maxRecDepth 65536 in
theorem w_t13 : ((((((((((((words1.drop 24).drop 24).drop 24).drop 24).drop 24).drop 24).drop 24).drop 24).drop 24).drop 24).drop 24).drop 24).all (fun c => isCode c || c.before args0 about1) = true := by decide +kernel
theorem w_tables : (allAtoms (Jvm.Cond.code x code maxLocals ret :: tables_1)).before args0 about1 = true := by
  rw [allAtoms_all]
  show words1.all (fun c => c.before args0 about1) = true
  refine all_split ?_ w_codes
  rw [← List.take_append_drop 24 words1, List.all_append, w_t1, ← List.take_append_drop 24 (words1.drop 24), List.all_append, w_t2, ← List.take_append_drop 24 ((words1.drop 24).drop 24), List.all_append, w_t3, ← List.take_append_drop 24 (((words1.drop 24).drop 24).drop 24), List.all_append, w_t4, ← List.take_append_drop 24 ((((words1.drop 24).drop 24).drop 24).drop 24), List.all_append, w_t5, ← List.take_append_drop 24 (((((words1.drop 24).drop 24).drop 24).drop 24).drop 24), List.all_append, w_t6, ← List.take_append_drop 24 ((((((words1.drop 24).drop 24).drop 24).drop 24).drop 24).drop 24), List.all_append, w_t7, ← List.take_append_drop 24 (((((((words1.drop 24).drop 24).drop 24).drop 24).drop 24).drop 24).drop 24), List.all_append, w_t8, ← List.take_append_drop 24 ((((((((words1.drop 24).drop 24).drop 24).drop 24).drop 24).drop 24).drop 24).drop 24), List.all_append, w_t9, ← List.take_append_drop 24 (((((((((words1.drop 24).drop 24).drop 24).drop 24).drop 24).drop 24).drop 24).drop 24).drop 24), List.all_append, w_t10, ← List.take_append_drop 24 ((((((((((words1.drop 24).drop 24).drop 24).drop 24).drop 24).drop 24).drop 24).drop 24).drop 24).drop 24), List.all_append, w_t11, ← List.take_append_drop 24 (((((((((((words1.drop 24).drop 24).drop 24).drop 24).drop 24).drop 24).drop 24).drop 24).drop 24).drop 24).drop 24), List.all_append, w_t12, w_t13]
  rfl
set_option maxRecDepth 65536 in
theorem w_rest : rest_1_c.before args0 about1 = true := by decide +kernel
set_option maxRecDepth 65536 in
theorem w_case : (Jvm.Cond.and given_1 narrow_1).before args0 about1 = true := by decide +kernel
theorem w_applies : (headSpec (Jvm.Cond.code x code maxLocals ret :: tables_1) room_1).applies x e0.platform about1 = true :=
  (Spec.applies_iff w_frames).mpr ⟨w_running, w_runnable, w_alone, w_named, w_hears, w_ripe, w_room, w_tables⟩
theorem atStart : AtStart classFile x code maxLocals ret World_1 tables_1 room_1 Calls_1 rest_1 Pre_1 launch0 p0 e0 about1 theMethod args0 below0 :=
  ⟨lists_1, trivial, launch0.admits_env _ _ _, launch0.least_env, fairChoices_fair.cas, fairChoices_fair.clock, w_frames, w_args, w_heap, w_applies, trivial, w_rest, w_case⟩
end start1
theorem witness_1 : WitnessClaimed_1 := ⟨start1.p0, start1.e0, start1.about1, start1.theMethod, start1.args0, start1.below0, start1.atStart⟩
end Jvm.Pilot.@@N@@
