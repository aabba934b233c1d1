import JvmDerived
import JvmDerived.Pilot.@@N@@Statement
import JvmDerived.Pilot.@@N@@Code
set_option linter.unusedVariables false
set_option linter.unusedSimpArgs false
set_option maxRecDepth 65536
set_option maxHeartbeats 40000000
namespace Jvm.RoadKit
open Sem ClassFile Op Lib Jvm.Stand Jvm.Free Jvm.LawKit
section New
variable {p : Program} {l : Launch} {e : Env} {R : Room} {s : State} {m : MethodId} {args : Array Value} {below : List Frame} {meth : Method} {c : Code} {T : State} {locs : List Loc} {cells slots : Nat}
theorem retI (X : Stand p l e R s m args below meth c T locs cells slots) (hx : p.tables.exec = Jvm.exec) {pc : Nat} {Ls : Array Slot} {z : Int32} {rest : List Value} (hret : meth.sig.returnType = some .int) (hd : decode c.code pc = .ok (.ireturn, 1)) {fs : List Frame}
    (hl : ∀ (f : JFrame) (acts : List Action), f.method = m → f.locked = none → f.entered = [] → (doReturn e (T.setTop f) acts (some (.int z))).1 = T.setFrames fs) : Steps p.tables e below (T.setTop (mkF m pc Ls (.int z :: rest))) (T.setFrames fs) := by
  have hm' : T.vm.method? m = some meth := X.method'
  have hn : narrow .int (.int z) = .int z := rfl
  show Steps p.tables e below (T.setTop { method := m, pc := pc, locals := Ls, stack := _ :: rest, locked := none }) _
  jvm_step X.here [X.here.top, hx, hd, hm', hret, hn]
  first | (intro acts; rw [hl _ acts rfl rfl rfl]) | rw [hl _ _ rfl rfl rfl]
  exact Steps.refl _
end New
theorem hbx {c : ClassFile.Code} {code : ByteArray} (h : c.code = code) : ∀ ⦃pc : Nat⦄ ⦃r : Except ClassFile.DecodeError (ClassFile.Instr × Nat)⦄, decode code pc = r → decode c.code pc = r := fun _ _ q => hb h q
abbrev rmk (f c s l : Nat) : Room := { frames := f, cells := c, slots := s, locals := l }
section Sq
variable {p : Program} {l : Launch} {e : Env} {R : Room} {s : State} {m : MethodId} {args : Array Value} {below : List Frame} {meth : Method} {c : Code} {T target : State} {locs : List Loc} {cells slots pc : Nat} {Ls : Array Slot} {st : List Value}
theorem sI (X : Stand p l e R s m args below meth c T locs cells slots) (hx : p.tables.exec = Jvm.exec) {k : Fin 4} {v : Int32} (hd : decode c.code pc = .ok (.iload_n k, 1)) (hl : Ls[k.val]? = some (.val (.int v))) (K : Steps p.tables e below (T.setTop (mkF m (pc + 1) Ls (.int v :: st))) target) : Steps p.tables e below (T.setTop (mkF m pc Ls st)) target := XS.iloadN X.here hx rfl hd hl K
theorem sJ (X : Stand p l e R s m args below meth c T locs cells slots) (hx : p.tables.exec = Jvm.exec) {k : Nat} {v : Int32} (hd : decode c.code pc = .ok (.iload k, 2)) (hl : Ls[k]? = some (.val (.int v))) (K : Steps p.tables e below (T.setTop (mkF m (pc + 2) Ls (.int v :: st))) target) : Steps p.tables e below (T.setTop (mkF m pc Ls st)) target := XS.iload X.here hx rfl hd hl K
theorem sA (X : Stand p l e R s m args below meth c T locs cells slots) (hx : p.tables.exec = Jvm.exec) {k : Fin 4} {v : Value} (hd : decode c.code pc = .ok (.aload_n k, 1)) (hl : Ls[k.val]? = some (.val v)) (hv : v.isRef = true) (K : Steps p.tables e below (T.setTop (mkF m (pc + 1) Ls (v :: st))) target) : Steps p.tables e below (T.setTop (mkF m pc Ls st)) target := XS.aloadN X.here hx rfl hd hl hv K
theorem sB (X : Stand p l e R s m args below meth c T locs cells slots) (hx : p.tables.exec = Jvm.exec) {k : Nat} {v : Value} (hd : decode c.code pc = .ok (.aload k, 2)) (hl : Ls[k]? = some (.val v)) (hv : v.isRef = true) (K : Steps p.tables e below (T.setTop (mkF m (pc + 2) Ls (v :: st))) target) : Steps p.tables e below (T.setTop (mkF m pc Ls st)) target := XS.aload X.here hx rfl hd hl hv K
theorem sC (X : Stand p l e R s m args below meth c T locs cells slots) (hx : p.tables.exec = Jvm.exec) {i : Int} (hd : decode c.code pc = .ok (.iconst i, 1)) (K : Steps p.tables e below (T.setTop (mkF m (pc + 1) Ls (.int (Int32.ofInt i) :: st))) target) : Steps p.tables e below (T.setTop (mkF m pc Ls st)) target := XS.iconst X.here hx rfl hd K
end Sq
abbrev vi (x : Int32) : Slot := .val (.int x)
abbrev vr (a : Addr) : Slot := .val (.ref a)
abbrev un : Slot := .unset
theorem nl {a b : Nat} (h : Nat.ble a b = true) : a ≤ b := Nat.le_of_ble_eq_true h
abbrev jS : String := "java/lang/String"
theorem mo {α : Type} {l : List α} {a : α} (i : Nat) (h : l[i]? = some a) : a ∈ l := List.mem_of_getElem? h
theorem own_nf {Z s : State} {a0 : Array Value} {C : String} {y : MethodName} (hZ : Z.Warmed39 s.vm) (w : (Cond.selects C y y).before a0 Z = true) : NotFace s y := notFace_of_selects (args := #[]) (mvT hZ w)
theorem own_m0 {a : Addr} {l : List Addr} {P : Prop} : a ∈ a :: l ∨ P := Or.inl (List.mem_cons_self ..)
/-- a body's contract, written short -/
abbrev OwnMet (l : Launch) (Z : State) (y : MethodName) (bytes : ByteArray) (maxL : Nat) (ret : Option FieldType) (ws : List Cond) (rm : Room) (as' : Array Value) (h0 : Heap) (Q : Option Value → Heap → List Loc → Prop) : Prop :=
  MetFree l y (head1 (Cond.code y bytes maxL ret :: ws) rm) (fun a U => a = as' ∧ Z.Warmed39 U.vm ∧ U.heap = h0) (fun _ _ _ _ _ => True) (fun _ U o U' => ∃ v L, o = .returned v ∧ Q v U'.heap L ∧ FrameEnd U o U' L rm.cells rm.slots)
theorem own_body {l : Launch} {Z : State} {y : MethodName} {bytes : ByteArray} {maxL : Nat} {ret : Option FieldType} {ws : List Cond} {rm : Room} {as' : Array Value} {h0 : Heap} {Q : Option Value → Heap → List Loc → Prop} {L0 : Array Slot} (hp : plainFor y = true) (hef : ∀ m, entryFrame m as' maxL = mkF m 0 L0 [])
    (k : ∀ (p : Program) (e : Env) (s : State) (m : MethodId) (below : List Frame) (meth : Method) (c : Code) (s₁ : State), p.tables.exec = Jvm.exec → c.code = bytes → c.maxLocals = maxL → s.vm.findClass y.cls = some m.cls → meth.name = y.name → meth.sig.returnType = ret → Z.Warmed39 s.vm → Stand p l e rm s m as' below meth c s₁ [] 0 0 → s₁.heap = h0 →
      ∃ (T : State) (L : List Loc) (ce sl : Nat) (v : Option Value), Stand p l e rm s m as' below meth c T L ce sl ∧ (ret = none → v = none) ∧ ce ≤ rm.cells ∧ sl ≤ rm.slots ∧ Q v T.heap L ∧
        ∀ fs, (∀ (f : JFrame) (acts : List Action), f.method = m → f.locked = none → f.entered = [] → (doReturn e (T.setTop f) acts v).1 = T.setFrames fs) → Steps p.tables e below (s₁.setTop (mkF m 0 L0 [])) (T.setFrames fs)) :
    OwnMet l Z y bytes maxL ret ws rm as' h0 Q := by
  refine MetFree.of_bodySF hp hisR ?_
  intro p e s m args below meth c s₁ Bd hml hP hK
  obtain ⟨hargs, hZ, hh⟩ := hP
  subst hargs
  obtain ⟨T, L, ce, sl, v, X, hv, hc, hs, hq, st⟩ := k p e s m below meth c s₁ Bd.exec Bd.bytes hml (findClass_of_methodNamed Bd.named) (name_of_methodNamed Bd.named Bd.method).1 Bd.returns hZ (Stand.of_body Bd) (by rw [← hh, Bd.state]; rfl)
  obtain ⟨fs, hr, hrun, hended, hW, hsame⟩ := X.leave (v := v) (fun h => hv (Bd.returns ▸ h))
  exact ⟨_, _, castTop (hef m) (st fs hr), hrun, hended, v, L, rfl, hq, ⟨_, rfl⟩, hW, hsame.mono hc hs⟩
abbrev OwnMetW (l : Launch) (Z : State) (y : MethodName) (bytes : ByteArray) (maxL : Nat) (ret : Option FieldType) (ws : List Cond) (rm : Room) (as' : Array Value) (h0 : Heap) (Q : Option Value → Heap → List Loc → Prop) : Prop :=
  MetFree l y (head1 (Cond.code y bytes maxL ret :: ws) rm) (fun a U => a = as' ∧ Z.Warmed39 U.vm ∧ U.heap = h0 ∧ IB Z U.vm []) (fun _ _ _ _ _ => True) (fun _ U o U' => ∃ v L, o = .returned v ∧ Q v U'.heap L ∧ ReturnedEndW U o U' L rm.cells rm.slots)
theorem own_since (s : State) : s.Since s.vm s.heap.size := (State.WarmedH.refl s).since _
theorem own_wide {l : Launch} {Z : State} {y : MethodName} {bytes : ByteArray} {maxL : Nat} {ret : Option FieldType} {ws : List Cond} {rm : Room} {as' : Array Value} {h0 : Heap} {Q : Option Value → Heap → List Loc → Prop} (h : OwnMet l Z y bytes maxL ret ws rm as' h0 Q) : OwnMetW l Z y bytes maxL ret ws rm as' h0 Q :=
  MetFree.mono h (fun _ _ hp => ⟨hp.1, hp.2.1, hp.2.2.1⟩) (fun _ _ _ _ _ hk => hk) (fun _ _ _ _ _ ⟨v, L, h1, h2, h3⟩ => ⟨v, L, h1, h2, ReturnedEndW.of_narrow h3.1 h3.2.1 h3.2.2⟩)
theorem own_bodyW {l : Launch} {Z : State} {y : MethodName} {bytes : ByteArray} {maxL : Nat} {ret : Option FieldType} {ws : List Cond} {rm : Room} {as' : Array Value} {h0 : Heap} {Q : Option Value → Heap → List Loc → Prop} {L0 : Array Slot} (hp : plainFor y = true) (hef : ∀ m, entryFrame m as' maxL = mkF m 0 L0 [])
    (k : ∀ (p : Program) (e : Env) (s : State) (m : MethodId) (below : List Frame) (meth : Method) (c : Code) (s₁ : State), p.tables.exec = Jvm.exec → c.code = bytes → c.maxLocals = maxL → s.vm.findClass y.cls = some m.cls → meth.name = y.name → meth.sig.returnType = ret → Z.Warmed39 s.vm → s.heap = h0 → IB Z s.vm [] → Stand p l e rm s m as' below meth c s₁ [] 0 0 → s₁.heap = h0 →
      ∃ (T : State) (L : List Loc) (ce sl : Nat) (v : Option Value) (vm1 : Vm) (n : Nat), Stand p l e rm (s.setVm vm1) m as' below meth c T L ce sl ∧ s.Since vm1 n ∧ n ≤ T.heap.size ∧ (ret = none → v = none) ∧ ce ≤ rm.cells ∧ sl ≤ rm.slots ∧ Q v T.heap L ∧
        ∀ fs, (∀ (f : JFrame) (acts : List Action), f.method = m → f.locked = none → f.entered = [] → (doReturn e (T.setTop f) acts v).1 = T.setFrames fs) → Steps p.tables e below (s₁.setTop (mkF m 0 L0 [])) (T.setFrames fs)) :
    OwnMetW l Z y bytes maxL ret ws rm as' h0 Q := by
  refine MetFree.of_bodySF hp hisR ?_
  intro p e s m args below meth c s₁ Bd hml hP hK
  obtain ⟨hargs, hZ, hh, hI⟩ := hP
  subst hargs
  obtain ⟨T, L, ce, sl, v, vm1, n, X, hS, hn, hv, hc, hs, hq, st⟩ := k p e s m below meth c s₁ Bd.exec Bd.bytes hml (findClass_of_methodNamed Bd.named) (name_of_methodNamed Bd.named Bd.method).1 Bd.returns hZ hh hI (Stand.of_body Bd) (by rw [← hh, Bd.state]; rfl)
  obtain ⟨fs, hr, hrun, hended, hR⟩ := X.leaveW hS hn (v := v) (fun h => hv (Bd.returns ▸ h))
  exact ⟨_, _, castTop (hef m) (st fs hr), hrun, hended, v, L, rfl, hq, hR.1, hR.2.1, hR.2.2.1, hR.2.2.2.mono hc hs⟩
section Calls
variable {p : Program} {l : Launch} {e : Env} {R : Room} {s : State} {m : MethodId} {args : Array Value} {below : List Frame} {meth : Method} {c : Code} {T : State} {locs : List Loc} {cells slots : Nat} {Z : State} {a0 : Array Value} {h : Heap}
  {own : String} {index : Nat} {y z : MethodName} {bytes : ByteArray} {maxL : Nat} {ret : Option FieldType} {rm : Room} {as' : Array Value} {Q : Option Value → Heap → List Loc → Prop} {pc : Nat} {Ls : Array Slot} {argsL rest : List Value} {W : Nat}
/-- what a call leaves -/
abbrev OwnCame (p : Program) (l : Launch) (e : Env) (R : Room) (s : State) (m : MethodId) (args : Array Value) (below : List Frame) (meth : Method) (c : Code) (T : State) (locs : List Loc) (cells slots : Nat) (rm : Room) (Q : Option Value → Heap → List Loc → Prop) (pc pc' : Nat) (Ls : Array Slot) (st rest : List Value) : Prop :=
  ∃ (v : Option Value) (T' : State) (L : List Loc), Stand p l e R s m args below meth c T' (locs ++ L) (cells + rm.cells) (slots + rm.slots) ∧ Q v T'.heap L ∧
    ∀ target, Steps p.tables e below (T'.setTop (mkF m pc' Ls (v.toList ++ rest))) target → Steps p.tables e below (T.setTop (mkF m pc Ls st)) target
theorem own_callS (X : Stand p l e R s m args below meth c T locs cells slots) (hx : p.tables.exec = Jvm.exec) (hZ : Z.Warmed39 s.vm) (hown : s.vm.findClass own = some m.cls)
    (w1 : (Cond.methodLink own index y).before a0 Z = true) (w2 : (Cond.static y).before a0 Z = true) (w3 : (Cond.initialized y.cls).before a0 Z = true) (w4 : (Cond.code y bytes maxL ret).before a0 Z = true)
    (hM : OwnMet l Z y bytes maxL ret [] rm as' h Q) (eT : T.heap = h) (hsize : Ls.size = c.maxLocals) (hlen : ∀ sig, parseMethodDescriptor y.desc = some sig → argsL.length = sig.parameters.length) (hd : decode c.code pc = .ok (.invokestatic index, 3))
    (has : argsL.toArray = as' := by rfl) (hW : (rest.map fun v => v.category).sum ≤ W := by exact Nat.le_of_eq rfl) (hf : rm.frames + 1 ≤ R.frames := by decide) (hl : W + (maxL + 11) + rm.locals ≤ R.locals := by decide) (hc : cells + rm.cells ≤ R.cells := by decide) (hs : slots + rm.slots ≤ R.slots := by decide) (hy : y.cls ≠ "java/lang/invoke/MethodHandle" ∧ y.cls ≠ "java/lang/invoke/VarHandle" := by decide) :
    OwnCame p l e R s m args below meth c T locs cells slots rm Q pc (pc + 3) Ls (argsL.reverse ++ rest) rest := by
  obtain ⟨v, vm1, ⟨T', L', c', n'⟩, -, XB, ⟨L, hQ, l1, y1, z1⟩, st⟩ := Jvm.LawKit.callS X hx (y := y) hown (mvT hZ w1) (mvT hZ w2) (mvT hZ w3) (mvT hZ w4) hy (backOf (W := W) hM hZ w4 w3 hf hl) (g := mkF m pc Ls (argsL.reverse ++ rest)) rfl hsize (argsL := argsL) (rest := rest) hlen rfl (by show 2 * 0 + _ ≤ _; omega) hd (fun _ _ => ⟨has, eT, hc, hs⟩)
  dsimp only at XB l1 y1 z1 st hQ
  subst l1 y1 z1
  exact ⟨v, T', L, XB, hQ, st⟩
theorem own_special (X : Stand p l e R s m args below meth c T locs cells slots) (hx : p.tables.exec = Jvm.exec) (hZ : Z.Warmed39 s.vm) (hown : s.vm.findClass own = some m.cls) {a : Addr}
    (w1 : (Cond.methodLink own index y).before a0 Z = true) (w2 : (Cond.instanceMethod y).before a0 Z = true) (w3 : (Cond.initialized y.cls).before a0 Z = true) (w4 : (Cond.code y bytes maxL none).before a0 Z = true)
    (hM : OwnMet l Z y bytes maxL none [] rm as' h Q) (eT : T.heap = h) (hsize : Ls.size = c.maxLocals) (hlen : ∀ sig, parseMethodDescriptor y.desc = some sig → argsL.length = sig.parameters.length) (hd : decode c.code pc = .ok (.invokespecial index, 3))
    (has : (.ref a :: argsL).toArray = as' := by rfl) (hW : (rest.map fun v => v.category).sum ≤ W := by exact Nat.le_of_eq rfl) (hf : rm.frames + 1 ≤ R.frames := by decide) (hl : W + (maxL + 11) + rm.locals ≤ R.locals := by decide) (hc : cells + rm.cells ≤ R.cells := by decide) (hs : slots + rm.slots ≤ R.slots := by decide) (hy : y.cls ≠ "java/lang/invoke/MethodHandle" ∧ y.cls ≠ "java/lang/invoke/VarHandle" := by decide) (hy1 : y.name = "<init>" := by rfl) :
    OwnCame p l e R s m args below meth c T locs cells slots rm Q pc (pc + 3) Ls (argsL.reverse ++ .ref a :: rest) rest := by
  obtain ⟨v, vm1, ⟨T', L', c', n'⟩, -, XB, ⟨L, hQ, l1, y1, z1⟩, st⟩ := X.specialBack hx (y := y) hy1 hown (mvT hZ w1) (mvT hZ w2) (mvT hZ w4) hy (backOf (W := W) hM hZ w4 w3 hf hl) (g := mkF m pc Ls (argsL.reverse ++ .ref a :: rest)) rfl hsize (Steps.refl _) (a := a) (argsL := argsL) (rest := rest) hlen rfl (by show 2 * 0 + _ ≤ _; omega) hd (fun _ _ => ⟨has, eT, hc, hs⟩)
  dsimp only at XB l1 y1 z1 st hQ
  subst l1 y1 z1
  exact ⟨v, T', L, XB, hQ, fun t k => st.trans k⟩
theorem own_virtual (X : Stand p l e R s m args below meth c T locs cells slots) (hx : p.tables.exec = Jvm.exec) (hZ : Z.Warmed39 s.vm) (hown : s.vm.findClass own = some m.cls) {a : Addr} {C : String} (E : Exa Z h a C)
    (w1 : (Cond.methodLink own index y).before a0 Z = true) (w2 : (Cond.declares y).before a0 Z = true) (nf : NotFace s y) (w5 : (Cond.selects C y z).before a0 Z = true) (w6 : (Cond.instanceMethod z).before a0 Z = true) (w3 : (Cond.initialized z.cls).before a0 Z = true) (w4 : (Cond.code z bytes maxL ret).before a0 Z = true)
    (hM : OwnMet l Z z bytes maxL ret [] rm as' h Q) (eT : T.heap = h) (hsize : Ls.size = c.maxLocals) (hlen : ∀ sig, parseMethodDescriptor y.desc = some sig → argsL.length = sig.parameters.length) (hd : decode c.code pc = .ok (.invokevirtual index, 3))
    (has : (.ref a :: argsL).toArray = as' := by rfl) (hW : (rest.map fun v => v.category).sum ≤ W := by exact Nat.le_of_eq rfl) (hf : rm.frames + 1 ≤ R.frames := by decide) (hl : W + (maxL + 11) + rm.locals ≤ R.locals := by decide) (hc : cells + rm.cells ≤ R.cells := by decide) (hs : slots + rm.slots ≤ R.slots := by decide) (hy : y.cls ≠ "java/lang/invoke/MethodHandle" ∧ y.cls ≠ "java/lang/invoke/VarHandle" := by decide) :
    OwnCame p l e R s m args below meth c T locs cells slots rm Q pc (pc + 3) Ls (argsL.reverse ++ .ref a :: rest) rest := by
  obtain ⟨cB, kB, i1, -, i3⟩ := isOf hZ eT E
  obtain ⟨v, vm1, ⟨T', L', c', n'⟩, -, XB, ⟨L, hQ, l1, y1, z1⟩, st⟩ := X.virtualBack hx (y := y) (z := z) hown (mvT hZ w1) (mvT hZ w2) nf (mvT hZ w5) (mvT hZ w6) hy (backOf (W := W) hM hZ w4 w3 hf hl) i1 i3 (g := mkF m pc Ls (argsL.reverse ++ .ref a :: rest)) rfl hsize (Steps.refl _) (argsL := argsL) (rest := rest) hlen rfl (by show 2 * 0 + _ ≤ _; omega) hd (fun _ _ => ⟨has, eT, hc, hs⟩)
  dsimp only at XB l1 y1 z1 st hQ
  subst l1 y1 z1
  exact ⟨v, T', L, XB, hQ, fun t k => st.trans k⟩
end Calls
theorem own_c_nar_char (x : Int32) : ((nar .char x).toInt - x.toInt) % 65536 = 0 ∧ 0 ≤ (nar .char x).toInt ∧ (nar .char x).toInt < 65536 := c_i2c x
theorem own_c_nar_byte (x : Int32) : ((nar .byte x).toInt - x.toInt) % 256 = 0 ∧ -128 ≤ (nar .byte x).toInt ∧ (nar .byte x).toInt < 128 := c_i2b x
theorem own_mask (x m : Int32) (k : Nat) (hk : k ≤ 31) (hm : m.toBitVec.toNat = 2 ^ k - 1) (P : Int) (hP : ((2 ^ k : Nat) : Int) = P) : (x &&& m).toInt = x.toInt % P := by rw [← hP]; exact c_mask x m k hk hm
theorem own_shr (x q : Int32) (k : Nat) (hk : q.toBitVec.toNat % 32 = k) (P : Int) (hP : ((2 ^ k : Nat) : Int) = P) : (x >>> (q &&& 31)).toInt = x.toInt / P := by rw [← hP]; exact c_ishr x q k hk
theorem own_irem_eq (x y : Int32) : x - (x / y) * y = x % y := by
  have h : (x - (x / y) * y).toInt = (x % y).toInt := by
    rw [Int32.toInt_sub, Int32.toInt_mul, Int32.toInt_mod, Int32.toInt_div, Int.bmod_mul_bmod, Int.sub_bmod_bmod]
    have hx := x.le_toInt; have hx' := x.toInt_lt
    have e : x.toInt - x.toInt.tdiv y.toInt * y.toInt = x.toInt.tmod y.toInt := by rw [Int.tmod_def, Int.mul_comm]
    rw [e]
    have h4 : (x.toInt.tmod y.toInt) ≤ 2147483647 := by
      by_cases hp : 0 ≤ x.toInt
      · have := Int.natAbs_tmod x.toInt y.toInt; have := Nat.mod_le x.toInt.natAbs y.toInt.natAbs; omega
      · have := Int.tmod_nonneg (a := -x.toInt) y.toInt (by omega); rw [Int.neg_tmod] at this; omega
    have h5 : -2147483648 ≤ (x.toInt.tmod y.toInt) := by
      have := Int.natAbs_tmod x.toInt y.toInt; have := Nat.mod_le x.toInt.natAbs y.toInt.natAbs; omega
    exact Int.bmod_eq_of_le (by omega) (by omega)
  exact Int32.toInt_inj.mp h
theorem own_irem (x y : Int32) (d : Int) (hy : y.toInt = d) : (0 ≤ x.toInt → (x - (x / y) * y).toInt = x.toInt % d) ∧ (x.toInt < 0 → (x - (x / y) * y).toInt = -((-x.toInt) % d)) := by rw [own_irem_eq]; exact c_irem x y d hy
end Jvm.RoadKit
namespace Jvm.RoadKit
open Sem ClassFile Op Lib Jvm.Stand Jvm.Free Jvm.LawKit
section CallsW
variable {p : Program} {l : Launch} {e : Env} {R : Room} {s : State} {m : MethodId} {args : Array Value} {below : List Frame} {meth : Method} {c : Code} {T : State} {locs : List Loc} {cells slots : Nat} {Z : State} {a0 : Array Value} {h : Heap}
  {own : String} {index : Nat} {y z : MethodName} {bytes : ByteArray} {maxL : Nat} {ret : Option FieldType} {rm : Room} {as' : Array Value} {Q : Option Value → Heap → List Loc → Prop} {pc : Nat} {Ls : Array Slot} {argsL rest : List Value} {W : Nat}
theorem own_IB {vm0 vm1 : Vm} {Ts : List String} (e : vm1.interned = vm0.interned) (I : IB Z vm0 Ts) : IB Z vm1 Ts := by
  obtain ⟨more, q, hm⟩ := I
  exact ⟨more, e.trans q, hm⟩
theorem own_backW {len : Nat} (hM : OwnMetW l Z y bytes maxL ret [] rm as' h Q) (hZ : Z.Warmed39 s.vm) (hI : IB Z s.vm []) (wc : (Cond.code y bytes maxL ret).before a0 Z = true) (wz : (Cond.initialized y.cls).before a0 Z = true) (hf : rm.frames + 1 ≤ R.frames) (hl : W + (maxL + 11) + rm.locals ≤ R.locals) :
    BackS l R p e below s args y len W (fun A a => a = as' ∧ A.U.heap = h ∧ A.cells + rm.cells ≤ R.cells ∧ A.slots + rm.slots ≤ R.slots)
      (fun A _ v B => ∃ L, Q v B.U.heap L ∧ B.locs = A.locs ++ L ∧ B.cells = A.cells + rm.cells ∧ B.slots = A.slots + rm.slots) :=
  BackS.of_freeW (bytes := bytes) (maxL := maxL) (ret := ret) (E := fun _ _ o t L k n => k = rm.cells ∧ n = rm.slots ∧ ∃ v, o = .returned v ∧ Q v t.heap L) hM hf hl
    (fun m meth c A a Y hp => have hU : Z.Warmed39 A.U.vm := wtrans hZ Y.warmed
      ⟨by show (Cond.and _ .tt).before a A.U = true; rw [Cond.before_and, mv hU wc]; rfl, mv hU wc, mv hU wz, hp.2.2.1, hp.2.2.2⟩)
    (fun m meth c A a g mk Y hp => ⟨hp.1, wtrans hZ Y.warmed, hp.2.1, own_IB Y.warmed.interned_eq hI⟩) (fun _ _ _ _ _ _ _ _ _ => trivial)
    (fun _ _ _ _ ⟨v, L, h1, h2, h3⟩ => ⟨L, _, _, h3, rfl, rfl, v, h1, h2⟩)
    (fun m meth c A a g mk v t L k n Y hp _ _ ⟨e1, e2, v', e3, e4⟩ => by cases e3; subst e1 e2; exact ⟨L, e4, rfl, rfl, rfl⟩)
abbrev OwnCameW (p : Program) (l : Launch) (e : Env) (R : Room) (s : State) (m : MethodId) (args : Array Value) (below : List Frame) (meth : Method) (c : Code) (T : State) (locs : List Loc) (cells slots : Nat) (Z : State) (own : String) (rm : Room) (Q : Option Value → Heap → List Loc → Prop) (pc pc' : Nat) (Ls : Array Slot) (st rest : List Value) : Prop :=
  ∃ (v : Option Value) (T' : State) (L : List Loc), Stand p l e R (s.setVm T'.vm) m args below meth c T' (locs ++ L) (cells + rm.cells) (slots + rm.slots) ∧ Q v T'.heap L ∧ s.Since T'.vm T'.heap.size ∧ Z.Warmed39 (s.setVm T'.vm).vm ∧ (s.setVm T'.vm).vm.findClass own = some m.cls ∧
    ∀ target, Steps p.tables e below (T'.setTop (mkF m pc' Ls (v.toList ++ rest))) target → Steps p.tables e below (T.setTop (mkF m pc Ls st)) target
theorem own_callSW (X : Stand p l e R s m args below meth c T locs cells slots) (hx : p.tables.exec = Jvm.exec) (hZ : Z.Warmed39 s.vm) (hown : s.vm.findClass own = some m.cls) (hI : IB Z s.vm [])
    (w1 : (Cond.methodLink own index y).before a0 Z = true) (w2 : (Cond.static y).before a0 Z = true) (w3 : (Cond.initialized y.cls).before a0 Z = true) (w4 : (Cond.code y bytes maxL ret).before a0 Z = true)
    (hM : OwnMetW l Z y bytes maxL ret [] rm as' h Q) (eT : T.heap = h) (hsize : Ls.size = c.maxLocals) (hlen : ∀ sig, parseMethodDescriptor y.desc = some sig → argsL.length = sig.parameters.length) (hd : decode c.code pc = .ok (.invokestatic index, 3))
    (has : argsL.toArray = as' := by rfl) (hW : (rest.map fun v => v.category).sum ≤ W := by exact Nat.le_of_eq rfl) (hf : rm.frames + 1 ≤ R.frames := by decide) (hl : W + (maxL + 11) + rm.locals ≤ R.locals := by decide) (hc : cells + rm.cells ≤ R.cells := by decide) (hs : slots + rm.slots ≤ R.slots := by decide) (hy : y.cls ≠ "java/lang/invoke/MethodHandle" ∧ y.cls ≠ "java/lang/invoke/VarHandle" := by decide) :
    OwnCameW p l e R s m args below meth c T locs cells slots Z own rm Q pc (pc + 3) Ls (argsL.reverse ++ rest) rest := by
  obtain ⟨v, vm1, ⟨T', L', c', n'⟩, -, XB, hS, -, ⟨L, hQ, l1, y1, z1⟩, st⟩ := callSS X hx (y := y) hown (mvT hZ w1) (mvT hZ w2) (mvT hZ w3) (mvT hZ w4) hy (own_backW (W := W) hM hZ hI w4 w3 hf hl) (g := mkF m pc Ls (argsL.reverse ++ rest)) rfl hsize (argsL := argsL) (rest := rest) hlen rfl (by show 2 * 0 + _ ≤ _; omega) hd (fun _ _ => ⟨has, eT, hc, hs⟩)
  dsimp only at XB l1 y1 z1 st hQ hS
  subst l1 y1 z1
  exact ⟨v, T', L, XB, hQ, hS, State.Warmed39.trans (t := s) hZ hS.1, by rw [show (s.setVm T'.vm).vm = T'.vm from rfl, hS.1.alike.findClass]; exact hown, fun t k => st.trans k⟩
theorem own_specialW (X : Stand p l e R s m args below meth c T locs cells slots) (hx : p.tables.exec = Jvm.exec) (hZ : Z.Warmed39 s.vm) (hown : s.vm.findClass own = some m.cls) (hI : IB Z s.vm []) {a : Addr}
    (w1 : (Cond.methodLink own index y).before a0 Z = true) (w2 : (Cond.instanceMethod y).before a0 Z = true) (w3 : (Cond.initialized y.cls).before a0 Z = true) (w4 : (Cond.code y bytes maxL none).before a0 Z = true)
    (hM : OwnMetW l Z y bytes maxL none [] rm as' h Q) (eT : T.heap = h) (hsize : Ls.size = c.maxLocals) (hlen : ∀ sig, parseMethodDescriptor y.desc = some sig → argsL.length = sig.parameters.length) (hd : decode c.code pc = .ok (.invokespecial index, 3))
    (has : (.ref a :: argsL).toArray = as' := by rfl) (hW : (rest.map fun v => v.category).sum ≤ W := by exact Nat.le_of_eq rfl) (hf : rm.frames + 1 ≤ R.frames := by decide) (hl : W + (maxL + 11) + rm.locals ≤ R.locals := by decide) (hc : cells + rm.cells ≤ R.cells := by decide) (hs : slots + rm.slots ≤ R.slots := by decide) (hy : y.cls ≠ "java/lang/invoke/MethodHandle" ∧ y.cls ≠ "java/lang/invoke/VarHandle" := by decide) (hy1 : y.name = "<init>" := by rfl) :
    OwnCameW p l e R s m args below meth c T locs cells slots Z own rm Q pc (pc + 3) Ls (argsL.reverse ++ .ref a :: rest) rest := by
  obtain ⟨v, vm1, ⟨T', L', c', n'⟩, -, XB, hS, -, ⟨L, hQ, l1, y1, z1⟩, st⟩ := X.specialBackS hx (y := y) hy1 hown (mvT hZ w1) (mvT hZ w2) (mvT hZ w4) hy (own_backW (W := W) hM hZ hI w4 w3 hf hl) (g := mkF m pc Ls (argsL.reverse ++ .ref a :: rest)) rfl hsize (Steps.refl _) (a := a) (argsL := argsL) (rest := rest) hlen rfl (by show 2 * 0 + _ ≤ _; omega) hd (fun _ _ => ⟨has, eT, hc, hs⟩)
  dsimp only at XB l1 y1 z1 st hQ hS
  subst l1 y1 z1
  exact ⟨v, T', L, XB, hQ, hS, State.Warmed39.trans (t := s) hZ hS.1, by rw [show (s.setVm T'.vm).vm = T'.vm from rfl, hS.1.alike.findClass]; exact hown, fun t k => st.trans k⟩
end CallsW
end Jvm.RoadKit
namespace Jvm.Pilot.@@N@@
open Jvm Jvm.ClassFile Sem Op Lib Jvm.Free Jvm.Stand Jvm.LawKit Jvm.RoadKit Bundle Jvm.Pilot.@@N@@.Jvm.D
abbrev OW (a0 : Array Value) (Z : State) : Prop := ∀ d ∈ tables_1, d.before a0 Z = true
def Q0 (n0 : Nat) (v : Option Value) (h : Heap) (L : List Loc) : Prop := v = some (.int 1) ∧ Fr n0 L
theorem own_eqI {args : Array Value} {first s : State} {o : Option Outcome} {idx : List Nat} {t : Term} {n : Int32} (h : (Jvm.Cond.eq t (.int n)).value args first o s idx = some true) : t.eval args first o idx s = some (.int n) := by
  simp only [Jvm.Cond.value, Term.eval] at h
  cases ht : t.eval args first o idx s with
  | none => simp [ht] at h
  | some x => cases x <;> simp [ht] at h ⊢; exact h
theorem own_nub {x n : Int32} (h : ¬ x < n) (k : Int) (hk : n.toInt = k) : k ≤ x.toInt := by rw [← hk]; exact Int.not_lt.mp (fun q => h (Int32.lt_iff_toInt_lt.mpr q))
theorem own_lb {x n : Int32} (h : n < x) (k : Int) (hk : n.toInt = k) : k < x.toInt := by rw [← hk]; exact Int32.lt_iff_toInt_lt.mp h
theorem own_maskL_ (x : Int32) : 0 ≤ (x &&& (2147483647 : Int32)).toInt := by
  have h := own_mask x (2147483647 : Int32) 31 (by decide) (by decide) 2147483648 (by decide)
  omega
theorem own_shl (x q : Int32) (k : Nat) (hk : q.toBitVec.toNat % 32 = k) (P : Int) (hP : ((2 ^ k : Nat) : Int) = P) : ((x <<< (q &&& 31)).toInt - x.toInt * P) % 4294967296 = 0 := by rw [← hP]; exact c_ishl x q k hk
theorem own_rc (x : Int32) (h0 : 0 ≤ x.toInt) (h1 : x.toInt < 65536) : (nar .char (((((nar .byte ((x >>> ((0 : Int32) &&& 31)).toInt8.toInt32)) &&& (255 : Int32)) <<< ((0 : Int32) &&& 31)) ||| (((nar .byte ((x >>> ((8 : Int32) &&& 31)).toInt8.toInt32)) &&& (255 : Int32)) <<< ((8 : Int32) &&& 31))).toUInt32.toUInt16.toUInt32.toInt32)) = x := by
  have a0 := own_shr x 0 0 (by decide) 1 (by decide)
  have a8 := own_shr x 8 8 (by decide) 256 (by decide)
  have b0 := c_i2b (x >>> ((0 : Int32) &&& 31))
  have b8 := c_i2b (x >>> ((8 : Int32) &&& 31))
  have d0 := own_c_nar_byte ((x >>> ((0 : Int32) &&& 31)).toInt8.toInt32)
  have d8 := own_c_nar_byte ((x >>> ((8 : Int32) &&& 31)).toInt8.toInt32)
  have e0 := own_mask (nar .byte ((x >>> ((0 : Int32) &&& 31)).toInt8.toInt32)) 255 8 (by decide) (by decide) 256 (by decide)
  have e8 := own_mask (nar .byte ((x >>> ((8 : Int32) &&& 31)).toInt8.toInt32)) 255 8 (by decide) (by decide) 256 (by decide)
  generalize (nar .byte ((x >>> ((0 : Int32) &&& 31)).toInt8.toInt32)) &&& (255 : Int32) = l at *
  generalize (nar .byte ((x >>> ((8 : Int32) &&& 31)).toInt8.toInt32)) &&& (255 : Int32) = h at *
  have f0 := own_shl l 0 0 (by decide) 1 (by decide)
  have f8 := own_shl h 8 8 (by decide) 256 (by decide)
  have r0 := rng32 (l <<< ((0 : Int32) &&& 31))
  have r8 := rng32 (h <<< ((8 : Int32) &&& 31))
  have g := c_or' (l <<< ((0 : Int32) &&& 31)) (h <<< ((8 : Int32) &&& 31)) 8 (by decide) 256 (by decide) (by omega) (by omega) (by omega)
  have r := rng32 ((l <<< ((0 : Int32) &&& 31)) ||| (h <<< ((8 : Int32) &&& 31)))
  have i := c_i2c ((l <<< ((0 : Int32) &&& 31)) ||| (h <<< ((8 : Int32) &&& 31)))
  have j := own_c_nar_char (((l <<< ((0 : Int32) &&& 31)) ||| (h <<< ((8 : Int32) &&& 31))).toUInt32.toUInt16.toUInt32.toInt32)
  exact Int32.toInt_inj.mp (by omega)
theorem own_rcN (x : Int32) (h0 : ¬ (x < (0 : Int32))) (h1 : ¬ ((65535 : Int32) < x)) : (nar .char (((((nar .byte ((x >>> ((0 : Int32) &&& 31)).toInt8.toInt32)) &&& (255 : Int32)) <<< ((0 : Int32) &&& 31)) ||| (((nar .byte ((x >>> ((8 : Int32) &&& 31)).toInt8.toInt32)) &&& (255 : Int32)) <<< ((8 : Int32) &&& 31))).toUInt32.toUInt16.toUInt32.toInt32)) = x := own_rc x (by rw [Int32.lt_iff_toInt_lt] at h0; have : ((0 : Int32)).toInt = 0 := (by decide); omega) (by rw [Int32.lt_iff_toInt_lt] at h1; have : ((65535 : Int32)).toInt = 65535 := (by decide); omega)
theorem w_14 {a0 Z} (hw : OW a0 Z) : Jvm.Cond.before (.initialized "java/lang/String") a0 Z := hw _ (mo 14 rfl)
theorem w_13 {a0 Z} (hw : OW a0 Z) : Jvm.Cond.before (.instantiable "java/lang/String" 4) a0 Z := hw _ (mo 13 rfl)
theorem w_27 {a0 Z} (hw : OW a0 Z) : Jvm.Cond.before (.arrayClass .byte) a0 Z := hw _ (mo 27 rfl)
theorem w_28 {a0 Z} (hw : OW a0 Z) : Jvm.Cond.before (.laysFinal "java/lang/String" "java/lang/String" "value" "[B") a0 Z := hw _ (mo 28 rfl)
theorem w_29 {a0 Z} (hw : OW a0 Z) : Jvm.Cond.before (.laysFinal "java/lang/String" "java/lang/String" "coder" "B") a0 Z := hw _ (mo 29 rfl)
theorem w_30 {a0 Z} (hw : OW a0 Z) : Jvm.Cond.before (.soleField "java/lang/String" "value") a0 Z := hw _ (mo 30 rfl)
theorem w_31 {a0 Z} (hw : OW a0 Z) : Jvm.Cond.before (.soleField "java/lang/String" "coder") a0 Z := hw _ (mo 31 rfl)
theorem own_wS {a0 : Array Value} {Z : State} (hw : OW a0 Z) : ∀ a ∈ Bundle.stringAtoms, a.before a0 Z = true := by
  intro a ha
  simp only [Bundle.stringAtoms, List.mem_cons, List.not_mem_nil, or_false] at ha
  rcases ha with rfl | rfl | rfl | rfl | rfl | rfl | rfl
  · exact (w_14 hw)
  · exact (w_13 hw)
  · exact (w_27 hw)
  · exact (w_28 hw)
  · exact (w_29 hw)
  · exact (w_30 hw)
  · exact (w_31 hw)
theorem own_lit_7 : (∀ c ∈ ("" : String).toList, c.toNat < 256) ∧ ("" : String).toList.map (fun c => Value.int (Jvm.Lit.byteI c.toNat.toUInt16)) = [] := ⟨by decide, by decide⟩
theorem w_0 {a0 Z} (hw : OW a0 Z) : Jvm.Cond.before (.constant "com/example/sidwire/sidwire/cbor/CborWriterUnpairedSurrogatePinLaw" 7 (2147483647 : Int32)) a0 Z := hw _ (mo 0 rfl)
abbrev Kc1 := method_3_code
theorem d1_0 : decode Kc1 0 = .ok (.iload_n 0, 1) := by decide +kernel
theorem d1_1 : decode Kc1 1 = .ok (.iconst 3, 1) := by decide +kernel
theorem d1_2 : decode Kc1 2 = .ok (.iand, 1) := by decide +kernel
theorem d1_3 : decode Kc1 3 = .ok (.istore_n 1, 1) := by decide +kernel
theorem d1_4 : decode Kc1 4 = .ok (.iload_n 0, 1) := by decide +kernel
theorem d1_5 : decode Kc1 5 = .ok (.iconst 2, 1) := by decide +kernel
theorem d1_6 : decode Kc1 6 = .ok (.iushr, 1) := by decide +kernel
theorem d1_7 : decode Kc1 7 = .ok (.istore_n 2, 1) := by decide +kernel
theorem d1_8 : decode Kc1 8 = .ok (.iload_n 1, 1) := by decide +kernel
theorem d1_9 : decode Kc1 9 = .ok (.ifCond .ne 9, 3) := by decide +kernel
theorem d1_12 : decode Kc1 12 = .ok (.iload_n 2, 1) := by decide +kernel
theorem d1_13 : decode Kc1 13 = .ok (.ldc 28, 2) := by decide +kernel
theorem w_5 {a0 Z} (hw : OW a0 Z) : Jvm.Cond.before (.constant "com/example/sidwire/sidwire/cbor/CborWriterUnpairedSurrogatePinLaw" 28 (65535 : Int32)) a0 Z := hw _ (mo 5 rfl)
theorem d1_15 : decode Kc1 15 = .ok (.iand, 1) := by decide +kernel
theorem d1_16 : decode Kc1 16 = .ok (.i2c, 1) := by decide +kernel
theorem d1_17 : decode Kc1 17 = .ok (.ireturn, 1) := by decide +kernel
theorem d1_18 : decode Kc1 18 = .ok (.iload_n 1, 1) := by decide +kernel
theorem d1_19 : decode Kc1 19 = .ok (.iconst 1, 1) := by decide +kernel
theorem d1_20 : decode Kc1 20 = .ok (.if_icmp .ne 13, 3) := by decide +kernel
theorem d1_23 : decode Kc1 23 = .ok (.ldc 29, 2) := by decide +kernel
theorem w_8 {a0 Z} (hw : OW a0 Z) : Jvm.Cond.before (.constant "com/example/sidwire/sidwire/cbor/CborWriterUnpairedSurrogatePinLaw" 29 (55296 : Int32)) a0 Z := hw _ (mo 8 rfl)
theorem d1_25 : decode Kc1 25 = .ok (.iload_n 2, 1) := by decide +kernel
theorem d1_26 : decode Kc1 26 = .ok (.sipush 1023, 3) := by decide +kernel
theorem d1_29 : decode Kc1 29 = .ok (.iand, 1) := by decide +kernel
theorem d1_30 : decode Kc1 30 = .ok (.ior, 1) := by decide +kernel
theorem d1_31 : decode Kc1 31 = .ok (.i2c, 1) := by decide +kernel
theorem d1_32 : decode Kc1 32 = .ok (.ireturn, 1) := by decide +kernel
theorem d1_33 : decode Kc1 33 = .ok (.iload_n 1, 1) := by decide +kernel
theorem d1_34 : decode Kc1 34 = .ok (.iconst 2, 1) := by decide +kernel
theorem d1_35 : decode Kc1 35 = .ok (.if_icmp .ne 13, 3) := by decide +kernel
theorem d1_38 : decode Kc1 38 = .ok (.ldc 30, 2) := by decide +kernel
theorem w_7 {a0 Z} (hw : OW a0 Z) : Jvm.Cond.before (.constant "com/example/sidwire/sidwire/cbor/CborWriterUnpairedSurrogatePinLaw" 30 (56320 : Int32)) a0 Z := hw _ (mo 7 rfl)
theorem d1_40 : decode Kc1 40 = .ok (.iload_n 2, 1) := by decide +kernel
theorem d1_41 : decode Kc1 41 = .ok (.sipush 1023, 3) := by decide +kernel
theorem d1_44 : decode Kc1 44 = .ok (.iand, 1) := by decide +kernel
theorem d1_45 : decode Kc1 45 = .ok (.ior, 1) := by decide +kernel
theorem d1_46 : decode Kc1 46 = .ok (.i2c, 1) := by decide +kernel
theorem d1_47 : decode Kc1 47 = .ok (.ireturn, 1) := by decide +kernel
theorem d1_48 : decode Kc1 48 = .ok (.iload_n 2, 1) := by decide +kernel
theorem d1_49 : decode Kc1 49 = .ok (.iconst 1, 1) := by decide +kernel
theorem d1_50 : decode Kc1 50 = .ok (.iand, 1) := by decide +kernel
theorem d1_51 : decode Kc1 51 = .ok (.ifCond .ne 8, 3) := by decide +kernel
theorem d1_54 : decode Kc1 54 = .ok (.ldc 31, 2) := by decide +kernel
theorem w_6 {a0 Z} (hw : OW a0 Z) : Jvm.Cond.before (.constant "com/example/sidwire/sidwire/cbor/CborWriterUnpairedSurrogatePinLaw" 31 (55295 : Int32)) a0 Z := hw _ (mo 6 rfl)
theorem d1_56 : decode Kc1 56 = .ok (.goto 5, 3) := by decide +kernel
theorem d1_61 : decode Kc1 61 = .ok (.ireturn, 1) := by decide +kernel
theorem d1_59 : decode Kc1 59 = .ok (.ldc 32, 2) := by decide +kernel
theorem w_52 {a0 Z} (hw : OW a0 Z) : Jvm.Cond.before (.constant "com/example/sidwire/sidwire/cbor/CborWriterUnpairedSurrogatePinLaw" 32 (57344 : Int32)) a0 Z := hw _ (mo 52 rfl)
def own_ch (v0 : Int32) : Int32 := (if (v0 &&& (3 : Int32)) = 0 then (nar .char ((((v0.toUInt32 >>> ((2 : Int32) &&& 31).toUInt32).toInt32) &&& (65535 : Int32)).toUInt32.toUInt16.toUInt32.toInt32)) else (if (v0 &&& (3 : Int32)) = 1 then (nar .char (((55296 : Int32) ||| (((v0.toUInt32 >>> ((2 : Int32) &&& 31).toUInt32).toInt32) &&& (1023 : Int32))).toUInt32.toUInt16.toUInt32.toInt32)) else (if (v0 &&& (3 : Int32)) = 2 then (nar .char (((56320 : Int32) ||| (((v0.toUInt32 >>> ((2 : Int32) &&& 31).toUInt32).toInt32) &&& (1023 : Int32))).toUInt32.toUInt16.toUInt32.toInt32)) else (if (((v0.toUInt32 >>> ((2 : Int32) &&& 31).toUInt32).toInt32) &&& (1 : Int32)) = 0 then (55295 : Int32) else (57344 : Int32)))))
theorem own_ch_b (v0 : Int32) : 0 ≤ (own_ch v0).toInt ∧ (own_ch v0).toInt < 65536 := by
  unfold own_ch
  repeat' split
  all_goals first | exact (own_c_nar_char _).2 | decide
theorem ef_02b805 (i1 : Int32) (m : MethodId) : entryFrame m #[(.int i1)] 3 = mkF m 0 #[.val (.int i1), .unset, .unset] [] := by first | (simp [entryFrame, mkF, argsToLocals, Value.category]; done) | rfl
abbrev y_0 : MethodName := ⟨"com/example/sidwire/sidwire/cbor/CborWriterUnpairedSurrogatePinLaw", "ch", "(I)C"⟩
theorem pn_0 : plainName "com/example/sidwire/sidwire/cbor/CborWriterUnpairedSurrogatePinLaw" = true := by first | (simp [plainName, overriddenIn]; done) | decide +kernel
abbrev Rm1 : Room := rmk 0 0 0 0
def Q1 (Z : State) (i1 : Int32) (h0 : Heap) (n0 : Nat) (v : Option Value) (h : Heap) (L : List Loc) : Prop := v = some (.int (own_ch i1)) ∧ Fr n0 L ∧ h = h0
theorem rm1 (l : Launch) (Z : State) {a0 : Array Value} (hw : OW a0 Z) (i1 : Int32) (h0 : Heap) (n0 : Nat) (Z0 : n0 ≤ h0.size) :
    OwnMet l Z y_0 method_3_code 3 (some .char) [] Rm1 #[(.int i1)] h0 (Q1 Z i1 h0 n0) := by
  refine own_body (plainFor_of_name pn_0) (ef_02b805 i1) ?_
  intro p e s m below meth c s₁ hx hby hml hown hnm hret hZ X0 e0
  have N0 := Fr.nil n0
  have B := hbx hby
  by_cases cc1 : (i1 &&& (3 : Int32)) = 0
  · refine ⟨s₁, _, _, _, (some (.int (nar .char ((((i1.toUInt32 >>> ((2 : Int32) &&& 31).toUInt32).toInt32) &&& (65535 : Int32)).toUInt32.toUInt16.toUInt32.toInt32)))), X0, nofun, by decide, by decide, ?_, fun fs hr => ?_⟩
    · rw [e0]
      unfold Q1
      rw [show (own_ch i1) = (nar .char ((((i1.toUInt32 >>> ((2 : Int32) &&& 31).toUInt32).toInt32) &&& (65535 : Int32)).toUInt32.toUInt16.toUInt32.toInt32)) from by unfold own_ch; rw [if_pos cc1]]
      exact ⟨rfl, N0, rfl⟩
    · refine sI X0 hx (B d1_0) rfl ?_
      refine sC X0 hx (B d1_1) ?_
      refine XS.iand X0.here hx rfl (B d1_2) rfl ?_
      refine XS.istoreN X0.here hx rfl (B d1_3) rfl (l' := #[vi i1, vi (i1 &&& (3 : Int32)), un]) rfl ?_
      refine sI X0 hx (B d1_4) rfl ?_
      refine sC X0 hx (B d1_5) ?_
      refine XS.iushr X0.here hx rfl (B d1_6) rfl ?_
      refine XS.istoreN X0.here hx rfl (B d1_7) rfl (l' := #[vi i1, vi (i1 &&& (3 : Int32)), vi ((i1.toUInt32 >>> ((2 : Int32) &&& 31).toUInt32).toInt32)]) rfl ?_
      refine sI X0 hx (B d1_8) rfl ?_
      refine XS.ifNo X0.here hx rfl (B d1_9) rfl ((if0 _ _).trans (teq cc1).2) ?_
      refine sI X0 hx (B d1_12) rfl ?_
      refine X0.ldcInt hx hown (mvT hZ (w_5 hw)) (g := (mkF m 13 #[vi i1, vi (i1 &&& (3 : Int32)), vi ((i1.toUInt32 >>> ((2 : Int32) &&& 31).toUInt32).toInt32)] [(.int ((i1.toUInt32 >>> ((2 : Int32) &&& 31).toUInt32).toInt32))])) rfl (B d1_13) _ ?_
      refine XS.iand X0.here hx rfl (B d1_15) rfl ?_
      refine XS.i2c X0.here hx rfl (B d1_16) rfl ?_
      exact retN X0 hx (t := .char) hret (by simp) (B d1_17) hr
  · by_cases cc2 : (i1 &&& (3 : Int32)) = 1
    · refine ⟨s₁, _, _, _, (some (.int (nar .char (((55296 : Int32) ||| (((i1.toUInt32 >>> ((2 : Int32) &&& 31).toUInt32).toInt32) &&& (1023 : Int32))).toUInt32.toUInt16.toUInt32.toInt32)))), X0, nofun, by decide, by decide, ?_, fun fs hr => ?_⟩
      · rw [e0]
        unfold Q1
        rw [show (own_ch i1) = (nar .char (((55296 : Int32) ||| (((i1.toUInt32 >>> ((2 : Int32) &&& 31).toUInt32).toInt32) &&& (1023 : Int32))).toUInt32.toUInt16.toUInt32.toInt32)) from by unfold own_ch; rw [if_neg cc1, if_pos cc2]]
        exact ⟨rfl, N0, rfl⟩
      · refine sI X0 hx (B d1_0) rfl ?_
        refine sC X0 hx (B d1_1) ?_
        refine XS.iand X0.here hx rfl (B d1_2) rfl ?_
        refine XS.istoreN X0.here hx rfl (B d1_3) rfl (l' := #[vi i1, vi (i1 &&& (3 : Int32)), un]) rfl ?_
        refine sI X0 hx (B d1_4) rfl ?_
        refine sC X0 hx (B d1_5) ?_
        refine XS.iushr X0.here hx rfl (B d1_6) rfl ?_
        refine XS.istoreN X0.here hx rfl (B d1_7) rfl (l' := #[vi i1, vi (i1 &&& (3 : Int32)), vi ((i1.toUInt32 >>> ((2 : Int32) &&& 31).toUInt32).toInt32)]) rfl ?_
        refine sI X0 hx (B d1_8) rfl ?_
        refine XS.ifYes X0.here hx rfl (pc0 := 9) (pc' := 18) rfl (B d1_9) rfl ((if0 _ _).trans (feq cc1).2) (by decide) (by decide) ?_
        refine sI X0 hx (B d1_18) rfl ?_
        refine sC X0 hx (B d1_19) ?_
        refine XS.icmpNo X0.here hx rfl (B d1_20) rfl (teq cc2).2 ?_
        refine X0.ldcInt hx hown (mvT hZ (w_8 hw)) (g := (mkF m 23 #[vi i1, vi (i1 &&& (3 : Int32)), vi ((i1.toUInt32 >>> ((2 : Int32) &&& 31).toUInt32).toInt32)] [])) rfl (B d1_23) _ ?_
        refine sI X0 hx (B d1_25) rfl ?_
        refine XS.sipush X0.here hx rfl (B d1_26) ?_
        refine XS.iand X0.here hx rfl (B d1_29) rfl ?_
        refine XS.ior X0.here hx rfl (B d1_30) rfl ?_
        refine XS.i2c X0.here hx rfl (B d1_31) rfl ?_
        exact retN X0 hx (t := .char) hret (by simp) (B d1_32) hr
    · by_cases cc3 : (i1 &&& (3 : Int32)) = 2
      · refine ⟨s₁, _, _, _, (some (.int (nar .char (((56320 : Int32) ||| (((i1.toUInt32 >>> ((2 : Int32) &&& 31).toUInt32).toInt32) &&& (1023 : Int32))).toUInt32.toUInt16.toUInt32.toInt32)))), X0, nofun, by decide, by decide, ?_, fun fs hr => ?_⟩
        · rw [e0]
          unfold Q1
          rw [show (own_ch i1) = (nar .char (((56320 : Int32) ||| (((i1.toUInt32 >>> ((2 : Int32) &&& 31).toUInt32).toInt32) &&& (1023 : Int32))).toUInt32.toUInt16.toUInt32.toInt32)) from by unfold own_ch; rw [if_neg cc1, if_neg cc2, if_pos cc3]]
          exact ⟨rfl, N0, rfl⟩
        · refine sI X0 hx (B d1_0) rfl ?_
          refine sC X0 hx (B d1_1) ?_
          refine XS.iand X0.here hx rfl (B d1_2) rfl ?_
          refine XS.istoreN X0.here hx rfl (B d1_3) rfl (l' := #[vi i1, vi (i1 &&& (3 : Int32)), un]) rfl ?_
          refine sI X0 hx (B d1_4) rfl ?_
          refine sC X0 hx (B d1_5) ?_
          refine XS.iushr X0.here hx rfl (B d1_6) rfl ?_
          refine XS.istoreN X0.here hx rfl (B d1_7) rfl (l' := #[vi i1, vi (i1 &&& (3 : Int32)), vi ((i1.toUInt32 >>> ((2 : Int32) &&& 31).toUInt32).toInt32)]) rfl ?_
          refine sI X0 hx (B d1_8) rfl ?_
          refine XS.ifYes X0.here hx rfl (pc0 := 9) (pc' := 18) rfl (B d1_9) rfl ((if0 _ _).trans (feq cc1).2) (by decide) (by decide) ?_
          refine sI X0 hx (B d1_18) rfl ?_
          refine sC X0 hx (B d1_19) ?_
          refine XS.icmpYes X0.here hx rfl (pc0 := 20) (pc' := 33) rfl (B d1_20) rfl (feq cc2).2 (by decide) (by decide) ?_
          refine sI X0 hx (B d1_33) rfl ?_
          refine sC X0 hx (B d1_34) ?_
          refine XS.icmpNo X0.here hx rfl (B d1_35) rfl (teq cc3).2 ?_
          refine X0.ldcInt hx hown (mvT hZ (w_7 hw)) (g := (mkF m 38 #[vi i1, vi (i1 &&& (3 : Int32)), vi ((i1.toUInt32 >>> ((2 : Int32) &&& 31).toUInt32).toInt32)] [])) rfl (B d1_38) _ ?_
          refine sI X0 hx (B d1_40) rfl ?_
          refine XS.sipush X0.here hx rfl (B d1_41) ?_
          refine XS.iand X0.here hx rfl (B d1_44) rfl ?_
          refine XS.ior X0.here hx rfl (B d1_45) rfl ?_
          refine XS.i2c X0.here hx rfl (B d1_46) rfl ?_
          exact retN X0 hx (t := .char) hret (by simp) (B d1_47) hr
      · by_cases cc4 : (((i1.toUInt32 >>> ((2 : Int32) &&& 31).toUInt32).toInt32) &&& (1 : Int32)) = 0
        · refine ⟨s₁, _, _, _, (some (.int 55295)), X0, nofun, by decide, by decide, ?_, fun fs hr => ?_⟩
          · rw [e0]
            unfold Q1
            rw [show (own_ch i1) = (55295 : Int32) from by unfold own_ch; rw [if_neg cc1, if_neg cc2, if_neg cc3, if_pos cc4]]
            exact ⟨rfl, N0, rfl⟩
          · refine sI X0 hx (B d1_0) rfl ?_
            refine sC X0 hx (B d1_1) ?_
            refine XS.iand X0.here hx rfl (B d1_2) rfl ?_
            refine XS.istoreN X0.here hx rfl (B d1_3) rfl (l' := #[vi i1, vi (i1 &&& (3 : Int32)), un]) rfl ?_
            refine sI X0 hx (B d1_4) rfl ?_
            refine sC X0 hx (B d1_5) ?_
            refine XS.iushr X0.here hx rfl (B d1_6) rfl ?_
            refine XS.istoreN X0.here hx rfl (B d1_7) rfl (l' := #[vi i1, vi (i1 &&& (3 : Int32)), vi ((i1.toUInt32 >>> ((2 : Int32) &&& 31).toUInt32).toInt32)]) rfl ?_
            refine sI X0 hx (B d1_8) rfl ?_
            refine XS.ifYes X0.here hx rfl (pc0 := 9) (pc' := 18) rfl (B d1_9) rfl ((if0 _ _).trans (feq cc1).2) (by decide) (by decide) ?_
            refine sI X0 hx (B d1_18) rfl ?_
            refine sC X0 hx (B d1_19) ?_
            refine XS.icmpYes X0.here hx rfl (pc0 := 20) (pc' := 33) rfl (B d1_20) rfl (feq cc2).2 (by decide) (by decide) ?_
            refine sI X0 hx (B d1_33) rfl ?_
            refine sC X0 hx (B d1_34) ?_
            refine XS.icmpYes X0.here hx rfl (pc0 := 35) (pc' := 48) rfl (B d1_35) rfl (feq cc3).2 (by decide) (by decide) ?_
            refine sI X0 hx (B d1_48) rfl ?_
            refine sC X0 hx (B d1_49) ?_
            refine XS.iand X0.here hx rfl (B d1_50) rfl ?_
            refine XS.ifNo X0.here hx rfl (B d1_51) rfl ((if0 _ _).trans (teq cc4).2) ?_
            refine X0.ldcInt hx hown (mvT hZ (w_6 hw)) (g := (mkF m 54 #[vi i1, vi (i1 &&& (3 : Int32)), vi ((i1.toUInt32 >>> ((2 : Int32) &&& 31).toUInt32).toInt32)] [])) rfl (B d1_54) _ ?_
            refine XS.goto X0.here hx rfl (pc0 := 56) (pc' := 61) rfl (B d1_56) (by decide) (by decide) ?_
            exact retN X0 hx (t := .char) hret (by simp) (B d1_61) hr
        · refine ⟨s₁, _, _, _, (some (.int 57344)), X0, nofun, by decide, by decide, ?_, fun fs hr => ?_⟩
          · rw [e0]
            unfold Q1
            rw [show (own_ch i1) = (57344 : Int32) from by unfold own_ch; rw [if_neg cc1, if_neg cc2, if_neg cc3, if_neg cc4]]
            exact ⟨rfl, N0, rfl⟩
          · refine sI X0 hx (B d1_0) rfl ?_
            refine sC X0 hx (B d1_1) ?_
            refine XS.iand X0.here hx rfl (B d1_2) rfl ?_
            refine XS.istoreN X0.here hx rfl (B d1_3) rfl (l' := #[vi i1, vi (i1 &&& (3 : Int32)), un]) rfl ?_
            refine sI X0 hx (B d1_4) rfl ?_
            refine sC X0 hx (B d1_5) ?_
            refine XS.iushr X0.here hx rfl (B d1_6) rfl ?_
            refine XS.istoreN X0.here hx rfl (B d1_7) rfl (l' := #[vi i1, vi (i1 &&& (3 : Int32)), vi ((i1.toUInt32 >>> ((2 : Int32) &&& 31).toUInt32).toInt32)]) rfl ?_
            refine sI X0 hx (B d1_8) rfl ?_
            refine XS.ifYes X0.here hx rfl (pc0 := 9) (pc' := 18) rfl (B d1_9) rfl ((if0 _ _).trans (feq cc1).2) (by decide) (by decide) ?_
            refine sI X0 hx (B d1_18) rfl ?_
            refine sC X0 hx (B d1_19) ?_
            refine XS.icmpYes X0.here hx rfl (pc0 := 20) (pc' := 33) rfl (B d1_20) rfl (feq cc2).2 (by decide) (by decide) ?_
            refine sI X0 hx (B d1_33) rfl ?_
            refine sC X0 hx (B d1_34) ?_
            refine XS.icmpYes X0.here hx rfl (pc0 := 35) (pc' := 48) rfl (B d1_35) rfl (feq cc3).2 (by decide) (by decide) ?_
            refine sI X0 hx (B d1_48) rfl ?_
            refine sC X0 hx (B d1_49) ?_
            refine XS.iand X0.here hx rfl (B d1_50) rfl ?_
            refine XS.ifYes X0.here hx rfl (pc0 := 51) (pc' := 59) rfl (B d1_51) rfl ((if0 _ _).trans (feq cc4).2) (by decide) (by decide) ?_
            refine X0.ldcInt hx hown (mvT hZ (w_52 hw)) (g := (mkF m 59 #[vi i1, vi (i1 &&& (3 : Int32)), vi ((i1.toUInt32 >>> ((2 : Int32) &&& 31).toUInt32).toInt32)] [])) rfl (B d1_59) _ ?_
            exact retN X0 hx (t := .char) hret (by simp) (B d1_61) hr
theorem pd_0 : parseMethodDescriptor "(I)C" = some ⟨[.int], some .char⟩ := by decide +kernel
theorem w_3 {a0 Z} (hw : OW a0 Z) : Jvm.Cond.before (.initialized "com/example/sidwire/sidwire/cbor/CborWriterUnpairedSurrogatePinLaw") a0 Z := hw _ (mo 3 rfl)
theorem w_4 {a0 Z} (hw : OW a0 Z) : Jvm.Cond.before (.code y_0 method_3_code 3 (some .char)) a0 Z := hw _ (mo 4 rfl)
theorem w_1 {a0 Z} (hw : OW a0 Z) : Jvm.Cond.before (.methodLink "com/example/sidwire/sidwire/cbor/CborWriterUnpairedSurrogatePinLaw" 8 y_0) a0 Z := hw _ (mo 1 rfl)
theorem w_2 {a0 Z} (hw : OW a0 Z) : Jvm.Cond.before (.static y_0) a0 Z := hw _ (mo 2 rfl)
abbrev Kc2 := method_4_code
theorem d2_0 : decode Kc2 0 = .ok (.iload_n 0, 1) := by decide +kernel
theorem d2_1 : decode Kc2 1 = .ok (.ifCond .ne 14, 3) := by decide +kernel
theorem d2_4 : decode Kc2 4 = .ok (.new 33, 3) := by decide +kernel
theorem w_12 {a0 Z} (hw : OW a0 Z) : Jvm.Cond.before (.classLink "com/example/sidwire/sidwire/cbor/CborWriterUnpairedSurrogatePinLaw" 33 "java/lang/String") a0 Z := hw _ (mo 12 rfl)
theorem d2_7 : decode Kc2 7 = .ok (.dup, 1) := by decide +kernel
theorem d2_8 : decode Kc2 8 = .ok (.iconst 0, 1) := by decide +kernel
theorem d2_9 : decode Kc2 9 = .ok (.newarray .char, 2) := by decide +kernel
theorem w_15 {a0 Z} (hw : OW a0 Z) : Jvm.Cond.before (.arrayClass .char) a0 Z := hw _ (mo 15 rfl)
theorem d2_11 : decode Kc2 11 = .ok (.invokespecial 35, 3) := by decide +kernel
abbrev Kc3 := jdk_42_method_3_code
theorem d3_0 : decode Kc3 0 = .ok (.aload_n 0, 1) := by decide +kernel
theorem d3_1 : decode Kc3 1 = .ok (.aload_n 1, 1) := by decide +kernel
theorem d3_2 : decode Kc3 2 = .ok (.iconst 0, 1) := by decide +kernel
theorem d3_3 : decode Kc3 3 = .ok (.aload_n 1, 1) := by decide +kernel
theorem d3_4 : decode Kc3 4 = .ok (.arraylength, 1) := by decide +kernel
theorem d3_5 : decode Kc3 5 = .ok (.aconst_null, 1) := by decide +kernel
theorem d3_6 : decode Kc3 6 = .ok (.invokespecial 27, 3) := by decide +kernel
abbrev Kc4 := jdk_42_method_149_code
theorem d4_0 : decode Kc4 0 = .ok (.aload_n 0, 1) := by decide +kernel
theorem d4_1 : decode Kc4 1 = .ok (.invokespecial 1, 3) := by decide +kernel
abbrev y_1 : MethodName := ⟨"java/lang/Object", "<init>", "()V"⟩
theorem w_23 {a0 Z} (hw : OW a0 Z) : Jvm.Cond.before (.methodLink "java/lang/String" 1 y_1) a0 Z := hw _ (mo 23 rfl)
theorem w_24 {a0 Z} (hw : OW a0 Z) : Jvm.Cond.before (.instanceMethod y_1) a0 Z := hw _ (mo 24 rfl)
theorem w_25 {a0 Z} (hw : OW a0 Z) : Jvm.Cond.before (.code y_1 object_method_1_code 1 none) a0 Z := hw _ (mo 25 rfl)
theorem d4_4 : decode Kc4 4 = .ok (.iload_n 3, 1) := by decide +kernel
theorem d4_5 : decode Kc4 5 = .ok (.ifCond .ne 22, 3) := by decide +kernel
theorem d4_8 : decode Kc4 8 = .ok (.aload_n 0, 1) := by decide +kernel
theorem d4_9 : decode Kc4 9 = .ok (.ldc 7, 2) := by decide +kernel
theorem w_26 {a0 Z} (hw : OW a0 Z) : Jvm.Cond.before (.stringLink "java/lang/String" 7 "") a0 Z := hw _ (mo 26 rfl)
theorem d4_11 : decode Kc4 11 = .ok (.getfield 9, 3) := by decide +kernel
theorem w_32 {a0 Z} (hw : OW a0 Z) : Jvm.Cond.before (.fieldLink "java/lang/String" 9 "java/lang/String" "value" "[B") a0 Z := hw _ (mo 32 rfl)
theorem d4_14 : decode Kc4 14 = .ok (.putfield 9, 3) := by decide +kernel
theorem d4_17 : decode Kc4 17 = .ok (.aload_n 0, 1) := by decide +kernel
theorem d4_18 : decode Kc4 18 = .ok (.ldc 7, 2) := by decide +kernel
theorem d4_20 : decode Kc4 20 = .ok (.getfield 15, 3) := by decide +kernel
theorem w_33 {a0 Z} (hw : OW a0 Z) : Jvm.Cond.before (.fieldLink "java/lang/String" 15 "java/lang/String" "coder" "B") a0 Z := hw _ (mo 33 rfl)
theorem d4_23 : decode Kc4 23 = .ok (.putfield 15, 3) := by decide +kernel
theorem d4_26 : decode Kc4 26 = .ok (.return_, 1) := by decide +kernel
theorem ef_ede2fd (a1 : Addr) (a2 : Addr) (m : MethodId) : entryFrame m #[(.ref a1), (.ref a2), (.int 0), (.int 0), .null] 6 = mkF m 0 #[.val (.ref a1), .val (.ref a2), .val (.int 0), .val (.int 0), .val .null, .unset] [] := by first | (simp [entryFrame, mkF, argsToLocals, Value.category]; done) | rfl
abbrev y_2 : MethodName := ⟨"java/lang/String", "<init>", "([CIILjava/lang/Void;)V"⟩
theorem pn_1 : plainName "java/lang/String" = true := by first | (simp [plainName, overriddenIn]; done) | decide +kernel
abbrev Rm2 : Room := rmk 1 2 4 12
def Q2 (Z : State) (a1 a2 : Addr) (h0 : Heap) (n0 : Nat) (v : Option Value) (h : Heap) (L : List Loc) : Prop := ∃ b2 : Addr, ∃ k2 : ClassId, v = none ∧ Fr n0 L ∧ Keep h0 h [a1] ∧ Exa Z h a1 jS ∧ Fld Z h a1 jS "coder" "B" (.int 0) ∧ Fld Z h a1 jS "value" "[B" (.ref b2) ∧ Arv Z h b2 k2 .byte 0 [] (.int 0)
theorem rm2 (l : Launch) (Z : State) {a0 : Array Value} (hw : OW a0 Z) (a1 a2 : Addr) (h0 : Heap) (n0 : Nat) (Z0 : n0 ≤ h0.size) (hcw : Jvm.Lit.compactW.before a0 Z = true) (hch_7 : Jvm.Lit.constHeld Z "java/lang/String" 7) (Od0 : Old Z n0 h0) (F_value_a1 : Fld Z h0 a1 jS "value" "[B" .null) (E_a1 : Exa Z h0 a1 jS) (g_a1 : n0 ≤ a1) (F_coder_a1 : Fld Z h0 a1 jS "coder" "B" (.int 0)) :
    OwnMetW l Z y_2 jdk_42_method_149_code 6 none [] Rm2 #[(.ref a1), (.ref a2), (.int 0), (.int 0), .null] h0 (Q2 Z a1 a2 h0 n0) := by
  refine own_bodyW (plainFor_of_name pn_1) (ef_ede2fd a1 a2) ?_
  intro p e s m below meth c s₁ hx hby hml hown hnm hret hZ hs0 hIB X0 e0
  have N0 := Fr.nil n0
  have B := hbx hby
  obtain ⟨T1, X1, e1, st1⟩ := initO X0 hx hZ hown (w_23 hw) (w_24 hw) (w_25 hw) e0 (g := (mkF m 1 #[vr a1, vr a2, vi 0, vi 0, .val .null, un] [(.ref a1)])) rfl hml.symm rfl (B d4_1) (by decide) (W := 0) (by show 2 * 0 + _ ≤ _; exact Nat.le_of_eq rfl) (by decide)
  obtain ⟨la2, T2, h2, kn2, b2, k2, X2, e2, E2, Sn2, kl2, hZ2, hown2, A2, Fc2, Fv2, V2, lt2, ltb2, I2, Lt2, st2⟩ := ldcSVL (s := s) (vm0 := s.vm) X1 hx hZ hown (w_26 hw) (own_wS hw) e1 (own_since s) (by rw [hs0]; first | done | exact (Nat.le_refl _)) (Fr.nil _) (fun b cl q => by rw [hs0]; exact Od0.2.2 b cl q) hIB (by simp) hch_7 hcw (vs := []) (z := 0) own_lit_7 (by decide) rfl (g := (mkF m 9 #[vr a1, vr a2, vi 0, vi 0, .val .null, un] [(.ref a1)])) rfl (B d4_9) (n := 0) (by decide) (by decide) (by decide) (by decide)
  have s0 := E2.1
  obtain ⟨T3, X3, e3, st3⟩ := getF X2 hx hZ2 hown2 (host := "") (Or.inl (w_32 hw)) Via.refl e2 Fv2 (g := (mkF m 11 #[vr a1, vr a2, vi 0, vi 0, .val .null, un] [(.ref la2), (.ref a1)])) rfl rfl (B d4_11)
  have Fl4 := (F_value_a1.ext E2)
  have Ex5 := (E_a1.ext E2)
  obtain ⟨T6, h6, X6, e6, W6, st6⟩ := putF X3 hx hZ2 hown2 (host := "") (Or.inl (w_32 hw)) Via.refl e3 Fl4 Ex5 (Or.inr ⟨(w_28 hw), rfl, hnm⟩) (w_13 hw) (ty := (.array .byte)) (by decide) rfl rfl (g := (mkF m 14 #[vr a1, vr a2, vi 0, vi 0, .val .null, un] [(.ref b2), (.ref a1)])) rfl rfl (B d4_14)
  have s1 := (Keep.of_wr W6).1
  have N6 := Fr.snoc X6 N0 g_a1
  have Fw6 : Fld Z h6 a1 jS "value" "[B" (.ref b2) := Fl4.same W6
  have Ex7 := (A2.wr W6)
  have Fl8 := (Fc2.other W6 (Or.inr (slot_ne (Or.inr (w_29 hw)) (Or.inr (w_28 hw)) (by decide) (t := .byte) (t' := (.array .byte)) (by decide) (by decide))))
  obtain ⟨T9, X9, e9, st9⟩ := getF X6 hx hZ2 hown2 (host := "") (Or.inl (w_33 hw)) Via.refl e6 Fl8 (g := (mkF m 20 #[vr a1, vr a2, vi 0, vi 0, .val .null, un] [(.ref la2), (.ref a1)])) rfl rfl (B d4_20)
  have Ex10 := (Ex5.wr W6)
  have Fl11 := ((F_coder_a1.ext E2).other W6 (Or.inr (slot_ne (Or.inr (w_29 hw)) (Or.inr (w_28 hw)) (by decide) (t := .byte) (t' := (.array .byte)) (by decide) (by decide))))
  obtain ⟨T12, h12, X12, e12, W12, st12⟩ := putFN X9 hx hZ2 hown2 (w_33 hw) Via.refl e9 Fl11 Ex10 (Or.inr ⟨(w_29 hw), rfl, hnm⟩) (w_13 hw) (ty := .byte) (v' := (.int (nar .byte (0 : Int32)))) (by decide) rfl (fits_nar_byte _) (g := (mkF m 23 #[vr a1, vr a2, vi 0, vi 0, .val .null, un] [(.int 0), (.ref a1)])) rfl rfl (B d4_23)
  have s2 := (Keep.of_wr W12).1
  have N12 := Fr.snoc X12 N6 g_a1
  have Fw12 : Fld Z h12 a1 jS "coder" "B" (.int 0) := Fl11.same W12
  have Ex13 := (Ex10.wr W12)
  have Fl14 := (Fw6.other W12 (Or.inr (slot_ne (Or.inr (w_28 hw)) (Or.inr (w_29 hw)) (by decide) (t := (.array .byte)) (t' := .byte) (by decide) (by decide))))
  have ne_a1_b2 : a1 ≠ b2 := (by obtain ⟨_, A, -⟩ := id V2; exact ne_arr Ex5 (w_13 hw) A)
  have Va15 := ((V2.other W6 (Ne.symm ne_a1_b2)).other W12 (Ne.symm ne_a1_b2))
  have Kp0 := (Keep.refl h0 [a1]).ext E2
  have Kp1 := Kp0.wr W6 own_m0
  have Kp2 := Kp1.wr W12 own_m0
  refine ⟨T12, _, _, _, none, T2.vm, kn2, X12, Sn2, (by rw [e12]; exact Nat.le_trans kl2 (Nat.le_trans s1 s2)), (fun _ => rfl), by decide, by decide, ?_, fun fs hr => ?_⟩
  · show Q2 Z a1 a2 h0 n0 _ T12.heap _
    rw [e12]
    exact ⟨b2, k2, rfl, N12, Kp2, Ex13, Fw12, Fl14, Va15⟩
  · refine sA X0 hx (B d4_0) rfl rfl ?_
    refine st1 _ ?_
    refine sI X1 hx (B d4_4) rfl ?_
    refine XS.ifNo X1.here hx rfl (B d4_5) rfl ((if0 _ _).trans (teq (by decide : (0 : Int32) = (0 : Int32))).2) ?_
    refine sA X1 hx (B d4_8) rfl rfl ?_
    refine st2 _ ?_
    refine st3 _ ?_
    refine st6 _ ?_
    refine sA X6 hx (B d4_17) rfl rfl ?_
    refine ldcAgain X6 hx hZ2 hown2 (w_26 hw) Lt2 (g := (mkF m 18 #[vr a1, vr a2, vi 0, vi 0, .val .null, un] [(.ref a1)])) rfl (B d4_18) _ ?_
    refine st9 _ ?_
    refine st12 _ ?_
    exact X12.returnOut hx hret (B d4_26) hr
theorem pd_1 : parseMethodDescriptor "([CIILjava/lang/Void;)V" = some ⟨[(.array .char), .int, .int, (.object "java/lang/Void")], none⟩ := by decide +kernel
theorem w_22 {a0 Z} (hw : OW a0 Z) : Jvm.Cond.before (.code y_2 jdk_42_method_149_code 6 none) a0 Z := hw _ (mo 22 rfl)
theorem w_19 {a0 Z} (hw : OW a0 Z) : Jvm.Cond.before (.methodLink "java/lang/String" 27 y_2) a0 Z := hw _ (mo 19 rfl)
theorem w_20 {a0 Z} (hw : OW a0 Z) : Jvm.Cond.before (.instanceMethod y_2) a0 Z := hw _ (mo 20 rfl)
theorem d3_9 : decode Kc3 9 = .ok (.return_, 1) := by decide +kernel
theorem ef_463e93 (a1 : Addr) (a2 : Addr) (m : MethodId) : entryFrame m #[(.ref a1), (.ref a2)] 2 = mkF m 0 #[.val (.ref a1), .val (.ref a2)] [] := by first | (simp [entryFrame, mkF, argsToLocals, Value.category]; done) | rfl
abbrev y_3 : MethodName := ⟨"java/lang/String", "<init>", "([C)V"⟩
abbrev Rm3 : Room := rmk 2 2 4 29
def Q3 (Z : State) (a1 a2 : Addr) (ck3 : ClassId) (h0 : Heap) (n0 : Nat) (v : Option Value) (h : Heap) (L : List Loc) : Prop := ∃ b2_0 : Addr, ∃ k2_1 : ClassId, v = none ∧ Fr n0 L ∧ Keep h0 h [a1] ∧ Exa Z h a1 jS ∧ Fld Z h a1 jS "coder" "B" (.int 0) ∧ Fld Z h a1 jS "value" "[B" (.ref b2_0) ∧ Arv Z h b2_0 k2_1 .byte 0 [] (.int 0)
theorem rm3 (l : Launch) (Z : State) {a0 : Array Value} (hw : OW a0 Z) (a1 a2 : Addr) (ck3 : ClassId) (h0 : Heap) (n0 : Nat) (Z0 : n0 ≤ h0.size) (V_a2 : Arv Z h0 a2 ck3 .char 0 [] (.int 0)) (hcw : Jvm.Lit.compactW.before a0 Z = true) (hch_7 : Jvm.Lit.constHeld Z "java/lang/String" 7) (Od0 : Old Z n0 h0) (F_value_a1 : Fld Z h0 a1 jS "value" "[B" .null) (E_a1 : Exa Z h0 a1 jS) (g_a1 : n0 ≤ a1) (F_coder_a1 : Fld Z h0 a1 jS "coder" "B" (.int 0)) :
    OwnMetW l Z y_3 jdk_42_method_3_code 2 none [] Rm3 #[(.ref a1), (.ref a2)] h0 (Q3 Z a1 a2 ck3 h0 n0) := by
  refine own_bodyW (plainFor_of_name pn_1) (ef_463e93 a1 a2) ?_
  intro p e s m below meth c s₁ hx hby hml hown hnm hret hZ hs0 hIB X0 e0
  have N0 := Fr.nil n0
  have B := hbx hby
  obtain ⟨cl1, Ar1, q1, S1, M1, Hs1, G1⟩ := id V_a2
  obtain ⟨_, T2, L2, X2, hQ2, Sn2, hZ2, hown2, st2⟩ := own_specialW X0 hx hZ hown hIB (y := y_2) (a := a1) (w_19 hw) (w_20 hw) (w_14 hw) (w_22 hw) (rm2 l Z hw a1 a2 h0 n0 Z0 hcw hch_7 Od0 F_value_a1 E_a1 g_a1 F_coder_a1) e0 (Ls := #[vr a1, vr a2]) hml.symm (argsL := [(.ref a2), (.int 0), (.int 0), .null]) (rest := []) (lenOf pd_1 rfl) (B d3_6) (W := 0)
  obtain ⟨kn2, ekn2⟩ : ∃ z, z = T2.heap.size := ⟨_, rfl⟩
  rw [← ekn2] at Sn2
  have kl2 : kn2 ≤ T2.heap.size := Nat.le_of_eq ekn2
  obtain ⟨b2_0, k2_1, rfl, Nq2, K2, o2_0, o2_1, o2_2, o2_3⟩ := hQ2
  have N2 := Fr.app N0 Nq2
  have s0 := K2.1
  have Kp0 := (Keep.refl h0 [a1]).trans K2 (allS own_m0 all0)
  refine ⟨T2, _, _, _, none, T2.vm, kn2, X2, Sn2, (by skip; exact Nat.le_trans kl2 (Nat.le_refl _)), (fun _ => rfl), by decide, by decide, ?_, fun fs hr => ?_⟩
  · show Q3 Z a1 a2 ck3 h0 n0 _ T2.heap _
    exact ⟨b2_0, k2_1, rfl, N2, Kp0, o2_0, o2_1, o2_2, o2_3⟩
  · refine sA X0 hx (B d3_0) rfl rfl ?_
    refine sA X0 hx (B d3_1) rfl rfl ?_
    refine sC X0 hx (B d3_2) ?_
    refine sA X0 hx (B d3_3) rfl rfl ?_
    refine X0.arraylength hx (by rw [e0]; exact Ar1.1) (State.isArrayOf_alike hZ.alike Ar1.2.1) (g := (mkF m 4 #[vr a1, vr a2] [(.ref a2), (.int 0), (.ref a2), (.ref a1)])) rfl rfl (B d3_4) _ ?_
    show Steps p.tables e below (s₁.setTop (mkF m 5 #[vr a1, vr a2] [(.int cl1.slots.size.toInt32), (.int 0), (.ref a2), (.ref a1)])) _
    rw [len_of S1 M1]
    refine XS.aconstNull X0.here hx rfl (B d3_5) ?_
    refine st2 _ ?_
    exact X2.returnOut hx hret (B d3_9) hr
theorem pd_2 : parseMethodDescriptor "([C)V" = some ⟨[(.array .char)], none⟩ := by decide +kernel
theorem w_18 {a0 Z} (hw : OW a0 Z) : Jvm.Cond.before (.code y_3 jdk_42_method_3_code 2 none) a0 Z := hw _ (mo 18 rfl)
theorem w_16 {a0 Z} (hw : OW a0 Z) : Jvm.Cond.before (.methodLink "com/example/sidwire/sidwire/cbor/CborWriterUnpairedSurrogatePinLaw" 35 y_3) a0 Z := hw _ (mo 16 rfl)
theorem w_17 {a0 Z} (hw : OW a0 Z) : Jvm.Cond.before (.instanceMethod y_3) a0 Z := hw _ (mo 17 rfl)
theorem d2_14 : decode Kc2 14 = .ok (.areturn, 1) := by decide +kernel
theorem ef_5f7d63 (i1 : Int32) (i2 : Int32) (i3 : Int32) (i4 : Int32) (m : MethodId) : entryFrame m #[(.int 0), (.int i1), (.int i2), (.int i3), (.int i4)] 5 = mkF m 0 #[.val (.int 0), .val (.int i1), .val (.int i2), .val (.int i3), .val (.int i4)] [] := by first | (simp [entryFrame, mkF, argsToLocals, Value.category]; done) | rfl
abbrev y_4 : MethodName := ⟨"com/example/sidwire/sidwire/cbor/CborWriterUnpairedSurrogatePinLaw", "make", "(ICCCC)Ljava/lang/String;"⟩
abbrev Rm4 : Room := rmk 3 4 8 43
def Q4 (Z : State) (i1 i2 i3 i4 : Int32) (h0 : Heap) (n0 : Nat) (v : Option Value) (h : Heap) (L : List Loc) : Prop := ∃ b1 : Addr, ∃ b6_0 : Addr, ∃ k6_1 : ClassId, v = some (.ref b1) ∧ Fr n0 L ∧ Keep h0 h [] ∧ h0.size ≤ b1 ∧ Exa Z h b1 jS ∧ Fld Z h b1 jS "coder" "B" (.int 0) ∧ Fld Z h b1 jS "value" "[B" (.ref b6_0) ∧ Arv Z h b6_0 k6_1 .byte 0 [] (.int 0)
theorem rm4 (l : Launch) (Z : State) {a0 : Array Value} (hw : OW a0 Z) (i1 i2 i3 i4 : Int32) (h0 : Heap) (n0 : Nat) (Z0 : n0 ≤ h0.size) (hcw : Jvm.Lit.compactW.before a0 Z = true) (hch_7 : Jvm.Lit.constHeld Z "java/lang/String" 7) (Od0 : Old Z n0 h0) :
    OwnMetW l Z y_4 method_4_code 5 (some (.object "java/lang/String")) [] Rm4 #[(.int 0), (.int i1), (.int i2), (.int i3), (.int i4)] h0 (Q4 Z i1 i2 i3 i4 h0 n0) := by
  refine own_bodyW (plainFor_of_name pn_0) (ef_5f7d63 i1 i2 i3 i4) ?_
  intro p e s m below meth c s₁ hx hby hml hown hnm hret hZ hs0 hIB X0 e0
  have N0 := Fr.nil n0
  have B := hbx hby
  obtain ⟨T1, h1, X1, e1, E1, A1, D1, -, st1⟩ := newO X0 hx hZ hown (w_12 hw) (w_13 hw) (w_14 hw) e0 (g := (mkF m 4 #[vi 0, vi i1, vi i2, vi i3, vi i4] [])) rfl (B d2_4) (by decide) (by decide)
  obtain ⟨b1, g1⟩ : ∃ z, z = h0.size := ⟨_, rfl⟩
  rw [← g1] at A1 D1 st1
  have s0 := E1.1
  have Fn1_value : Fld Z h1 b1 jS "value" "[B" .null := D1 (Or.inr (w_28 hw)) (ty := (.array .byte)) (by decide)
  have Fn1_coder : Fld Z h1 b1 jS "coder" "B" (.int 0) := D1 (Or.inr (w_29 hw)) (ty := .byte) (by decide)
  obtain ⟨T2, h2, k2, X2, e2, E2, A2, B2, st2⟩ := newPE (aty := .char) X1 hx hZ (w_15 hw) e1 (g := (mkF m 9 #[vi 0, vi i1, vi i2, vi i3, vi i4] [(.int 0), (.ref b1), (.ref b1)])) rfl (B d2_9) rfl (by decide) (cap := 0) (by decide) (by decide) (by decide) (by decide) (ad := "[C") (by decide)
  obtain ⟨b2, g2⟩ : ∃ z, z = h1.size := ⟨_, rfl⟩
  rw [← g2] at A2 B2 st2
  have s1 := E2.1
  have Vn2 : Arv Z h2 b2 k2 .char 0 [] (.int 0) := (Arv.new A2 (by decide)).pad (pad_rep [] (.int 0) 0)
  have Od1 := Od0.ext E1
  have Od2 := Od1.ext E2
  have Fl3 := (Fn1_value.ext E2)
  have Ex4 := (A1.ext E2)
  have g_b1 : n0 ≤ b1 := Nat.le_trans Z0 (Nat.le_of_eq g1.symm)
  have Fl5 := (Fn1_coder.ext E2)
  have z2 := Nat.le_trans Z0 (Nat.le_trans s0 s1)
  obtain ⟨_, T6, L6, X6, hQ6, Sn6, hZ6, hown6, st6⟩ := own_specialW X2 hx hZ hown hIB (y := y_3) (a := b1) (w_16 hw) (w_17 hw) (w_14 hw) (w_18 hw) (rm3 l Z hw b1 b2 k2 h2 n0 z2 Vn2 hcw hch_7 Od2 Fl3 Ex4 g_b1 Fl5) e2 (Ls := #[vi 0, vi i1, vi i2, vi i3, vi i4]) hml.symm (argsL := [(.ref b2)]) (rest := [(.ref b1)]) (lenOf pd_2 rfl) (B d2_11) (W := 1)
  obtain ⟨kn6, ekn6⟩ : ∃ z, z = T6.heap.size := ⟨_, rfl⟩
  rw [← ekn6] at Sn6
  have kl6 : kn6 ≤ T6.heap.size := Nat.le_of_eq ekn6
  obtain ⟨b6_0, k6_1, rfl, Nq6, K6, o6_0, o6_1, o6_2, o6_3⟩ := hQ6
  have N6 := Fr.app N0 Nq6
  have s2 := K6.1
  have sz_b1 : h0.size ≤ b1 := (Nat.le_of_eq g1.symm)
  have Kp0 := (Keep.refl h0 []).ext E1
  have Kp1 := Kp0.ext E2
  have Kp2 := Kp1.trans K6 (allS (Or.inr sz_b1) all0)
  refine ⟨T6, _, _, _, (some (.ref b1)), T6.vm, kn6, X6, Sn6, (by skip; exact Nat.le_trans kl6 (Nat.le_refl _)), nofun, by decide, by decide, ?_, fun fs hr => ?_⟩
  · show Q4 Z i1 i2 i3 i4 h0 n0 _ T6.heap _
    exact ⟨b1, b6_0, k6_1, rfl, N6, Kp2, sz_b1, o6_0, o6_1, o6_2, o6_3⟩
  · refine sI X0 hx (B d2_0) rfl ?_
    refine XS.ifNo X0.here hx rfl (B d2_1) rfl ((if0 _ _).trans (teq (by decide : (0 : Int32) = (0 : Int32))).2) ?_
    refine st1 _ ?_
    refine XS.dup X1.here hx rfl (B d2_7) rfl rfl ?_
    refine sC X1 hx (B d2_8) ?_
    refine st2 _ ?_
    refine st6 _ ?_
    exact retOut X6 hx hret rfl (Or.inr (Or.inr (Or.inr (Or.inr ⟨rfl, rfl, rfl⟩)))) (B d2_14) hr
theorem pd_3 : parseMethodDescriptor "(ICCCC)Ljava/lang/String;" = some ⟨[.int, .char, .char, .char, .char], some (.object "java/lang/String")⟩ := by decide +kernel
theorem w_11 {a0 Z} (hw : OW a0 Z) : Jvm.Cond.before (.code y_4 method_4_code 5 (some (.object "java/lang/String"))) a0 Z := hw _ (mo 11 rfl)
theorem w_9 {a0 Z} (hw : OW a0 Z) : Jvm.Cond.before (.methodLink "com/example/sidwire/sidwire/cbor/CborWriterUnpairedSurrogatePinLaw" 14 y_4) a0 Z := hw _ (mo 9 rfl)
theorem w_10 {a0 Z} (hw : OW a0 Z) : Jvm.Cond.before (.static y_4) a0 Z := hw _ (mo 10 rfl)
abbrev Kc6 := method_7_code
theorem d6_0 : decode Kc6 0 = .ok (.iload_n 2, 1) := by decide +kernel
theorem d6_1 : decode Kc6 1 = .ok (.iload_n 1, 1) := by decide +kernel
theorem d6_2 : decode Kc6 2 = .ok (.if_icmp .lt 5, 3) := by decide +kernel
theorem d6_5 : decode Kc6 5 = .ok (.iconst 0, 1) := by decide +kernel
theorem d6_6 : decode Kc6 6 = .ok (.ireturn, 1) := by decide +kernel
theorem ef_a4b94a (a1 : Addr) (i2 : Int32) (i3 : Int32) (m : MethodId) : entryFrame m #[(.ref a1), (.int i2), (.int i3)] 4 = mkF m 0 #[.val (.ref a1), .val (.int i2), .val (.int i3), .unset] [] := by first | (simp [entryFrame, mkF, argsToLocals, Value.category]; done) | rfl
abbrev y_5 : MethodName := ⟨"com/example/sidwire/sidwire/cbor/CborWriterUnpairedSurrogatePinLaw", "lone", "([CII)Z"⟩
abbrev Rm5 : Room := rmk 0 0 0 0
def Q5 (Z : State) (a1 : Addr) (i2 i3 : Int32) (h0 : Heap) (n0 : Nat) (v : Option Value) (h : Heap) (L : List Loc) : Prop := v = some (.int 0) ∧ Fr n0 L ∧ h = h0
theorem rm5 (l : Launch) (Z : State) {a0 : Array Value} (hw : OW a0 Z) (a1 : Addr) (i2 i3 : Int32) (h0 : Heap) (n0 : Nat) (Z0 : n0 ≤ h0.size) (c4 : ¬ (i3 < i2)) :
    OwnMet l Z y_5 method_7_code 4 (some .boolean) [] Rm5 #[(.ref a1), (.int i2), (.int i3)] h0 (Q5 Z a1 i2 i3 h0 n0) := by
  refine own_body (plainFor_of_name pn_0) (ef_a4b94a a1 i2 i3) ?_
  intro p e s m below meth c s₁ hx hby hml hown hnm hret hZ X0 e0
  have N0 := Fr.nil n0
  have B := hbx hby
  refine ⟨s₁, _, _, _, (some (.int 0)), X0, nofun, by decide, by decide, ?_, fun fs hr => ?_⟩
  · rw [e0]
    exact ⟨rfl, N0, rfl⟩
  · refine sI X0 hx (B d6_0) rfl ?_
    refine sI X0 hx (B d6_1) rfl ?_
    refine XS.icmpNo X0.here hx rfl (B d6_2) rfl (flt c4).1 ?_
    refine sC X0 hx (B d6_5) ?_
    exact retN X0 hx (t := .boolean) hret (by simp) (B d6_6) hr
theorem pd_4 : parseMethodDescriptor "([CII)Z" = some ⟨[(.array .char), .int, .int], some .boolean⟩ := by decide +kernel
theorem w_36 {a0 Z} (hw : OW a0 Z) : Jvm.Cond.before (.code y_5 method_7_code 4 (some .boolean)) a0 Z := hw _ (mo 36 rfl)
theorem w_34 {a0 Z} (hw : OW a0 Z) : Jvm.Cond.before (.methodLink "com/example/sidwire/sidwire/cbor/CborWriterUnpairedSurrogatePinLaw" 18 y_5) a0 Z := hw _ (mo 34 rfl)
theorem w_35 {a0 Z} (hw : OW a0 Z) : Jvm.Cond.before (.static y_5) a0 Z := hw _ (mo 35 rfl)
theorem tn6 (l : Launch) (Z : State) {a0 : Array Value} (hw : OW a0 Z) (i1 i2 i3 i4 i5 i6 i7 i8 i9 : Int32) (a10 a11 : Addr) (h0 : Heap) (n0 : Nat) (Z0 : n0 ≤ h0.size) {p : Program} {e : Env} {s : State} {m : MethodId} {args : Array Value} {below : List Frame} {meth : Method} {c : Code} {s₁ : State} {L0 : List Loc} {ce sl : Nat} (hx : p.tables.exec = Jvm.exec) (hby : c.code = code) (hml : c.maxLocals = maxLocals) (hown : s.vm.findClass "com/example/sidwire/sidwire/cbor/CborWriterUnpairedSurrogatePinLaw" = some m.cls) (hZ : Z.Warmed39 s.vm) (X0 : Stand p l e room_1 s m args below meth c s₁ L0 ce sl) (e0 : s₁.heap = h0) (N0 : Fr n0 L0) (hce : ce ≤ room_1.cells) (hsl : sl ≤ room_1.slots) :
    ∃ (T : State) (L : List Loc), Stand p l e room_1 s m args below meth c T L ce sl ∧ T.heap = h0 ∧ Fr n0 L ∧ ∀ target, Steps p.tables e below (T.setTop (mkF m 144 #[vi i1, vi i2, vi i3, vi i4, vi i5, vi 0, vi i6, vi i7, vi i8, vi i9, vr a10, vr a11, vi (-1)] [])) target → Steps p.tables e below (s₁.setTop (mkF m 73 #[vi i1, vi i2, vi i3, vi i4, vi i5, vi 0, vi i6, vi i7, vi i8, vi i9, vr a10, vr a11, un] [])) target := by
  have B := hbx hby
  obtain ⟨_, T1, L1, X1, hQ1, st1⟩ := own_callS X0 hx hZ hown (y := y_5) (w_34 hw) (w_35 hw) (w_3 hw) (w_36 hw) (rm5 l Z hw a11 (0 : Int32) (0 : Int32) h0 n0 Z0 (by decide)) e0 (Ls := #[vi i1, vi i2, vi i3, vi i4, vi i5, vi 0, vi i6, vi i7, vi i8, vi i9, vr a10, vr a11, un]) hml.symm (argsL := [(.ref a11), (.int 0), (.int 0)]) (rest := []) (lenOf pd_4 rfl) (B at_78) (W := 0) (hc := hce) (hs := hsl)
  obtain ⟨rfl, Nq1, e1⟩ := hQ1
  have N1 := Fr.app N0 Nq1
  obtain ⟨_, T2, L2, X2, hQ2, st2⟩ := own_callS X1 hx hZ hown (y := y_5) (w_34 hw) (w_35 hw) (w_3 hw) (w_36 hw) (rm5 l Z hw a11 (0 : Int32) (1 : Int32) h0 n0 Z0 (by decide)) e1 (Ls := #[vi i1, vi i2, vi i3, vi i4, vi i5, vi 0, vi i6, vi i7, vi i8, vi i9, vr a10, vr a11, un]) hml.symm (argsL := [(.ref a11), (.int 0), (.int 1)]) (rest := []) (lenOf pd_4 rfl) (B at_95) (W := 0) (hc := hce) (hs := hsl)
  obtain ⟨rfl, Nq2, e2⟩ := hQ2
  have N2 := Fr.app N1 Nq2
  obtain ⟨_, T3, L3, X3, hQ3, st3⟩ := own_callS X2 hx hZ hown (y := y_5) (w_34 hw) (w_35 hw) (w_3 hw) (w_36 hw) (rm5 l Z hw a11 (0 : Int32) (2 : Int32) h0 n0 Z0 (by decide)) e2 (Ls := #[vi i1, vi i2, vi i3, vi i4, vi i5, vi 0, vi i6, vi i7, vi i8, vi i9, vr a10, vr a11, un]) hml.symm (argsL := [(.ref a11), (.int 0), (.int 2)]) (rest := []) (lenOf pd_4 rfl) (B at_112) (W := 0) (hc := hce) (hs := hsl)
  obtain ⟨rfl, Nq3, e3⟩ := hQ3
  have N3 := Fr.app N2 Nq3
  obtain ⟨_, T4, L4, X4, hQ4, st4⟩ := own_callS X3 hx hZ hown (y := y_5) (w_34 hw) (w_35 hw) (w_3 hw) (w_36 hw) (rm5 l Z hw a11 (0 : Int32) (3 : Int32) h0 n0 Z0 (by decide)) e3 (Ls := #[vi i1, vi i2, vi i3, vi i4, vi i5, vi 0, vi i6, vi i7, vi i8, vi i9, vr a10, vr a11, un]) hml.symm (argsL := [(.ref a11), (.int 0), (.int 3)]) (rest := []) (lenOf pd_4 rfl) (B at_129) (W := 0) (hc := hce) (hs := hsl)
  obtain ⟨rfl, Nq4, e4⟩ := hQ4
  have N4 := Fr.app N3 Nq4
  refine ⟨T4, _, X4, e4, N4, fun target hr => ?_⟩
  refine sB X0 hx (B at_73) rfl rfl ?_
  refine sJ X0 hx (B at_75) rfl ?_
  refine sC X0 hx (B at_77) ?_
  refine st1 _ ?_
  refine XS.ifYes X1.here hx rfl (pc0 := 81) (pc' := 90) rfl (B at_81) rfl ((if0 _ _).trans (teq (by decide : (0 : Int32) = (0 : Int32))).1) (by decide) (by decide) ?_
  refine sB X1 hx (B at_90) rfl rfl ?_
  refine sJ X1 hx (B at_92) rfl ?_
  refine sC X1 hx (B at_94) ?_
  refine st2 _ ?_
  refine XS.ifYes X2.here hx rfl (pc0 := 98) (pc' := 107) rfl (B at_98) rfl ((if0 _ _).trans (teq (by decide : (0 : Int32) = (0 : Int32))).1) (by decide) (by decide) ?_
  refine sB X2 hx (B at_107) rfl rfl ?_
  refine sJ X2 hx (B at_109) rfl ?_
  refine sC X2 hx (B at_111) ?_
  refine st3 _ ?_
  refine XS.ifYes X3.here hx rfl (pc0 := 115) (pc' := 124) rfl (B at_115) rfl ((if0 _ _).trans (teq (by decide : (0 : Int32) = (0 : Int32))).1) (by decide) (by decide) ?_
  refine sB X3 hx (B at_124) rfl rfl ?_
  refine sJ X3 hx (B at_126) rfl ?_
  refine sC X3 hx (B at_128) ?_
  refine st4 _ ?_
  refine XS.ifYes X4.here hx rfl (pc0 := 132) (pc' := 141) rfl (B at_132) rfl ((if0 _ _).trans (teq (by decide : (0 : Int32) = (0 : Int32))).1) (by decide) (by decide) ?_
  refine sC X4 hx (B at_141) ?_
  refine XS.istore X4.here hx rfl (B at_142) rfl (l' := #[vi i1, vi i2, vi i3, vi i4, vi i5, vi 0, vi i6, vi i7, vi i8, vi i9, vr a10, vr a11, vi (-1)]) rfl ?_
  exact hr
abbrev Kc7 := prog_10_method_10_code
theorem d7_0 : decode Kc7 0 = .ok (.iconst 0, 1) := by decide +kernel
theorem d7_1 : decode Kc7 1 = .ok (.istore_n 1, 1) := by decide +kernel
theorem d7_2 : decode Kc7 2 = .ok (.iload_n 1, 1) := by decide +kernel
theorem d7_3 : decode Kc7 3 = .ok (.aload_n 0, 1) := by decide +kernel
theorem d7_4 : decode Kc7 4 = .ok (.invokevirtual 95, 3) := by decide +kernel
abbrev Kc8 := jdk_42_method_54_code
theorem d8_0 : decode Kc8 0 = .ok (.aload_n 0, 1) := by decide +kernel
theorem d8_1 : decode Kc8 1 = .ok (.getfield 9, 3) := by decide +kernel
theorem d8_4 : decode Kc8 4 = .ok (.arraylength, 1) := by decide +kernel
theorem d8_5 : decode Kc8 5 = .ok (.aload_n 0, 1) := by decide +kernel
theorem d8_6 : decode Kc8 6 = .ok (.invokevirtual 335, 3) := by decide +kernel
abbrev Kc9 := jdk_42_method_152_code
theorem d9_0 : decode Kc9 0 = .ok (.getstatic 38, 3) := by decide +kernel
theorem w_51 {a0 Z} (hw : OW a0 Z) : Jvm.Cond.before (.fieldLink "java/lang/String" 38 "java/lang/String" "COMPACT_STRINGS" "Z") a0 Z := hw _ (mo 51 rfl)
theorem d9_3 : decode Kc9 3 = .ok (.ifCond .eq 10, 3) := by decide +kernel
theorem d9_6 : decode Kc9 6 = .ok (.aload_n 0, 1) := by decide +kernel
theorem d9_7 : decode Kc9 7 = .ok (.getfield 15, 3) := by decide +kernel
theorem d9_10 : decode Kc9 10 = .ok (.goto 4, 3) := by decide +kernel
theorem d9_14 : decode Kc9 14 = .ok (.ireturn, 1) := by decide +kernel
theorem ef_26f21a (a1 : Addr) (m : MethodId) : entryFrame m #[(.ref a1)] 1 = mkF m 0 #[.val (.ref a1)] [] := by first | (simp [entryFrame, mkF, argsToLocals, Value.category]; done) | rfl
abbrev y_6 : MethodName := ⟨"java/lang/String", "coder", "()B"⟩
abbrev Rm7 : Room := rmk 0 0 0 0
def Q7 (Z : State) (a1 : Addr) (i2 : Int32) (h0 : Heap) (n0 : Nat) (v : Option Value) (h : Heap) (L : List Loc) : Prop := v = some (.int 0) ∧ Fr n0 L ∧ h = h0
theorem rm7 (l : Launch) (Z : State) {a0 : Array Value} (hw : OW a0 Z) (a1 : Addr) (i2 : Int32) (h0 : Heap) (n0 : Nat) (Z0 : n0 ≤ h0.size) (S_COMPACT_STRINGS : Sta Z Z.heap "java/lang/String" "COMPACT_STRINGS" "Z" (.int i2)) (Od0 : Old Z n0 h0) (c3 : ¬ (i2 = 0)) (F_coder_a1 : Fld Z h0 a1 jS "coder" "B" (.int 0)) :
    OwnMet l Z y_6 jdk_42_method_152_code 1 (some .byte) [] Rm7 #[(.ref a1)] h0 (Q7 Z a1 i2 h0 n0) := by
  refine own_body (plainFor_of_name pn_1) (ef_26f21a a1) ?_
  intro p e s m below meth c s₁ hx hby hml hown hnm hret hZ X0 e0
  have N0 := Fr.nil n0
  have B := hbx hby
  obtain ⟨T1, X1, e1, st1⟩ := getS2 X0 hx hZ hown (host := "") (Or.inl (w_51 hw)) Via.refl e0 (S_COMPACT_STRINGS.ext Od0.2) (g := (mkF m 0 #[vr a1] [])) rfl (B d9_0)
  obtain ⟨T2, X2, e2, st2⟩ := getF X1 hx hZ hown (host := "") (Or.inl (w_33 hw)) Via.refl e1 F_coder_a1 (g := (mkF m 7 #[vr a1] [(.ref a1)])) rfl rfl (B d9_7)
  refine ⟨T2, _, _, _, (some (.int 0)), X2, nofun, by decide, by decide, ?_, fun fs hr => ?_⟩
  · rw [e2]
    exact ⟨rfl, N0, rfl⟩
  · refine st1 _ ?_
    refine XS.ifNo X1.here hx rfl (B d9_3) rfl ((if0 _ _).trans (feq c3).1) ?_
    refine sA X1 hx (B d9_6) rfl rfl ?_
    refine st2 _ ?_
    refine XS.goto X2.here hx rfl (pc0 := 10) (pc' := 14) rfl (B d9_10) (by decide) (by decide) ?_
    exact retN X2 hx (t := .byte) hret (by simp) (B d9_14) hr
theorem pd_5 : parseMethodDescriptor "()B" = some ⟨[], some .byte⟩ := by decide +kernel
theorem w_50 {a0 Z} (hw : OW a0 Z) : Jvm.Cond.before (.code y_6 jdk_42_method_152_code 1 (some .byte)) a0 Z := hw _ (mo 50 rfl)
theorem w_46 {a0 Z} (hw : OW a0 Z) : Jvm.Cond.before (.methodLink "java/lang/String" 335 y_6) a0 Z := hw _ (mo 46 rfl)
theorem w_49 {a0 Z} (hw : OW a0 Z) : Jvm.Cond.before (.selects "java/lang/String" y_6 y_6) a0 Z := hw _ (mo 49 rfl)
theorem w_47 {a0 Z} (hw : OW a0 Z) : Jvm.Cond.before (.declares y_6) a0 Z := hw _ (mo 47 rfl)
theorem w_48 {a0 Z} (hw : OW a0 Z) : Jvm.Cond.before (.instanceMethod y_6) a0 Z := hw _ (mo 48 rfl)
theorem d8_9 : decode Kc8 9 = .ok (.ishr, 1) := by decide +kernel
theorem d8_10 : decode Kc8 10 = .ok (.ireturn, 1) := by decide +kernel
abbrev y_7 : MethodName := ⟨"java/lang/String", "length", "()I"⟩
abbrev Rm8 : Room := rmk 1 0 0 13
def Q8 (Z : State) (a1 a2 : Addr) (u3 : List Value) (ck4 : ClassId) (i5 i6 : Int32) (h0 : Heap) (n0 : Nat) (v : Option Value) (h : Heap) (L : List Loc) : Prop := v = some (.int (i5 >>> ((0 : Int32) &&& 31))) ∧ Fr n0 L ∧ h = h0
theorem rm8 (l : Launch) (Z : State) {a0 : Array Value} (hw : OW a0 Z) (a1 a2 : Addr) (u3 : List Value) (ck4 : ClassId) (i5 i6 : Int32) (h0 : Heap) (n0 : Nat) (Z0 : n0 ≤ h0.size) (F_value_a1 : Fld Z h0 a1 jS "value" "[B" (.ref a2)) (V_a2 : Arv Z h0 a2 ck4 .byte i5 u3 (.int 0)) (E_a1 : Exa Z h0 a1 jS) (S_COMPACT_STRINGS : Sta Z Z.heap "java/lang/String" "COMPACT_STRINGS" "Z" (.int i6)) (Od0 : Old Z n0 h0) (c7 : ¬ (i6 = 0)) (F_coder_a1 : Fld Z h0 a1 jS "coder" "B" (.int 0)) :
    OwnMet l Z y_7 jdk_42_method_54_code 1 (some .int) [] Rm8 #[(.ref a1)] h0 (Q8 Z a1 a2 u3 ck4 i5 i6 h0 n0) := by
  refine own_body (plainFor_of_name pn_1) (ef_26f21a a1) ?_
  intro p e s m below meth c s₁ hx hby hml hown hnm hret hZ X0 e0
  have N0 := Fr.nil n0
  have B := hbx hby
  obtain ⟨T1, X1, e1, st1⟩ := getF X0 hx hZ hown (host := "") (Or.inl (w_32 hw)) Via.refl e0 F_value_a1 (g := (mkF m 1 #[vr a1] [(.ref a1)])) rfl rfl (B d8_1)
  obtain ⟨cl2, Ar2, q2, S2, M2, Hs2, G2⟩ := id V_a2
  obtain ⟨_, T3, L3, X3, hQ3, st3⟩ := own_virtual X1 hx hZ hown (y := y_6) (z := y_6) E_a1 (w_46 hw) (w_47 hw) (own_nf hZ (w_49 hw)) (w_49 hw) (w_48 hw) (w_14 hw) (w_50 hw) (rm7 l Z hw a1 i6 h0 n0 Z0 S_COMPACT_STRINGS Od0 c7 F_coder_a1) e1 (Ls := #[vr a1]) hml.symm (argsL := []) (rest := [(.int i5)]) (lenOf pd_5 rfl) (B d8_6) (W := 1)
  obtain ⟨rfl, Nq3, e3⟩ := hQ3
  have N3 := Fr.app N0 Nq3
  refine ⟨T3, _, _, _, (some (.int (i5 >>> ((0 : Int32) &&& 31)))), X3, nofun, by decide, by decide, ?_, fun fs hr => ?_⟩
  · rw [e3]
    exact ⟨rfl, N3, rfl⟩
  · refine sA X0 hx (B d8_0) rfl rfl ?_
    refine st1 _ ?_
    refine X1.arraylength hx (by rw [e1]; exact Ar2.1) (State.isArrayOf_alike hZ.alike Ar2.2.1) (g := (mkF m 4 #[vr a1] [(.ref a2)])) rfl rfl (B d8_4) _ ?_
    show Steps p.tables e below (T1.setTop (mkF m 5 #[vr a1] [(.int cl2.slots.size.toInt32)])) _
    rw [len_of S2 M2]
    refine sA X1 hx (B d8_5) rfl rfl ?_
    refine st3 _ ?_
    refine XS.ishr X3.here hx rfl (B d8_9) rfl ?_
    exact retI X3 hx hret (B d8_10) hr
theorem pd_6 : parseMethodDescriptor "()I" = some ⟨[], some .int⟩ := by decide +kernel
theorem w_45 {a0 Z} (hw : OW a0 Z) : Jvm.Cond.before (.code y_7 jdk_42_method_54_code 1 (some .int)) a0 Z := hw _ (mo 45 rfl)
theorem w_41 {a0 Z} (hw : OW a0 Z) : Jvm.Cond.before (.methodLink "com/example/sidwire/sidwire/cbor/CborWriter" 95 y_7) a0 Z := hw _ (mo 41 rfl)
theorem w_44 {a0 Z} (hw : OW a0 Z) : Jvm.Cond.before (.selects "java/lang/String" y_7 y_7) a0 Z := hw _ (mo 44 rfl)
theorem w_42 {a0 Z} (hw : OW a0 Z) : Jvm.Cond.before (.declares y_7) a0 Z := hw _ (mo 42 rfl)
theorem w_43 {a0 Z} (hw : OW a0 Z) : Jvm.Cond.before (.instanceMethod y_7) a0 Z := hw _ (mo 43 rfl)
theorem d7_7 : decode Kc7 7 = .ok (.if_icmp .ge 33, 3) := by decide +kernel
abbrev RmT7 : Room := rmk 8 0 0 150
theorem tn9 (l : Launch) (Z : State) {a0 : Array Value} (hw : OW a0 Z) (a1 : Addr) (i2 : Int32) (o2 : Slot) (a3 : Addr) (u4 : List Value) (ck5 : ClassId) (i6 i7 : Int32) (h0 : Heap) (n0 : Nat) (Z0 : n0 ≤ h0.size) (ho2 : o2 = .unset ∨ ∃ x, o2 = .val (.int x)) (E_a1 : Exa Z h0 a1 jS) (F_value_a1 : Fld Z h0 a1 jS "value" "[B" (.ref a3)) (V_a3 : Arv Z h0 a3 ck5 .byte i6 u4 (.int 0)) (S_COMPACT_STRINGS : Sta Z Z.heap "java/lang/String" "COMPACT_STRINGS" "Z" (.int i7)) (Od0 : Old Z n0 h0) (c8 : ¬ (i7 = 0)) (F_coder_a1 : Fld Z h0 a1 jS "coder" "B" (.int 0)) (c9 : ¬ (i2 < (i6 >>> ((0 : Int32) &&& 31)))) {p : Program} {e : Env} {s : State} {m : MethodId} {args : Array Value} {below : List Frame} {meth : Method} {c : Code} {s₁ : State} {L0 : List Loc} {ce sl : Nat} (hx : p.tables.exec = Jvm.exec) (hby : c.code = prog_10_method_10_code) (hml : c.maxLocals = 3) (hown : s.vm.findClass "com/example/sidwire/sidwire/cbor/CborWriter" = some m.cls) (hZ : Z.Warmed39 s.vm) (X0 : Stand p l e RmT7 s m args below meth c s₁ L0 ce sl) (e0 : s₁.heap = h0) (N0 : Fr n0 L0) (hce : ce ≤ RmT7.cells) (hsl : sl ≤ RmT7.slots) :
    ∃ (T : State) (L : List Loc), Stand p l e RmT7 s m args below meth c T L ce sl ∧ T.heap = h0 ∧ Fr n0 L ∧ ∀ target, Steps p.tables e below (T.setTop (mkF m 40 #[vr a1, vi i2, o2] [])) target → Steps p.tables e below (s₁.setTop (mkF m 2 #[vr a1, vi i2, o2] [])) target := by
  have B := hbx hby
  obtain ⟨_, T1, L1, X1, hQ1, st1⟩ := own_virtual X0 hx hZ hown (y := y_7) (z := y_7) E_a1 (w_41 hw) (w_42 hw) (own_nf hZ (w_44 hw)) (w_44 hw) (w_43 hw) (w_14 hw) (w_45 hw) (rm8 l Z hw a1 a3 u4 ck5 i6 i7 h0 n0 Z0 F_value_a1 V_a3 E_a1 S_COMPACT_STRINGS Od0 c8 F_coder_a1) e0 (Ls := #[vr a1, vi i2, o2]) hml.symm (argsL := []) (rest := [(.int i2)]) (lenOf pd_6 rfl) (B d7_4) (W := 1) (hc := hce) (hs := hsl)
  obtain ⟨rfl, Nq1, e1⟩ := hQ1
  have N1 := Fr.app N0 Nq1
  refine ⟨T1, _, X1, e1, N1, fun target hr => ?_⟩
  rcases ho2 with rfl | ⟨_, rfl⟩
  all_goals
    refine sI X0 hx (B d7_2) rfl ?_
    refine sA X0 hx (B d7_3) rfl rfl ?_
    refine st1 _ ?_
    refine XS.icmpYes X1.here hx rfl (pc0 := 7) (pc' := 40) rfl (B d7_7) rfl (flt c9).2.1 (by decide) (by decide) ?_
    exact hr
theorem d7_40 : decode Kc7 40 = .ok (.iconst (-1), 1) := by decide +kernel
theorem d7_41 : decode Kc7 41 = .ok (.ireturn, 1) := by decide +kernel
theorem ef_aae876 (a1 : Addr) (m : MethodId) : entryFrame m #[(.ref a1)] 3 = mkF m 0 #[.val (.ref a1), .unset, .unset] [] := by first | (simp [entryFrame, mkF, argsToLocals, Value.category]; done) | rfl
abbrev y_8 : MethodName := ⟨"com/example/sidwire/sidwire/cbor/CborWriter", "unpairedSurrogate", "(Ljava/lang/String;)I"⟩
theorem pn_2 : plainName "com/example/sidwire/sidwire/cbor/CborWriter" = true := by first | (simp [plainName, overriddenIn]; done) | decide +kernel
abbrev Rm10 : Room := rmk 8 0 0 150
def Q10 (Z : State) (a1 a2 : Addr) (ck3 : ClassId) (i4 : Int32) (h0 : Heap) (n0 : Nat) (v : Option Value) (h : Heap) (L : List Loc) : Prop := v = some (.int (-1)) ∧ Fr n0 L ∧ h = h0
theorem rm10 (l : Launch) (Z : State) {a0 : Array Value} (hw : OW a0 Z) (a1 a2 : Addr) (ck3 : ClassId) (i4 : Int32) (h0 : Heap) (n0 : Nat) (Z0 : n0 ≤ h0.size) (E_a1 : Exa Z h0 a1 jS) (F_value_a1 : Fld Z h0 a1 jS "value" "[B" (.ref a2)) (V_a2 : Arv Z h0 a2 ck3 .byte 0 [] (.int 0)) (S_COMPACT_STRINGS : Sta Z Z.heap "java/lang/String" "COMPACT_STRINGS" "Z" (.int i4)) (Od0 : Old Z n0 h0) (c5 : ¬ (i4 = 0)) (F_coder_a1 : Fld Z h0 a1 jS "coder" "B" (.int 0)) :
    OwnMet l Z y_8 prog_10_method_10_code 3 (some .int) [] Rm10 #[(.ref a1)] h0 (Q10 Z a1 a2 ck3 i4 h0 n0) := by
  refine own_body (plainFor_of_name pn_2) (ef_aae876 a1) ?_
  intro p e s m below meth c s₁ hx hby hml hown hnm hret hZ X0 e0
  have N0 := Fr.nil n0
  have B := hbx hby
  obtain ⟨T1, L1, X1, e1, N1, st1⟩ := tn9 l Z hw a1 (0 : Int32) .unset a2 [] ck3 (0 : Int32) i4 h0 n0 Z0 (Or.inl rfl) E_a1 F_value_a1 V_a2 S_COMPACT_STRINGS Od0 c5 F_coder_a1 (by decide) hx hby hml hown hZ X0 e0 N0 (by decide) (by decide)
  refine ⟨T1, _, _, _, (some (.int (-1))), X1, nofun, by decide, by decide, ?_, fun fs hr => ?_⟩
  · rw [e1]
    exact ⟨rfl, N1, rfl⟩
  · refine sC X0 hx (B d7_0) ?_
    refine XS.istoreN X0.here hx rfl (B d7_1) rfl (l' := #[vr a1, vi 0, un]) rfl ?_
    refine st1 _ ?_
    refine sC X1 hx (B d7_40) ?_
    exact retI X1 hx hret (B d7_41) hr
theorem pd_7 : parseMethodDescriptor "(Ljava/lang/String;)I" = some ⟨[(.object "java/lang/String")], some .int⟩ := by decide +kernel
theorem w_39 {a0 Z} (hw : OW a0 Z) : Jvm.Cond.before (.initialized "com/example/sidwire/sidwire/cbor/CborWriter") a0 Z := hw _ (mo 39 rfl)
theorem w_40 {a0 Z} (hw : OW a0 Z) : Jvm.Cond.before (.code y_8 prog_10_method_10_code 3 (some .int)) a0 Z := hw _ (mo 40 rfl)
theorem w_37 {a0 Z} (hw : OW a0 Z) : Jvm.Cond.before (.methodLink "com/example/sidwire/sidwire/cbor/CborWriterUnpairedSurrogatePinLaw" 22 y_8) a0 Z := hw _ (mo 37 rfl)
theorem w_38 {a0 Z} (hw : OW a0 Z) : Jvm.Cond.before (.static y_8) a0 Z := hw _ (mo 38 rfl)
theorem ef0 (p1 : Int32) (p2 : Int32) (p3 : Int32) (p4 : Int32) (p5 : Int32) (m : MethodId) : entryFrame m #[(.int p1), (.int p2), (.int p3), (.int p4), (.int p5)] maxLocals = mkF m 0 #[.val (.int p1), .val (.int p2), .val (.int p3), .val (.int p4), .val (.int p5), .unset, .unset, .unset, .unset, .unset, .unset, .unset, .unset] [] := by first | (simp [entryFrame, mkF, argsToLocals, Value.category, maxLocals]; done) | rfl
theorem rm0_0 (l : Launch) (Z : State) {a0 : Array Value} (hw : OW a0 Z) (ws : List Jvm.Cond) (p1 p2 p3 p4 p5 : Int32) (sr1 : Value) (si2 : Int32) (h0 : Heap) (n0 : Nat) (Z0 : n0 ≤ h0.size) (Od0 : Old Z n0 h0) (R_sr1 : sr1.isRef = true) (nc6 : ¬ (si2 = 0)) (S7_SIOOBE_FORMATTER : Sta Z Z.heap "jdk/internal/util/Preconditions" "SIOOBE_FORMATTER" "Ljava/util/function/BiFunction;" sr1) (S8_COMPACT_STRINGS : Sta Z Z.heap "java/lang/String" "COMPACT_STRINGS" "Z" (.int si2)) (S9__assertionsDisabled : Sta Z Z.heap "java/lang/StringUTF16" "$assertionsDisabled" "Z" (.int 1)) (S10_HI_BYTE_SHIFT : Sta Z Z.heap "java/lang/StringUTF16" "HI_BYTE_SHIFT" "I" (.int 0)) (S11_LO_BYTE_SHIFT : Sta Z Z.heap "java/lang/StringUTF16" "LO_BYTE_SHIFT" "I" (.int 8)) (hk : ((p5 &&& (2147483647 : Int32)) - ((p5 &&& (2147483647 : Int32)) / (5 : Int32)) * (5 : Int32)) = (0 : Int32)) (hcw : Jvm.Lit.compactW.before a0 Z = true) (hch_7 : Jvm.Lit.constHeld Z "java/lang/String" 7) :
    OwnMetW l Z x code maxLocals ret ws room_1 #[(.int p1), (.int p2), (.int p3), (.int p4), (.int p5)] h0 (Q0 n0) := by
  refine own_bodyW (plainFor_of_name pn_0) (ef0 p1 p2 p3 p4 p5) ?_
  intro p e s m below meth c s₁ hx hby hml hown hnm hret hZ hs0 hIB X0 e0
  have N0 := Fr.nil n0
  have B := hbx hby
  obtain ⟨_, T1, L1, X1, hQ1, st1⟩ := own_callS X0 hx hZ hown (y := y_0) (w_1 hw) (w_2 hw) (w_3 hw) (w_4 hw) (rm1 l Z hw p1 h0 n0 Z0) e0 (Ls := #[vi p1, vi p2, vi p3, vi p4, vi p5, vi 0, un, un, un, un, un, un, un]) hml.symm (argsL := [(.int p1)]) (rest := []) (lenOf pd_0 rfl) (B at_10) (W := 0)
  obtain ⟨rfl, Nq1, e1⟩ := hQ1
  have N1 := Fr.app N0 Nq1
  obtain ⟨_, T2, L2, X2, hQ2, st2⟩ := own_callS X1 hx hZ hown (y := y_0) (w_1 hw) (w_2 hw) (w_3 hw) (w_4 hw) (rm1 l Z hw p2 h0 n0 Z0) e1 (Ls := #[vi p1, vi p2, vi p3, vi p4, vi p5, vi 0, vi (own_ch p1), un, un, un, un, un, un]) hml.symm (argsL := [(.int p2)]) (rest := []) (lenOf pd_0 rfl) (B at_16) (W := 0)
  obtain ⟨rfl, Nq2, e2⟩ := hQ2
  have N2 := Fr.app N1 Nq2
  obtain ⟨_, T3, L3, X3, hQ3, st3⟩ := own_callS X2 hx hZ hown (y := y_0) (w_1 hw) (w_2 hw) (w_3 hw) (w_4 hw) (rm1 l Z hw p3 h0 n0 Z0) e2 (Ls := #[vi p1, vi p2, vi p3, vi p4, vi p5, vi 0, vi (own_ch p1), vi (own_ch p2), un, un, un, un, un]) hml.symm (argsL := [(.int p3)]) (rest := []) (lenOf pd_0 rfl) (B at_22) (W := 0)
  obtain ⟨rfl, Nq3, e3⟩ := hQ3
  have N3 := Fr.app N2 Nq3
  obtain ⟨_, T4, L4, X4, hQ4, st4⟩ := own_callS X3 hx hZ hown (y := y_0) (w_1 hw) (w_2 hw) (w_3 hw) (w_4 hw) (rm1 l Z hw p4 h0 n0 Z0) e3 (Ls := #[vi p1, vi p2, vi p3, vi p4, vi p5, vi 0, vi (own_ch p1), vi (own_ch p2), vi (own_ch p3), un, un, un, un]) hml.symm (argsL := [(.int p4)]) (rest := []) (lenOf pd_0 rfl) (B at_28) (W := 0)
  obtain ⟨rfl, Nq4, e4⟩ := hQ4
  have N4 := Fr.app N3 Nq4
  obtain ⟨_, T5, L5, X5, hQ5, Sn5, hZ5, hown5, st5⟩ := own_callSW X4 hx hZ hown hIB (y := y_4) (w_9 hw) (w_10 hw) (w_3 hw) (w_11 hw) (rm4 l Z hw (own_ch p1) (own_ch p2) (own_ch p3) (own_ch p4) h0 n0 Z0 hcw hch_7 Od0) e4 (Ls := #[vi p1, vi p2, vi p3, vi p4, vi p5, vi 0, vi (own_ch p1), vi (own_ch p2), vi (own_ch p3), vi (own_ch p4), un, un, un]) hml.symm (argsL := [(.int 0), (.int (own_ch p1)), (.int (own_ch p2)), (.int (own_ch p3)), (.int (own_ch p4))]) (rest := []) (lenOf pd_3 rfl) (B at_43) (W := 0)
  obtain ⟨kn5, ekn5⟩ : ∃ z, z = T5.heap.size := ⟨_, rfl⟩
  rw [← ekn5] at Sn5
  have kl5 : kn5 ≤ T5.heap.size := Nat.le_of_eq ekn5
  obtain ⟨b5_0, b5_1, k5_2, rfl, Nq5, K5, o5_0, o5_1, o5_2, o5_3, o5_4⟩ := hQ5
  have N5 := Fr.app N4 Nq5
  have s0 := K5.1
  obtain ⟨T6, h6, k6, X6, e6, E6, A6, B6, st6⟩ := newPE (aty := .char) X5 hx hZ5 (w_15 hw) rfl (g := (mkF m 49 #[vi p1, vi p2, vi p3, vi p4, vi p5, vi 0, vi (own_ch p1), vi (own_ch p2), vi (own_ch p3), vi (own_ch p4), vr b5_0, un, un] [(.int 4)])) rfl (B at_49) rfl (by decide) (cap := 4) (by decide) (by decide) (by decide) (by decide) (ad := "[C") (by decide)
  obtain ⟨b6, g6⟩ : ∃ z, z = T5.heap.size := ⟨_, rfl⟩
  rw [← g6] at A6 B6 st6
  have s1 := E6.1
  have Vn6 : Arv Z h6 b6 k6 .char 4 [(.int 0), (.int 0), (.int 0), (.int 0)] (.int 0) := (Arv.new A6 (by decide)).pad (pad_rep [] (.int 0) 4)
  obtain ⟨cl7, Ar7, q7, S7, M7, Hs7, G7⟩ := id Vn6
  have hin8 := inb_of (j := 0) S7 ⟨by decide, by decide⟩
  obtain ⟨T9, h9, X9, e9, W9, st9⟩ := stC X6 hx hZ5 e6 Ar7 (j := 0) hin8 (g := (mkF m 55 #[vi p1, vi p2, vi p3, vi p4, vi p5, vi 0, vi (own_ch p1), vi (own_ch p2), vi (own_ch p3), vi (own_ch p4), vr b5_0, un, un] [(.int (own_ch p1)), (.int 0), (.ref b6), (.ref b6)])) rfl rfl (B at_55)
  have s2 := (Keep.of_wr W9).1
  have z1 := Nat.le_trans Z0 s0
  have g_b6 : n0 ≤ b6 := Nat.le_trans z1 (Nat.le_of_eq g6.symm)
  have N9 := Fr.snoc X9 N5 g_b6
  have Vs9 : Arv Z h9 b6 k6 .char 4 [(.int (nar .char (own_ch p1))), (.int 0), (.int 0), (.int 0)] (.int 0) := Arv.set Ar7 q7 S7 M7 Hs7 G7 (fits_nar_char _) W9 0 rfl (nl rfl)
  obtain ⟨cl10, Ar10, q10, S10, M10, Hs10, G10⟩ := id Vs9
  have hin11 := inb_of (j := 1) S10 ⟨by decide, by decide⟩
  obtain ⟨T12, h12, X12, e12, W12, st12⟩ := stC X9 hx hZ5 e9 Ar10 (j := 1) hin11 (g := (mkF m 60 #[vi p1, vi p2, vi p3, vi p4, vi p5, vi 0, vi (own_ch p1), vi (own_ch p2), vi (own_ch p3), vi (own_ch p4), vr b5_0, un, un] [(.int (own_ch p2)), (.int 1), (.ref b6), (.ref b6)])) rfl rfl (B at_60)
  have s3 := (Keep.of_wr W12).1
  have N12 := Fr.snoc X12 N9 g_b6
  have Vs12 : Arv Z h12 b6 k6 .char 4 [(.int (nar .char (own_ch p1))), (.int (nar .char (own_ch p2))), (.int 0), (.int 0)] (.int 0) := Arv.set Ar10 q10 S10 M10 Hs10 G10 (fits_nar_char _) W12 1 rfl (nl rfl)
  obtain ⟨cl13, Ar13, q13, S13, M13, Hs13, G13⟩ := id Vs12
  have hin14 := inb_of (j := 2) S13 ⟨by decide, by decide⟩
  obtain ⟨T15, h15, X15, e15, W15, st15⟩ := stC X12 hx hZ5 e12 Ar13 (j := 2) hin14 (g := (mkF m 65 #[vi p1, vi p2, vi p3, vi p4, vi p5, vi 0, vi (own_ch p1), vi (own_ch p2), vi (own_ch p3), vi (own_ch p4), vr b5_0, un, un] [(.int (own_ch p3)), (.int 2), (.ref b6), (.ref b6)])) rfl rfl (B at_65)
  have s4 := (Keep.of_wr W15).1
  have N15 := Fr.snoc X15 N12 g_b6
  have Vs15 : Arv Z h15 b6 k6 .char 4 [(.int (nar .char (own_ch p1))), (.int (nar .char (own_ch p2))), (.int (nar .char (own_ch p3))), (.int 0)] (.int 0) := Arv.set Ar13 q13 S13 M13 Hs13 G13 (fits_nar_char _) W15 2 rfl (nl rfl)
  obtain ⟨cl16, Ar16, q16, S16, M16, Hs16, G16⟩ := id Vs15
  have hin17 := inb_of (j := 3) S16 ⟨by decide, by decide⟩
  obtain ⟨T18, h18, X18, e18, W18, st18⟩ := stC X15 hx hZ5 e15 Ar16 (j := 3) hin17 (g := (mkF m 70 #[vi p1, vi p2, vi p3, vi p4, vi p5, vi 0, vi (own_ch p1), vi (own_ch p2), vi (own_ch p3), vi (own_ch p4), vr b5_0, un, un] [(.int (own_ch p4)), (.int 3), (.ref b6), (.ref b6)])) rfl rfl (B at_70)
  have s5 := (Keep.of_wr W18).1
  have N18 := Fr.snoc X18 N15 g_b6
  have Vs18 : Arv Z h18 b6 k6 .char 4 [(.int (nar .char (own_ch p1))), (.int (nar .char (own_ch p2))), (.int (nar .char (own_ch p3))), (.int (nar .char (own_ch p4)))] (.int 0) := Arv.set Ar16 q16 S16 M16 Hs16 G16 (fits_nar_char _) W18 3 rfl (nl rfl)
  have z6 := Nat.le_trans Z0 (Nat.le_trans (Nat.le_trans (Nat.le_trans (Nat.le_trans (Nat.le_trans s0 s1) s2) s3) s4) s5)
  obtain ⟨T19, L19, X19, e19, N19, st19⟩ := tn6 l Z hw p1 p2 p3 p4 p5 (own_ch p1) (own_ch p2) (own_ch p3) (own_ch p4) b5_0 b6 h18 n0 z6 hx hby hml hown5 hZ5 X18 e18 N18 (by decide) (by decide)
  have Ex20 := (((((o5_1.ext E6).wr W9).wr W12).wr W15).wr W18)
  have ne_b5_0_b6 := Nat.ne_of_lt (Nat.lt_of_lt_of_le o5_3.lt (Nat.le_of_eq g6.symm))
  have Fl21 := (((((o5_3.ext E6).other W9 (Or.inl ne_b5_0_b6)).other W12 (Or.inl ne_b5_0_b6)).other W15 (Or.inl ne_b5_0_b6)).other W18 (Or.inl ne_b5_0_b6))
  have ne_b5_1_b6 := Nat.ne_of_lt (Nat.lt_of_lt_of_le o5_4.lt (Nat.le_of_eq g6.symm))
  have Va22 := (((((o5_4.ext E6).other W9 ne_b5_1_b6).other W12 ne_b5_1_b6).other W15 ne_b5_1_b6).other W18 ne_b5_1_b6)
  have Od1 := Od0.keep K5 all0
  have Od2 := Od1.ext E6
  have Od3 := Od2.wr W9 g_b6
  have Od4 := Od3.wr W12 g_b6
  have Od5 := Od4.wr W15 g_b6
  have Od6 := Od5.wr W18 g_b6
  have Fl23 := (((((o5_2.ext E6).other W9 (Or.inl ne_b5_0_b6)).other W12 (Or.inl ne_b5_0_b6)).other W15 (Or.inl ne_b5_0_b6)).other W18 (Or.inl ne_b5_0_b6))
  obtain ⟨_, T24, L24, X24, hQ24, st24⟩ := own_callS X19 hx hZ5 hown5 (y := y_8) (w_37 hw) (w_38 hw) (w_39 hw) (w_40 hw) (rm10 l Z hw b5_0 b5_1 k5_2 si2 h18 n0 z6 Ex20 Fl21 Va22 S8_COMPACT_STRINGS Od6 nc6 Fl23) e19 (Ls := #[vi p1, vi p2, vi p3, vi p4, vi p5, vi 0, vi (own_ch p1), vi (own_ch p2), vi (own_ch p3), vi (own_ch p4), vr b5_0, vr b6, vi (-1)]) hml.symm (argsL := [(.ref b5_0)]) (rest := []) (lenOf pd_7 rfl) (B at_146) (W := 0)
  obtain ⟨rfl, Nq24, e24⟩ := hQ24
  have N24 := Fr.app N19 Nq24
  refine ⟨T24, _, _, _, (some (.int 1)), T5.vm, kn5, X24, Sn5, (by rw [e24]; exact Nat.le_trans kl5 (Nat.le_trans (Nat.le_trans (Nat.le_trans (Nat.le_trans s1 s2) s3) s4) s5)), nofun, by decide, by decide, ?_, fun fs hr => ?_⟩
  · show Q0 n0 _ T24.heap _
    rw [e24]
    exact ⟨rfl, N24⟩
  · refine sJ X0 hx (B at_0) rfl ?_
    refine X0.ldcInt hx hown (mvT hZ (w_0 hw)) (g := (mkF m 2 #[vi p1, vi p2, vi p3, vi p4, vi p5, un, un, un, un, un, un, un, un] [(.int p5)])) rfl (B at_2) _ ?_
    refine XS.iand X0.here hx rfl (B at_4) rfl ?_
    refine sC X0 hx (B at_5) ?_
    refine XS.irem X0.here hx rfl (B at_6) rfl (by decide : ¬ ((5 : Int32) = (0 : Int32))) ?_
    show Steps p.tables e below (s₁.setTop (mkF m 7 #[vi p1, vi p2, vi p3, vi p4, vi p5, un, un, un, un, un, un, un, un] [(.int ((p5 &&& (2147483647 : Int32)) - ((p5 &&& (2147483647 : Int32)) / (5 : Int32)) * (5 : Int32)))])) _
    rw [hk]
    refine XS.istore X0.here hx rfl (B at_7) rfl (l' := #[vi p1, vi p2, vi p3, vi p4, vi p5, vi 0, un, un, un, un, un, un, un]) rfl ?_
    refine sI X0 hx (B at_9) rfl ?_
    refine st1 _ ?_
    refine XS.istore X1.here hx rfl (B at_13) rfl (l' := #[vi p1, vi p2, vi p3, vi p4, vi p5, vi 0, vi (own_ch p1), un, un, un, un, un, un]) rfl ?_
    refine sI X1 hx (B at_15) rfl ?_
    refine st2 _ ?_
    refine XS.istore X2.here hx rfl (B at_19) rfl (l' := #[vi p1, vi p2, vi p3, vi p4, vi p5, vi 0, vi (own_ch p1), vi (own_ch p2), un, un, un, un, un]) rfl ?_
    refine sI X2 hx (B at_21) rfl ?_
    refine st3 _ ?_
    refine XS.istore X3.here hx rfl (B at_25) rfl (l' := #[vi p1, vi p2, vi p3, vi p4, vi p5, vi 0, vi (own_ch p1), vi (own_ch p2), vi (own_ch p3), un, un, un, un]) rfl ?_
    refine sI X3 hx (B at_27) rfl ?_
    refine st4 _ ?_
    refine XS.istore X4.here hx rfl (B at_31) rfl (l' := #[vi p1, vi p2, vi p3, vi p4, vi p5, vi 0, vi (own_ch p1), vi (own_ch p2), vi (own_ch p3), vi (own_ch p4), un, un, un]) rfl ?_
    refine sJ X4 hx (B at_33) rfl ?_
    refine sJ X4 hx (B at_35) rfl ?_
    refine sJ X4 hx (B at_37) rfl ?_
    refine sJ X4 hx (B at_39) rfl ?_
    refine sJ X4 hx (B at_41) rfl ?_
    refine st5 _ ?_
    refine XS.astore X5.here hx rfl (B at_46) rfl rfl (l' := #[vi p1, vi p2, vi p3, vi p4, vi p5, vi 0, vi (own_ch p1), vi (own_ch p2), vi (own_ch p3), vi (own_ch p4), vr b5_0, un, un]) rfl ?_
    refine sC X5 hx (B at_48) ?_
    refine st6 _ ?_
    refine XS.dup X6.here hx rfl (B at_51) rfl rfl ?_
    refine sC X6 hx (B at_52) ?_
    refine sJ X6 hx (B at_53) rfl ?_
    refine st9 _ ?_
    refine XS.dup X9.here hx rfl (B at_56) rfl rfl ?_
    refine sC X9 hx (B at_57) ?_
    refine sJ X9 hx (B at_58) rfl ?_
    refine st12 _ ?_
    refine XS.dup X12.here hx rfl (B at_61) rfl rfl ?_
    refine sC X12 hx (B at_62) ?_
    refine sJ X12 hx (B at_63) rfl ?_
    refine st15 _ ?_
    refine XS.dup X15.here hx rfl (B at_66) rfl rfl ?_
    refine sC X15 hx (B at_67) ?_
    refine sJ X15 hx (B at_68) rfl ?_
    refine st18 _ ?_
    refine XS.astore X18.here hx rfl (B at_71) rfl rfl (l' := #[vi p1, vi p2, vi p3, vi p4, vi p5, vi 0, vi (own_ch p1), vi (own_ch p2), vi (own_ch p3), vi (own_ch p4), vr b5_0, vr b6, un]) rfl ?_
    refine st19 _ ?_
    refine sB X19 hx (B at_144) rfl rfl ?_
    refine st24 _ ?_
    refine sJ X24 hx (B at_149) rfl ?_
    refine XS.icmpNo X24.here hx rfl (B at_151) rfl (teq (by decide : (-1 : Int32) = (-1 : Int32))).2 ?_
    refine sC X24 hx (B at_154) ?_
    refine XS.goto X24.here hx rfl (pc0 := 155) (pc' := 159) rfl (B at_155) (by decide) (by decide) ?_
    exact retN X24 hx (t := .boolean) hret (by simp) (B at_159) hr
theorem d2_15 : decode Kc2 15 = .ok (.iload_n 0, 1) := by decide +kernel
theorem d2_16 : decode Kc2 16 = .ok (.iconst 1, 1) := by decide +kernel
theorem d2_17 : decode Kc2 17 = .ok (.if_icmp .ne 18, 3) := by decide +kernel
theorem d2_20 : decode Kc2 20 = .ok (.new 33, 3) := by decide +kernel
theorem d2_23 : decode Kc2 23 = .ok (.dup, 1) := by decide +kernel
theorem d2_24 : decode Kc2 24 = .ok (.iconst 1, 1) := by decide +kernel
theorem d2_25 : decode Kc2 25 = .ok (.newarray .char, 2) := by decide +kernel
theorem d2_27 : decode Kc2 27 = .ok (.dup, 1) := by decide +kernel
theorem d2_28 : decode Kc2 28 = .ok (.iconst 0, 1) := by decide +kernel
theorem d2_29 : decode Kc2 29 = .ok (.iload_n 1, 1) := by decide +kernel
theorem d2_30 : decode Kc2 30 = .ok (.castore, 1) := by decide +kernel
theorem d2_31 : decode Kc2 31 = .ok (.invokespecial 35, 3) := by decide +kernel
theorem d4_27 : decode Kc4 27 = .ok (.getstatic 38, 3) := by decide +kernel
theorem d4_30 : decode Kc4 30 = .ok (.ifCond .eq 28, 3) := by decide +kernel
theorem d4_33 : decode Kc4 33 = .ok (.aload_n 1, 1) := by decide +kernel
theorem d4_34 : decode Kc4 34 = .ok (.iload_n 2, 1) := by decide +kernel
theorem d4_35 : decode Kc4 35 = .ok (.iload_n 3, 1) := by decide +kernel
theorem d4_36 : decode Kc4 36 = .ok (.invokestatic 177, 3) := by decide +kernel
abbrev Kc10 := jdk_52_method_16_code
theorem d10_0 : decode Kc10 0 = .ok (.iload_n 2, 1) := by decide +kernel
theorem d10_1 : decode Kc10 1 = .ok (.newarray .byte, 2) := by decide +kernel
theorem d10_3 : decode Kc10 3 = .ok (.astore_n 3, 1) := by decide +kernel
theorem d10_4 : decode Kc10 4 = .ok (.aload_n 0, 1) := by decide +kernel
theorem d10_5 : decode Kc10 5 = .ok (.iload_n 1, 1) := by decide +kernel
theorem d10_6 : decode Kc10 6 = .ok (.aload_n 3, 1) := by decide +kernel
theorem d10_7 : decode Kc10 7 = .ok (.iconst 0, 1) := by decide +kernel
theorem d10_8 : decode Kc10 8 = .ok (.iload_n 2, 1) := by decide +kernel
theorem d10_9 : decode Kc10 9 = .ok (.invokestatic 115, 3) := by decide +kernel
abbrev Kc11 := jdk_52_method_21_code
theorem d11_0 : decode Kc11 0 = .ok (.iconst 0, 1) := by decide +kernel
theorem d11_1 : decode Kc11 1 = .ok (.istore 5, 2) := by decide +kernel
theorem d11_3 : decode Kc11 3 = .ok (.iload 5, 2) := by decide +kernel
theorem d11_5 : decode Kc11 5 = .ok (.iload 4, 2) := by decide +kernel
theorem d11_7 : decode Kc11 7 = .ok (.if_icmp .ge 37, 3) := by decide +kernel
theorem d11_10 : decode Kc11 10 = .ok (.aload_n 0, 1) := by decide +kernel
theorem d11_11 : decode Kc11 11 = .ok (.iload_n 1, 1) := by decide +kernel
theorem d11_12 : decode Kc11 12 = .ok (.caload, 1) := by decide +kernel
theorem d11_13 : decode Kc11 13 = .ok (.istore 6, 2) := by decide +kernel
theorem d11_15 : decode Kc11 15 = .ok (.iload 6, 2) := by decide +kernel
theorem d11_17 : decode Kc11 17 = .ok (.sipush 255, 3) := by decide +kernel
theorem d11_20 : decode Kc11 20 = .ok (.if_icmp .le 6, 3) := by decide +kernel
theorem d11_23 : decode Kc11 23 = .ok (.iload 5, 2) := by decide +kernel
theorem d11_25 : decode Kc11 25 = .ok (.ireturn, 1) := by decide +kernel
theorem ef_bad258 (a1 : Addr) (a2 : Addr) (m : MethodId) : entryFrame m #[(.ref a1), (.int 0), (.ref a2), (.int 0), (.int 1)] 7 = mkF m 0 #[.val (.ref a1), .val (.int 0), .val (.ref a2), .val (.int 0), .val (.int 1), .unset, .unset] [] := by first | (simp [entryFrame, mkF, argsToLocals, Value.category]; done) | rfl
abbrev y_9 : MethodName := ⟨"java/lang/StringUTF16", "compress", "([CI[BII)I"⟩
theorem pn_3 : plainName "java/lang/StringUTF16" = true := by first | (simp [plainName, overriddenIn]; done) | decide +kernel
abbrev Rm11 : Room := rmk 0 0 0 0
def Q11 (Z : State) (a1 a2 : Addr) (i3 : Int32) (ck4 : ClassId) (h0 : Heap) (n0 : Nat) (v : Option Value) (h : Heap) (L : List Loc) : Prop := v = some (.int 0) ∧ Fr n0 L ∧ h = h0
theorem rm11 (l : Launch) (Z : State) {a0 : Array Value} (hw : OW a0 Z) (a1 a2 : Addr) (i3 : Int32) (ck4 : ClassId) (h0 : Heap) (n0 : Nat) (Z0 : n0 ≤ h0.size) (V_a1 : Arv Z h0 a1 ck4 .char 1 [(.int i3)] (.int 0)) (c5 : 255 < i3) :
    OwnMet l Z y_9 jdk_52_method_21_code 7 (some .int) [] Rm11 #[(.ref a1), (.int 0), (.ref a2), (.int 0), (.int 1)] h0 (Q11 Z a1 a2 i3 ck4 h0 n0) := by
  refine own_body (plainFor_of_name pn_3) (ef_bad258 a1 a2) ?_
  intro p e s m below meth c s₁ hx hby hml hown hnm hret hZ X0 e0
  have N0 := Fr.nil n0
  have B := hbx hby
  obtain ⟨cl1, Ar1, q1, S1, M1, Hs1, G1⟩ := id V_a1
  have hin2 := inb_of (j := 0) S1 ⟨by decide, by decide⟩
  refine ⟨s₁, _, _, _, (some (.int 0)), X0, nofun, by decide, by decide, ?_, fun fs hr => ?_⟩
  · rw [e0]
    exact ⟨rfl, N0, rfl⟩
  · refine sC X0 hx (B d11_0) ?_
    refine XS.istore X0.here hx rfl (B d11_1) rfl (l' := #[vr a1, vi 0, vr a2, vi 0, vi 1, vi 0, un]) rfl ?_
    refine sJ X0 hx (B d11_3) rfl ?_
    refine sJ X0 hx (B d11_5) rfl ?_
    refine XS.icmpNo X0.here hx rfl (B d11_7) rfl (tlt (by decide : (0 : Int32) < (1 : Int32))).2.1 ?_
    refine sA X0 hx (B d11_10) rfl rfl ?_
    refine sI X0 hx (B d11_11) rfl ?_
    refine X0.caload hx (j := 0) (v := (.int i3)) (by rw [e0]; exact Ar1.1) (State.isArrayOf_alike hZ.alike Ar1.2.1) Ar1.2.2 hin2 (Has.at Hs1 hin2 rfl) (g := (mkF m 12 #[vr a1, vi 0, vr a2, vi 0, vi 1, vi 0, un] [(.int 0), (.ref a1)])) rfl rfl (B d11_12) _ ?_
    refine XS.istore X0.here hx rfl (B d11_13) rfl (l' := #[vr a1, vi 0, vr a2, vi 0, vi 1, vi 0, vi i3]) rfl ?_
    refine sJ X0 hx (B d11_15) rfl ?_
    refine XS.sipush X0.here hx rfl (B d11_17) ?_
    refine XS.icmpNo X0.here hx rfl (B d11_20) rfl (tlt c5).2.2.2 ?_
    refine sJ X0 hx (B d11_23) rfl ?_
    exact retI X0 hx hret (B d11_25) hr
theorem pd_8 : parseMethodDescriptor "([CI[BII)I" = some ⟨[(.array .char), .int, (.array .byte), .int, .int], some .int⟩ := by decide +kernel
theorem w_55 {a0 Z} (hw : OW a0 Z) : Jvm.Cond.before (.initialized "java/lang/StringUTF16") a0 Z := hw _ (mo 55 rfl)
theorem w_59 {a0 Z} (hw : OW a0 Z) : Jvm.Cond.before (.code y_9 jdk_52_method_21_code 7 (some .int)) a0 Z := hw _ (mo 59 rfl)
theorem w_57 {a0 Z} (hw : OW a0 Z) : Jvm.Cond.before (.methodLink "java/lang/StringUTF16" 115 y_9) a0 Z := hw _ (mo 57 rfl)
theorem w_58 {a0 Z} (hw : OW a0 Z) : Jvm.Cond.before (.static y_9) a0 Z := hw _ (mo 58 rfl)
theorem d10_12 : decode Kc10 12 = .ok (.istore 4, 2) := by decide +kernel
theorem d10_14 : decode Kc10 14 = .ok (.iload 4, 2) := by decide +kernel
theorem d10_16 : decode Kc10 16 = .ok (.iload_n 2, 1) := by decide +kernel
theorem d10_17 : decode Kc10 17 = .ok (.if_icmp .eq 40, 3) := by decide +kernel
theorem d10_20 : decode Kc10 20 = .ok (.aload_n 0, 1) := by decide +kernel
theorem d10_21 : decode Kc10 21 = .ok (.iload_n 1, 1) := by decide +kernel
theorem d10_22 : decode Kc10 22 = .ok (.iload_n 2, 1) := by decide +kernel
theorem d10_23 : decode Kc10 23 = .ok (.invokestatic 119, 3) := by decide +kernel
abbrev Kc12 := jdk_52_method_14_code
theorem d12_0 : decode Kc12 0 = .ok (.iload_n 2, 1) := by decide +kernel
theorem d12_1 : decode Kc12 1 = .ok (.invokestatic 107, 3) := by decide +kernel
abbrev Kc13 := jdk_52_method_2_code
theorem d13_0 : decode Kc13 0 = .ok (.iload_n 0, 1) := by decide +kernel
theorem d13_1 : decode Kc13 1 = .ok (.invokestatic 11, 3) := by decide +kernel
abbrev Kc14 := jdk_52_method_3_code
theorem d14_0 : decode Kc14 0 = .ok (.iload_n 0, 1) := by decide +kernel
theorem d14_1 : decode Kc14 1 = .ok (.ifCond .ge 11, 3) := by decide +kernel
theorem d14_12 : decode Kc14 12 = .ok (.iload_n 0, 1) := by decide +kernel
theorem d14_13 : decode Kc14 13 = .ok (.ldc 20, 2) := by decide +kernel
theorem w_69 {a0 Z} (hw : OW a0 Z) : Jvm.Cond.before (.constant "java/lang/StringUTF16" 20 (1073741823 : Int32)) a0 Z := hw _ (mo 69 rfl)
theorem d14_15 : decode Kc14 15 = .ok (.if_icmp .lt 40, 3) := by decide +kernel
theorem d14_55 : decode Kc14 55 = .ok (.iload_n 0, 1) := by decide +kernel
theorem d14_56 : decode Kc14 56 = .ok (.iconst 1, 1) := by decide +kernel
theorem d14_57 : decode Kc14 57 = .ok (.ishl, 1) := by decide +kernel
theorem d14_58 : decode Kc14 58 = .ok (.ireturn, 1) := by decide +kernel
theorem ef_7103fa  (m : MethodId) : entryFrame m #[(.int 1)] 1 = mkF m 0 #[.val (.int 1)] [] := by first | (simp [entryFrame, mkF, argsToLocals, Value.category]; done) | rfl
abbrev y_10 : MethodName := ⟨"java/lang/StringUTF16", "newBytesLength", "(I)I"⟩
abbrev Rm12 : Room := rmk 0 0 0 0
def Q12 (Z : State)  (h0 : Heap) (n0 : Nat) (v : Option Value) (h : Heap) (L : List Loc) : Prop := v = some (.int 2) ∧ Fr n0 L ∧ h = h0
theorem rm12 (l : Launch) (Z : State) {a0 : Array Value} (hw : OW a0 Z)  (h0 : Heap) (n0 : Nat) (Z0 : n0 ≤ h0.size) :
    OwnMet l Z y_10 jdk_52_method_3_code 1 (some .int) [] Rm12 #[(.int 1)] h0 (Q12 Z  h0 n0) := by
  refine own_body (plainFor_of_name pn_3) (ef_7103fa) ?_
  intro p e s m below meth c s₁ hx hby hml hown hnm hret hZ X0 e0
  have N0 := Fr.nil n0
  have B := hbx hby
  refine ⟨s₁, _, _, _, (some (.int 2)), X0, nofun, by decide, by decide, ?_, fun fs hr => ?_⟩
  · rw [e0]
    exact ⟨rfl, N0, rfl⟩
  · refine sI X0 hx (B d14_0) rfl ?_
    refine XS.ifYes X0.here hx rfl (pc0 := 1) (pc' := 12) rfl (B d14_1) rfl ((if0 _ _).trans (flt (by decide : ¬ ((1 : Int32) < (0 : Int32)))).2.1) (by decide) (by decide) ?_
    refine sI X0 hx (B d14_12) rfl ?_
    refine X0.ldcInt hx hown (mvT hZ (w_69 hw)) (g := (mkF m 13 #[vi 1] [(.int 1)])) rfl (B d14_13) _ ?_
    refine XS.icmpYes X0.here hx rfl (pc0 := 15) (pc' := 55) rfl (B d14_15) rfl (tlt (by decide : (1 : Int32) < (1073741823 : Int32))).1 (by decide) (by decide) ?_
    refine sI X0 hx (B d14_55) rfl ?_
    refine sC X0 hx (B d14_56) ?_
    refine XS.ishl X0.here hx rfl (B d14_57) rfl ?_
    exact retI X0 hx hret (B d14_58) hr
theorem pd_9 : parseMethodDescriptor "(I)I" = some ⟨[.int], some .int⟩ := by decide +kernel
theorem w_68 {a0 Z} (hw : OW a0 Z) : Jvm.Cond.before (.code y_10 jdk_52_method_3_code 1 (some .int)) a0 Z := hw _ (mo 68 rfl)
theorem w_66 {a0 Z} (hw : OW a0 Z) : Jvm.Cond.before (.methodLink "java/lang/StringUTF16" 11 y_10) a0 Z := hw _ (mo 66 rfl)
theorem w_67 {a0 Z} (hw : OW a0 Z) : Jvm.Cond.before (.static y_10) a0 Z := hw _ (mo 67 rfl)
theorem d13_4 : decode Kc13 4 = .ok (.newarray .byte, 2) := by decide +kernel
theorem d13_6 : decode Kc13 6 = .ok (.areturn, 1) := by decide +kernel
abbrev y_11 : MethodName := ⟨"java/lang/StringUTF16", "newBytesFor", "(I)[B"⟩
abbrev Rm13 : Room := rmk 1 1 2 12
def Q13 (Z : State)  (h0 : Heap) (n0 : Nat) (v : Option Value) (h : Heap) (L : List Loc) : Prop := ∃ b2 : Addr, ∃ k2 : ClassId, v = some (.ref b2) ∧ Fr n0 L ∧ Keep h0 h [] ∧ h0.size ≤ b2 ∧ Exa Z h b2 "[B" ∧ Arv Z h b2 k2 .byte 2 [(.int 0), (.int 0)] (.int 0)
theorem rm13 (l : Launch) (Z : State) {a0 : Array Value} (hw : OW a0 Z)  (h0 : Heap) (n0 : Nat) (Z0 : n0 ≤ h0.size) :
    OwnMet l Z y_11 jdk_52_method_2_code 1 (some (.array .byte)) [] Rm13 #[(.int 1)] h0 (Q13 Z  h0 n0) := by
  refine own_body (plainFor_of_name pn_3) (ef_7103fa) ?_
  intro p e s m below meth c s₁ hx hby hml hown hnm hret hZ X0 e0
  have N0 := Fr.nil n0
  have B := hbx hby
  obtain ⟨_, T1, L1, X1, hQ1, st1⟩ := own_callS X0 hx hZ hown (y := y_10) (w_66 hw) (w_67 hw) (w_55 hw) (w_68 hw) (rm12 l Z hw  h0 n0 Z0) e0 (Ls := #[vi 1]) hml.symm (argsL := [(.int 1)]) (rest := []) (lenOf pd_9 rfl) (B d13_1) (W := 0)
  obtain ⟨rfl, Nq1, e1⟩ := hQ1
  have N1 := Fr.app N0 Nq1
  obtain ⟨T2, h2, k2, X2, e2, E2, A2, B2, st2⟩ := newPE (aty := .byte) X1 hx hZ (w_27 hw) e1 (g := (mkF m 4 #[vi 1] [(.int 2)])) rfl (B d13_4) rfl (by decide) (cap := 2) (by decide) (by decide) (by decide) (by decide) (ad := "[B") (by decide)
  obtain ⟨b2, g2⟩ : ∃ z, z = h0.size := ⟨_, rfl⟩
  rw [← g2] at A2 B2 st2
  have s0 := E2.1
  have Vn2 : Arv Z h2 b2 k2 .byte 2 [(.int 0), (.int 0)] (.int 0) := (Arv.new A2 (by decide)).pad (pad_rep [] (.int 0) 2)
  have sz_b2 : h0.size ≤ b2 := (Nat.le_of_eq g2.symm)
  have Kp0 := (Keep.refl h0 []).ext E2
  refine ⟨T2, _, _, _, (some (.ref b2)), X2, nofun, by decide, by decide, ?_, fun fs hr => ?_⟩
  · rw [e2]
    exact ⟨b2, k2, rfl, N1, Kp0, sz_b2, B2, Vn2⟩
  · refine sI X0 hx (B d13_0) rfl ?_
    refine st1 _ ?_
    refine st2 _ ?_
    exact retOut X2 hx hret rfl (Or.inr (Or.inr (Or.inr (Or.inr ⟨rfl, rfl, rfl⟩)))) (B d13_6) hr
theorem pd_10 : parseMethodDescriptor "(I)[B" = some ⟨[.int], some (.array .byte)⟩ := by decide +kernel
theorem w_65 {a0 Z} (hw : OW a0 Z) : Jvm.Cond.before (.code y_11 jdk_52_method_2_code 1 (some (.array .byte))) a0 Z := hw _ (mo 65 rfl)
theorem w_63 {a0 Z} (hw : OW a0 Z) : Jvm.Cond.before (.methodLink "java/lang/StringUTF16" 107 y_11) a0 Z := hw _ (mo 63 rfl)
theorem w_64 {a0 Z} (hw : OW a0 Z) : Jvm.Cond.before (.static y_11) a0 Z := hw _ (mo 64 rfl)
theorem d12_4 : decode Kc12 4 = .ok (.astore_n 3, 1) := by decide +kernel
theorem d12_5 : decode Kc12 5 = .ok (.iconst 0, 1) := by decide +kernel
theorem d12_6 : decode Kc12 6 = .ok (.istore 4, 2) := by decide +kernel
theorem d12_8 : decode Kc12 8 = .ok (.iload 4, 2) := by decide +kernel
theorem d12_10 : decode Kc12 10 = .ok (.iload_n 2, 1) := by decide +kernel
theorem d12_11 : decode Kc12 11 = .ok (.if_icmp .ge 21, 3) := by decide +kernel
theorem d12_14 : decode Kc12 14 = .ok (.aload_n 3, 1) := by decide +kernel
theorem d12_15 : decode Kc12 15 = .ok (.iload 4, 2) := by decide +kernel
theorem d12_17 : decode Kc12 17 = .ok (.aload_n 0, 1) := by decide +kernel
theorem d12_18 : decode Kc12 18 = .ok (.iload_n 1, 1) := by decide +kernel
theorem d12_19 : decode Kc12 19 = .ok (.caload, 1) := by decide +kernel
theorem d12_20 : decode Kc12 20 = .ok (.invokestatic 111, 3) := by decide +kernel
abbrev Kc15 := jdk_52_method_4_code
theorem d15_0 : decode Kc15 0 = .ok (.getstatic 44, 3) := by decide +kernel
theorem w_73 {a0 Z} (hw : OW a0 Z) : Jvm.Cond.before (.fieldLink "java/lang/StringUTF16" 44 "java/lang/StringUTF16" "$assertionsDisabled" "Z") a0 Z := hw _ (mo 73 rfl)
theorem d15_3 : decode Kc15 3 = .ok (.ifCond .ne 25, 3) := by decide +kernel
theorem d15_28 : decode Kc15 28 = .ok (.iload_n 1, 1) := by decide +kernel
theorem d15_29 : decode Kc15 29 = .ok (.iconst 1, 1) := by decide +kernel
theorem d15_30 : decode Kc15 30 = .ok (.ishl, 1) := by decide +kernel
theorem d15_31 : decode Kc15 31 = .ok (.istore_n 1, 1) := by decide +kernel
theorem d15_32 : decode Kc15 32 = .ok (.aload_n 0, 1) := by decide +kernel
theorem d15_33 : decode Kc15 33 = .ok (.iload_n 1, 1) := by decide +kernel
theorem d15_34 : decode Kc15 34 = .ok (.iinc 1 1, 3) := by decide +kernel
theorem d15_37 : decode Kc15 37 = .ok (.iload_n 2, 1) := by decide +kernel
theorem d15_38 : decode Kc15 38 = .ok (.getstatic 59, 3) := by decide +kernel
theorem w_74 {a0 Z} (hw : OW a0 Z) : Jvm.Cond.before (.fieldLink "java/lang/StringUTF16" 59 "java/lang/StringUTF16" "HI_BYTE_SHIFT" "I") a0 Z := hw _ (mo 74 rfl)
theorem d15_41 : decode Kc15 41 = .ok (.ishr, 1) := by decide +kernel
theorem d15_42 : decode Kc15 42 = .ok (.i2b, 1) := by decide +kernel
theorem d15_43 : decode Kc15 43 = .ok (.bastore, 1) := by decide +kernel
theorem d15_44 : decode Kc15 44 = .ok (.aload_n 0, 1) := by decide +kernel
theorem d15_45 : decode Kc15 45 = .ok (.iload_n 1, 1) := by decide +kernel
theorem d15_46 : decode Kc15 46 = .ok (.iload_n 2, 1) := by decide +kernel
theorem d15_47 : decode Kc15 47 = .ok (.getstatic 63, 3) := by decide +kernel
theorem w_75 {a0 Z} (hw : OW a0 Z) : Jvm.Cond.before (.fieldLink "java/lang/StringUTF16" 63 "java/lang/StringUTF16" "LO_BYTE_SHIFT" "I") a0 Z := hw _ (mo 75 rfl)
theorem d15_50 : decode Kc15 50 = .ok (.ishr, 1) := by decide +kernel
theorem d15_51 : decode Kc15 51 = .ok (.i2b, 1) := by decide +kernel
theorem d15_52 : decode Kc15 52 = .ok (.bastore, 1) := by decide +kernel
theorem d15_53 : decode Kc15 53 = .ok (.return_, 1) := by decide +kernel
theorem ef_3f9849 (a1 : Addr) (i2 : Int32) (m : MethodId) : entryFrame m #[(.ref a1), (.int 0), (.int i2)] 3 = mkF m 0 #[.val (.ref a1), .val (.int 0), .val (.int i2)] [] := by first | (simp [entryFrame, mkF, argsToLocals, Value.category]; done) | rfl
abbrev y_12 : MethodName := ⟨"java/lang/StringUTF16", "putChar", "([BII)V"⟩
abbrev Rm14 : Room := rmk 0 0 0 0
def Q14 (Z : State) (a1 : Addr) (i2 : Int32) (ck3 : ClassId) (h0 : Heap) (n0 : Nat) (v : Option Value) (h : Heap) (L : List Loc) : Prop := v = none ∧ Fr n0 L ∧ Keep h0 h [a1] ∧ Exa Z h a1 "[B" ∧ Arv Z h a1 ck3 .byte 2 [(.int (nar .byte ((i2 >>> ((0 : Int32) &&& 31)).toInt8.toInt32))), (.int (nar .byte ((i2 >>> ((8 : Int32) &&& 31)).toInt8.toInt32)))] (.int 0)
theorem rm14 (l : Launch) (Z : State) {a0 : Array Value} (hw : OW a0 Z) (a1 : Addr) (i2 : Int32) (ck3 : ClassId) (h0 : Heap) (n0 : Nat) (Z0 : n0 ≤ h0.size) (S__assertionsDisabled : Sta Z Z.heap "java/lang/StringUTF16" "$assertionsDisabled" "Z" (.int 1)) (Od0 : Old Z n0 h0) (S_HI_BYTE_SHIFT : Sta Z Z.heap "java/lang/StringUTF16" "HI_BYTE_SHIFT" "I" (.int 0)) (V_a1 : Arv Z h0 a1 ck3 .byte 2 [(.int 0), (.int 0)] (.int 0)) (g_a1 : n0 ≤ a1) (S_LO_BYTE_SHIFT : Sta Z Z.heap "java/lang/StringUTF16" "LO_BYTE_SHIFT" "I" (.int 8)) (E_a1 : Exa Z h0 a1 "[B") :
    OwnMet l Z y_12 jdk_52_method_4_code 3 none [] Rm14 #[(.ref a1), (.int 0), (.int i2)] h0 (Q14 Z a1 i2 ck3 h0 n0) := by
  refine own_body (plainFor_of_name pn_3) (ef_3f9849 a1 i2) ?_
  intro p e s m below meth c s₁ hx hby hml hown hnm hret hZ X0 e0
  have N0 := Fr.nil n0
  have B := hbx hby
  obtain ⟨T1, X1, e1, st1⟩ := getS2 X0 hx hZ hown (host := "") (Or.inl (w_73 hw)) Via.refl e0 (S__assertionsDisabled.ext Od0.2) (g := (mkF m 0 #[vr a1, vi 0, vi i2] [])) rfl (B d15_0)
  obtain ⟨T2, X2, e2, st2⟩ := getS2 X1 hx hZ hown (host := "") (Or.inl (w_74 hw)) Via.refl e1 (S_HI_BYTE_SHIFT.ext Od0.2) (g := (mkF m 38 #[vr a1, vi 1, vi i2] [(.int i2), (.int 0), (.ref a1)])) rfl (B d15_38)
  obtain ⟨cl3, Ar3, q3, S3, M3, Hs3, G3⟩ := id V_a1
  have hin4 := inb_of (j := 0) S3 ⟨by decide, by decide⟩
  obtain ⟨T5, h5, X5, e5, W5, st5⟩ := stB X2 hx hZ e2 Ar3 (j := 0) hin4 (g := (mkF m 43 #[vr a1, vi 1, vi i2] [(.int ((i2 >>> ((0 : Int32) &&& 31)).toInt8.toInt32)), (.int 0), (.ref a1)])) rfl rfl (B d15_43)
  have s0 := (Keep.of_wr W5).1
  have N5 := Fr.snoc X5 N0 g_a1
  have Vs5 : Arv Z h5 a1 ck3 .byte 2 [(.int (nar .byte ((i2 >>> ((0 : Int32) &&& 31)).toInt8.toInt32))), (.int 0)] (.int 0) := Arv.set Ar3 q3 S3 M3 Hs3 G3 (fits_nar_byte _) W5 0 rfl (nl rfl)
  have Od1 := Od0.wr W5 g_a1
  obtain ⟨T6, X6, e6, st6⟩ := getS2 X5 hx hZ hown (host := "") (Or.inl (w_75 hw)) Via.refl e5 (S_LO_BYTE_SHIFT.ext Od1.2) (g := (mkF m 47 #[vr a1, vi 1, vi i2] [(.int i2), (.int 1), (.ref a1)])) rfl (B d15_47)
  obtain ⟨cl7, Ar7, q7, S7, M7, Hs7, G7⟩ := id Vs5
  have hin8 := inb_of (j := 1) S7 ⟨by decide, by decide⟩
  obtain ⟨T9, h9, X9, e9, W9, st9⟩ := stB X6 hx hZ e6 Ar7 (j := 1) hin8 (g := (mkF m 52 #[vr a1, vi 1, vi i2] [(.int ((i2 >>> ((8 : Int32) &&& 31)).toInt8.toInt32)), (.int 1), (.ref a1)])) rfl rfl (B d15_52)
  have s1 := (Keep.of_wr W9).1
  have N9 := Fr.snoc X9 N5 g_a1
  have Vs9 : Arv Z h9 a1 ck3 .byte 2 [(.int (nar .byte ((i2 >>> ((0 : Int32) &&& 31)).toInt8.toInt32))), (.int (nar .byte ((i2 >>> ((8 : Int32) &&& 31)).toInt8.toInt32)))] (.int 0) := Arv.set Ar7 q7 S7 M7 Hs7 G7 (fits_nar_byte _) W9 1 rfl (nl rfl)
  have Ex10 := ((E_a1.wr W5).wr W9)
  have Kp0 := (Keep.refl h0 [a1]).wr W5 own_m0
  have Kp1 := Kp0.wr W9 own_m0
  refine ⟨T9, _, _, _, none, X9, (fun _ => rfl), by decide, by decide, ?_, fun fs hr => ?_⟩
  · rw [e9]
    exact ⟨rfl, N9, Kp1, Ex10, Vs9⟩
  · refine st1 _ ?_
    refine XS.ifYes X1.here hx rfl (pc0 := 3) (pc' := 28) rfl (B d15_3) rfl ((if0 _ _).trans (feq (by decide : ¬ ((1 : Int32) = (0 : Int32)))).2) (by decide) (by decide) ?_
    refine sI X1 hx (B d15_28) rfl ?_
    refine sC X1 hx (B d15_29) ?_
    refine XS.ishl X1.here hx rfl (B d15_30) rfl ?_
    refine XS.istoreN X1.here hx rfl (B d15_31) rfl (l' := #[vr a1, vi 0, vi i2]) rfl ?_
    refine sA X1 hx (B d15_32) rfl rfl ?_
    refine sI X1 hx (B d15_33) rfl ?_
    refine XS.iinc X1.here hx rfl (B d15_34) rfl (l' := #[vr a1, vi 1, vi i2]) rfl ?_
    refine sI X1 hx (B d15_37) rfl ?_
    refine st2 _ ?_
    refine XS.ishr X2.here hx rfl (B d15_41) rfl ?_
    refine XS.i2b X2.here hx rfl (B d15_42) rfl ?_
    refine st5 _ ?_
    refine sA X5 hx (B d15_44) rfl rfl ?_
    refine sI X5 hx (B d15_45) rfl ?_
    refine sI X5 hx (B d15_46) rfl ?_
    refine st6 _ ?_
    refine XS.ishr X6.here hx rfl (B d15_50) rfl ?_
    refine XS.i2b X6.here hx rfl (B d15_51) rfl ?_
    refine st9 _ ?_
    exact X9.returnOut hx hret (B d15_53) hr
theorem pd_11 : parseMethodDescriptor "([BII)V" = some ⟨[(.array .byte), .int, .int], none⟩ := by decide +kernel
theorem w_72 {a0 Z} (hw : OW a0 Z) : Jvm.Cond.before (.code y_12 jdk_52_method_4_code 3 none) a0 Z := hw _ (mo 72 rfl)
theorem w_70 {a0 Z} (hw : OW a0 Z) : Jvm.Cond.before (.methodLink "java/lang/StringUTF16" 111 y_12) a0 Z := hw _ (mo 70 rfl)
theorem w_71 {a0 Z} (hw : OW a0 Z) : Jvm.Cond.before (.static y_12) a0 Z := hw _ (mo 71 rfl)
theorem d12_23 : decode Kc12 23 = .ok (.iinc 1 1, 3) := by decide +kernel
theorem d12_26 : decode Kc12 26 = .ok (.iinc 4 1, 3) := by decide +kernel
theorem d12_29 : decode Kc12 29 = .ok (.goto (-21), 3) := by decide +kernel
theorem d12_32 : decode Kc12 32 = .ok (.aload_n 3, 1) := by decide +kernel
theorem d12_33 : decode Kc12 33 = .ok (.areturn, 1) := by decide +kernel
theorem ef_dac4e7 (a1 : Addr) (m : MethodId) : entryFrame m #[(.ref a1), (.int 0), (.int 1)] 5 = mkF m 0 #[.val (.ref a1), .val (.int 0), .val (.int 1), .unset, .unset] [] := by first | (simp [entryFrame, mkF, argsToLocals, Value.category]; done) | rfl
abbrev y_13 : MethodName := ⟨"java/lang/StringUTF16", "toBytes", "([CII)[B"⟩
abbrev Rm15 : Room := rmk 2 1 2 24
def Q15 (Z : State) (a1 : Addr) (i2 : Int32) (ck3 : ClassId) (h0 : Heap) (n0 : Nat) (v : Option Value) (h : Heap) (L : List Loc) : Prop := ∃ b1_0 : Addr, ∃ k1_1 : ClassId, v = some (.ref b1_0) ∧ Fr n0 L ∧ Keep h0 h [] ∧ h0.size ≤ b1_0 ∧ Exa Z h b1_0 "[B" ∧ Arv Z h b1_0 k1_1 .byte 2 [(.int (nar .byte ((i2 >>> ((0 : Int32) &&& 31)).toInt8.toInt32))), (.int (nar .byte ((i2 >>> ((8 : Int32) &&& 31)).toInt8.toInt32)))] (.int 0)
theorem rm15 (l : Launch) (Z : State) {a0 : Array Value} (hw : OW a0 Z) (a1 : Addr) (i2 : Int32) (ck3 : ClassId) (h0 : Heap) (n0 : Nat) (Z0 : n0 ≤ h0.size) (V_a1 : Arv Z h0 a1 ck3 .char 1 [(.int i2)] (.int 0)) (S__assertionsDisabled : Sta Z Z.heap "java/lang/StringUTF16" "$assertionsDisabled" "Z" (.int 1)) (Od0 : Old Z n0 h0) (S_HI_BYTE_SHIFT : Sta Z Z.heap "java/lang/StringUTF16" "HI_BYTE_SHIFT" "I" (.int 0)) (S_LO_BYTE_SHIFT : Sta Z Z.heap "java/lang/StringUTF16" "LO_BYTE_SHIFT" "I" (.int 8)) :
    OwnMet l Z y_13 jdk_52_method_14_code 5 (some (.array .byte)) [] Rm15 #[(.ref a1), (.int 0), (.int 1)] h0 (Q15 Z a1 i2 ck3 h0 n0) := by
  refine own_body (plainFor_of_name pn_3) (ef_dac4e7 a1) ?_
  intro p e s m below meth c s₁ hx hby hml hown hnm hret hZ X0 e0
  have N0 := Fr.nil n0
  have B := hbx hby
  obtain ⟨_, T1, L1, X1, hQ1, st1⟩ := own_callS X0 hx hZ hown (y := y_11) (w_63 hw) (w_64 hw) (w_55 hw) (w_65 hw) (rm13 l Z hw  h0 n0 Z0) e0 (Ls := #[vr a1, vi 0, vi 1, un, un]) hml.symm (argsL := [(.int 1)]) (rest := []) (lenOf pd_10 rfl) (B d12_1) (W := 0)
  obtain ⟨b1_0, k1_1, rfl, Nq1, K1, o1_0, o1_1, o1_2⟩ := hQ1
  have N1 := Fr.app N0 Nq1
  have s0 := K1.1
  have Va2 := (V_a1.keep K1 nin0)
  obtain ⟨cl3, Ar3, q3, S3, M3, Hs3, G3⟩ := id Va2
  have hin4 := inb_of (j := 0) S3 ⟨by decide, by decide⟩
  have Od1 := Od0.keep K1 all0
  have g_b1_0 : n0 ≤ b1_0 := Nat.le_trans Z0 o1_0
  have z1 := Nat.le_trans Z0 s0
  obtain ⟨_, T5, L5, X5, hQ5, st5⟩ := own_callS X1 hx hZ hown (y := y_12) (w_70 hw) (w_71 hw) (w_55 hw) (w_72 hw) (rm14 l Z hw b1_0 i2 k1_1 T1.heap n0 z1 S__assertionsDisabled Od1 S_HI_BYTE_SHIFT o1_2 g_b1_0 S_LO_BYTE_SHIFT o1_1) rfl (Ls := #[vr a1, vi 0, vi 1, vr b1_0, vi 0]) hml.symm (argsL := [(.ref b1_0), (.int 0), (.int i2)]) (rest := []) (lenOf pd_11 rfl) (B d12_20) (W := 0)
  obtain ⟨rfl, Nq5, K5, o5_0, o5_1⟩ := hQ5
  have N5 := Fr.app N1 Nq5
  have s1 := K5.1
  have sz_b1_0 : h0.size ≤ b1_0 := o1_0
  have Kp0 := (Keep.refl h0 []).trans K1 all0
  have Kp1 := Kp0.trans K5 (allS (Or.inr sz_b1_0) all0)
  refine ⟨T5, _, _, _, (some (.ref b1_0)), X5, nofun, by decide, by decide, ?_, fun fs hr => ?_⟩
  · exact ⟨b1_0, k1_1, rfl, N5, Kp1, sz_b1_0, o5_0, o5_1⟩
  · refine sI X0 hx (B d12_0) rfl ?_
    refine st1 _ ?_
    refine XS.astoreN X1.here hx rfl (B d12_4) rfl rfl (l' := #[vr a1, vi 0, vi 1, vr b1_0, un]) rfl ?_
    refine sC X1 hx (B d12_5) ?_
    refine XS.istore X1.here hx rfl (B d12_6) rfl (l' := #[vr a1, vi 0, vi 1, vr b1_0, vi 0]) rfl ?_
    refine sJ X1 hx (B d12_8) rfl ?_
    refine sI X1 hx (B d12_10) rfl ?_
    refine XS.icmpNo X1.here hx rfl (B d12_11) rfl (tlt (by decide : (0 : Int32) < (1 : Int32))).2.1 ?_
    refine sA X1 hx (B d12_14) rfl rfl ?_
    refine sJ X1 hx (B d12_15) rfl ?_
    refine sA X1 hx (B d12_17) rfl rfl ?_
    refine sI X1 hx (B d12_18) rfl ?_
    refine X1.caload hx (j := 0) (v := (.int i2)) (Ar3.1) (State.isArrayOf_alike hZ.alike Ar3.2.1) Ar3.2.2 hin4 (Has.at Hs3 hin4 rfl) (g := (mkF m 19 #[vr a1, vi 0, vi 1, vr b1_0, vi 0] [(.int 0), (.ref a1), (.int 0), (.ref b1_0)])) rfl rfl (B d12_19) _ ?_
    refine st5 _ ?_
    refine XS.iinc X5.here hx rfl (B d12_23) rfl (l' := #[vr a1, vi 1, vi 1, vr b1_0, vi 0]) rfl ?_
    refine XS.iinc X5.here hx rfl (B d12_26) rfl (l' := #[vr a1, vi 1, vi 1, vr b1_0, vi 1]) rfl ?_
    refine XS.goto X5.here hx rfl (pc0 := 29) (pc' := 8) rfl (B d12_29) (by decide) (by decide) ?_
    refine sJ X5 hx (B d12_8) rfl ?_
    refine sI X5 hx (B d12_10) rfl ?_
    refine XS.icmpYes X5.here hx rfl (pc0 := 11) (pc' := 32) rfl (B d12_11) rfl (flt (by decide : ¬ ((1 : Int32) < (1 : Int32)))).2.1 (by decide) (by decide) ?_
    refine sA X5 hx (B d12_32) rfl rfl ?_
    exact retOut X5 hx hret rfl (Or.inr (Or.inr (Or.inr (Or.inr ⟨rfl, rfl, rfl⟩)))) (B d12_33) hr
theorem pd_12 : parseMethodDescriptor "([CII)[B" = some ⟨[(.array .char), .int, .int], some (.array .byte)⟩ := by decide +kernel
theorem w_62 {a0 Z} (hw : OW a0 Z) : Jvm.Cond.before (.code y_13 jdk_52_method_14_code 5 (some (.array .byte))) a0 Z := hw _ (mo 62 rfl)
theorem w_60 {a0 Z} (hw : OW a0 Z) : Jvm.Cond.before (.methodLink "java/lang/StringUTF16" 119 y_13) a0 Z := hw _ (mo 60 rfl)
theorem w_61 {a0 Z} (hw : OW a0 Z) : Jvm.Cond.before (.static y_13) a0 Z := hw _ (mo 61 rfl)
theorem d10_26 : decode Kc10 26 = .ok (.astore 5, 2) := by decide +kernel
theorem d10_28 : decode Kc10 28 = .ok (.aload 5, 2) := by decide +kernel
theorem d10_30 : decode Kc10 30 = .ok (.iload 4, 2) := by decide +kernel
theorem d10_32 : decode Kc10 32 = .ok (.invokestatic 71, 3) := by decide +kernel
abbrev Kc16 := jdk_52_method_5_code
theorem d16_0 : decode Kc16 0 = .ok (.getstatic 44, 3) := by decide +kernel
theorem d16_3 : decode Kc16 3 = .ok (.ifCond .ne 25, 3) := by decide +kernel
theorem d16_28 : decode Kc16 28 = .ok (.iload_n 1, 1) := by decide +kernel
theorem d16_29 : decode Kc16 29 = .ok (.iconst 1, 1) := by decide +kernel
theorem d16_30 : decode Kc16 30 = .ok (.ishl, 1) := by decide +kernel
theorem d16_31 : decode Kc16 31 = .ok (.istore_n 1, 1) := by decide +kernel
theorem d16_32 : decode Kc16 32 = .ok (.aload_n 0, 1) := by decide +kernel
theorem d16_33 : decode Kc16 33 = .ok (.iload_n 1, 1) := by decide +kernel
theorem d16_34 : decode Kc16 34 = .ok (.iinc 1 1, 3) := by decide +kernel
theorem d16_37 : decode Kc16 37 = .ok (.baload, 1) := by decide +kernel
theorem d16_38 : decode Kc16 38 = .ok (.sipush 255, 3) := by decide +kernel
theorem d16_41 : decode Kc16 41 = .ok (.iand, 1) := by decide +kernel
theorem d16_42 : decode Kc16 42 = .ok (.getstatic 59, 3) := by decide +kernel
theorem d16_45 : decode Kc16 45 = .ok (.ishl, 1) := by decide +kernel
theorem d16_46 : decode Kc16 46 = .ok (.aload_n 0, 1) := by decide +kernel
theorem d16_47 : decode Kc16 47 = .ok (.iload_n 1, 1) := by decide +kernel
theorem d16_48 : decode Kc16 48 = .ok (.baload, 1) := by decide +kernel
theorem d16_49 : decode Kc16 49 = .ok (.sipush 255, 3) := by decide +kernel
theorem d16_52 : decode Kc16 52 = .ok (.iand, 1) := by decide +kernel
theorem d16_53 : decode Kc16 53 = .ok (.getstatic 63, 3) := by decide +kernel
theorem d16_56 : decode Kc16 56 = .ok (.ishl, 1) := by decide +kernel
theorem d16_57 : decode Kc16 57 = .ok (.ior, 1) := by decide +kernel
theorem d16_58 : decode Kc16 58 = .ok (.i2c, 1) := by decide +kernel
theorem d16_59 : decode Kc16 59 = .ok (.ireturn, 1) := by decide +kernel
def own_gc (v0 v1 : Int32) : Int32 := (nar .char ((((v0 &&& (255 : Int32)) <<< ((0 : Int32) &&& 31)) ||| ((v1 &&& (255 : Int32)) <<< ((8 : Int32) &&& 31))).toUInt32.toUInt16.toUInt32.toInt32))
theorem own_gc_b (v0 v1 : Int32) : 0 ≤ (own_gc v0 v1).toInt ∧ (own_gc v0 v1).toInt < 65536 := by
  unfold own_gc
  exact (own_c_nar_char _).2
theorem own_gcN (x : Int32) (h0 : ¬ x < 0) (h1 : ¬ 65535 < x) : own_gc (nar .byte ((x >>> ((0 : Int32) &&& 31)).toInt8.toInt32)) (nar .byte ((x >>> ((8 : Int32) &&& 31)).toInt8.toInt32)) = x := by
  unfold own_gc
  exact own_rcN x h0 h1
theorem ef_e31af7 (a1 : Addr) (i2 : Int32) (m : MethodId) : entryFrame m #[(.ref a1), (.int i2)] 2 = mkF m 0 #[.val (.ref a1), .val (.int i2)] [] := by first | (simp [entryFrame, mkF, argsToLocals, Value.category]; done) | rfl
abbrev y_14 : MethodName := ⟨"java/lang/StringUTF16", "getChar", "([BI)C"⟩
abbrev Rm16 : Room := rmk 0 0 0 0
def Q16 (Z : State) (a1 : Addr) (i2 : Int32) (u3 : List Value) (ck4 : ClassId) (i5 i8 i12 : Int32) (h0 : Heap) (n0 : Nat) (v : Option Value) (h : Heap) (L : List Loc) : Prop := v = some (.int (own_gc i8 i12)) ∧ Fr n0 L ∧ h = h0
theorem rm16 (l : Launch) (Z : State) {a0 : Array Value} (hw : OW a0 Z) (a1 : Addr) (i2 : Int32) (u3 : List Value) (ck4 : ClassId) (i5 i8 i12 : Int32) (h0 : Heap) (n0 : Nat) (Z0 : n0 ≤ h0.size) (S__assertionsDisabled : Sta Z Z.heap "java/lang/StringUTF16" "$assertionsDisabled" "Z" (.int 1)) (Od0 : Old Z n0 h0) (V_a1 : Arv Z h0 a1 ck4 .byte i5 u3 (.int 0)) (c6 : ¬ ((i2 <<< ((1 : Int32) &&& 31)) < 0)) (c7 : (i2 <<< ((1 : Int32) &&& 31)) < i5) (rd9 : u3.getD ((i2 <<< ((1 : Int32) &&& 31))).toNatClampNeg (.int 0) = (.int i8)) (S_HI_BYTE_SHIFT : Sta Z Z.heap "java/lang/StringUTF16" "HI_BYTE_SHIFT" "I" (.int 0)) (c10 : ¬ (((i2 <<< ((1 : Int32) &&& 31)) + (1 : Int32)) < 0)) (c11 : ((i2 <<< ((1 : Int32) &&& 31)) + (1 : Int32)) < i5) (rd13 : u3.getD (((i2 <<< ((1 : Int32) &&& 31)) + (1 : Int32))).toNatClampNeg (.int 0) = (.int i12)) (S_LO_BYTE_SHIFT : Sta Z Z.heap "java/lang/StringUTF16" "LO_BYTE_SHIFT" "I" (.int 8)) :
    OwnMet l Z y_14 jdk_52_method_5_code 2 (some .char) [] Rm16 #[(.ref a1), (.int i2)] h0 (Q16 Z a1 i2 u3 ck4 i5 i8 i12 h0 n0) := by
  refine own_body (plainFor_of_name pn_3) (ef_e31af7 a1 i2) ?_
  intro p e s m below meth c s₁ hx hby hml hown hnm hret hZ X0 e0
  have N0 := Fr.nil n0
  have B := hbx hby
  obtain ⟨T1, X1, e1, st1⟩ := getS2 X0 hx hZ hown (host := "") (Or.inl (w_73 hw)) Via.refl e0 (S__assertionsDisabled.ext Od0.2) (g := (mkF m 0 #[vr a1, vi i2] [])) rfl (B d16_0)
  obtain ⟨cl2, Ar2, q2, S2, M2, Hs2, G2⟩ := id V_a1
  have hin3 := inb_of (j := (i2 <<< ((1 : Int32) &&& 31))) S2 ⟨c6, c7⟩
  obtain ⟨T4, X4, e4, st4⟩ := getS2 X1 hx hZ hown (host := "") (Or.inl (w_74 hw)) Via.refl e1 (S_HI_BYTE_SHIFT.ext Od0.2) (g := (mkF m 42 #[vr a1, vi ((i2 <<< ((1 : Int32) &&& 31)) + (1 : Int32))] [(.int (i8 &&& (255 : Int32)))])) rfl (B d16_42)
  have hin5 := inb_of (j := ((i2 <<< ((1 : Int32) &&& 31)) + (1 : Int32))) S2 ⟨c10, c11⟩
  obtain ⟨T6, X6, e6, st6⟩ := getS2 X4 hx hZ hown (host := "") (Or.inl (w_75 hw)) Via.refl e4 (S_LO_BYTE_SHIFT.ext Od0.2) (g := (mkF m 53 #[vr a1, vi ((i2 <<< ((1 : Int32) &&& 31)) + (1 : Int32))] [(.int (i12 &&& (255 : Int32))), (.int ((i8 &&& (255 : Int32)) <<< ((0 : Int32) &&& 31)))])) rfl (B d16_53)
  refine ⟨T6, _, _, _, (some (.int (nar .char ((((i8 &&& (255 : Int32)) <<< ((0 : Int32) &&& 31)) ||| ((i12 &&& (255 : Int32)) <<< ((8 : Int32) &&& 31))).toUInt32.toUInt16.toUInt32.toInt32)))), X6, nofun, by decide, by decide, ?_, fun fs hr => ?_⟩
  · rw [e6]
    exact ⟨rfl, N0, rfl⟩
  · refine st1 _ ?_
    refine XS.ifYes X1.here hx rfl (pc0 := 3) (pc' := 28) rfl (B d16_3) rfl ((if0 _ _).trans (feq (by decide : ¬ ((1 : Int32) = (0 : Int32)))).2) (by decide) (by decide) ?_
    refine sI X1 hx (B d16_28) rfl ?_
    refine sC X1 hx (B d16_29) ?_
    refine XS.ishl X1.here hx rfl (B d16_30) rfl ?_
    refine XS.istoreN X1.here hx rfl (B d16_31) rfl (l' := #[vr a1, vi (i2 <<< ((1 : Int32) &&& 31))]) rfl ?_
    refine sA X1 hx (B d16_32) rfl rfl ?_
    refine sI X1 hx (B d16_33) rfl ?_
    refine XS.iinc X1.here hx rfl (B d16_34) rfl (l' := #[vr a1, vi ((i2 <<< ((1 : Int32) &&& 31)) + (1 : Int32))]) rfl ?_
    refine X1.baloadBytes hx (j := (i2 <<< ((1 : Int32) &&& 31))) (v := (.int i8)) (by rw [e1]; exact Ar2.1) (State.isArrayOf_alike hZ.alike Ar2.2.1) Ar2.2.2 hin3 (Has.at Hs2 hin3 rd9) (g := (mkF m 37 #[vr a1, vi ((i2 <<< ((1 : Int32) &&& 31)) + (1 : Int32))] [(.int (i2 <<< ((1 : Int32) &&& 31))), (.ref a1)])) rfl rfl (B d16_37) _ ?_
    refine XS.sipush X1.here hx rfl (B d16_38) ?_
    refine XS.iand X1.here hx rfl (B d16_41) rfl ?_
    refine st4 _ ?_
    refine XS.ishl X4.here hx rfl (B d16_45) rfl ?_
    refine sA X4 hx (B d16_46) rfl rfl ?_
    refine sI X4 hx (B d16_47) rfl ?_
    refine X4.baloadBytes hx (j := ((i2 <<< ((1 : Int32) &&& 31)) + (1 : Int32))) (v := (.int i12)) (by rw [e4]; exact Ar2.1) (State.isArrayOf_alike hZ.alike Ar2.2.1) Ar2.2.2 hin5 (Has.at Hs2 hin5 rd13) (g := (mkF m 48 #[vr a1, vi ((i2 <<< ((1 : Int32) &&& 31)) + (1 : Int32))] [(.int ((i2 <<< ((1 : Int32) &&& 31)) + (1 : Int32))), (.ref a1), (.int ((i8 &&& (255 : Int32)) <<< ((0 : Int32) &&& 31)))])) rfl rfl (B d16_48) _ ?_
    refine XS.sipush X4.here hx rfl (B d16_49) ?_
    refine XS.iand X4.here hx rfl (B d16_52) rfl ?_
    refine st6 _ ?_
    refine XS.ishl X6.here hx rfl (B d16_56) rfl ?_
    refine XS.ior X6.here hx rfl (B d16_57) rfl ?_
    refine XS.i2c X6.here hx rfl (B d16_58) rfl ?_
    exact retN X6 hx (t := .char) hret (by simp) (B d16_59) hr
theorem pd_13 : parseMethodDescriptor "([BI)C" = some ⟨[(.array .byte), .int], some .char⟩ := by decide +kernel
theorem w_78 {a0 Z} (hw : OW a0 Z) : Jvm.Cond.before (.code y_14 jdk_52_method_5_code 2 (some .char)) a0 Z := hw _ (mo 78 rfl)
theorem w_76 {a0 Z} (hw : OW a0 Z) : Jvm.Cond.before (.methodLink "java/lang/StringUTF16" 71 y_14) a0 Z := hw _ (mo 76 rfl)
theorem w_77 {a0 Z} (hw : OW a0 Z) : Jvm.Cond.before (.static y_14) a0 Z := hw _ (mo 77 rfl)
theorem d10_35 : decode Kc10 35 = .ok (.sipush 255, 3) := by decide +kernel
theorem d10_38 : decode Kc10 38 = .ok (.if_icmp .gt 16, 3) := by decide +kernel
theorem d10_54 : decode Kc10 54 = .ok (.aload 5, 2) := by decide +kernel
theorem d10_56 : decode Kc10 56 = .ok (.areturn, 1) := by decide +kernel
theorem d11_26 : decode Kc11 26 = .ok (.aload_n 2, 1) := by decide +kernel
theorem d11_27 : decode Kc11 27 = .ok (.iload_n 3, 1) := by decide +kernel
theorem d11_28 : decode Kc11 28 = .ok (.iload 6, 2) := by decide +kernel
theorem d11_30 : decode Kc11 30 = .ok (.i2b, 1) := by decide +kernel
theorem d11_31 : decode Kc11 31 = .ok (.bastore, 1) := by decide +kernel
theorem d11_32 : decode Kc11 32 = .ok (.iinc 1 1, 3) := by decide +kernel
theorem d11_35 : decode Kc11 35 = .ok (.iinc 3 1, 3) := by decide +kernel
theorem d11_38 : decode Kc11 38 = .ok (.iinc 5 1, 3) := by decide +kernel
theorem d11_41 : decode Kc11 41 = .ok (.goto (-38), 3) := by decide +kernel
theorem d11_44 : decode Kc11 44 = .ok (.iload 4, 2) := by decide +kernel
theorem d11_46 : decode Kc11 46 = .ok (.ireturn, 1) := by decide +kernel
abbrev Rm17 : Room := rmk 0 0 0 0
def Q17 (Z : State) (a1 a2 : Addr) (i3 : Int32) (ck4 ck6 : ClassId) (h0 : Heap) (n0 : Nat) (v : Option Value) (h : Heap) (L : List Loc) : Prop := v = some (.int 1) ∧ Fr n0 L ∧ Keep h0 h [a2] ∧ Exa Z h a2 "[B" ∧ Arv Z h a2 ck6 .byte 1 [(.int (nar .byte (i3.toInt8.toInt32)))] (.int 0)
theorem rm17 (l : Launch) (Z : State) {a0 : Array Value} (hw : OW a0 Z) (a1 a2 : Addr) (i3 : Int32) (ck4 ck6 : ClassId) (h0 : Heap) (n0 : Nat) (Z0 : n0 ≤ h0.size) (V_a1 : Arv Z h0 a1 ck4 .char 1 [(.int i3)] (.int 0)) (c5 : ¬ (255 < i3)) (V_a2 : Arv Z h0 a2 ck6 .byte 1 [(.int 0)] (.int 0)) (g_a2 : n0 ≤ a2) (E_a2 : Exa Z h0 a2 "[B") :
    OwnMet l Z y_9 jdk_52_method_21_code 7 (some .int) [] Rm17 #[(.ref a1), (.int 0), (.ref a2), (.int 0), (.int 1)] h0 (Q17 Z a1 a2 i3 ck4 ck6 h0 n0) := by
  refine own_body (plainFor_of_name pn_3) (ef_bad258 a1 a2) ?_
  intro p e s m below meth c s₁ hx hby hml hown hnm hret hZ X0 e0
  have N0 := Fr.nil n0
  have B := hbx hby
  obtain ⟨cl1, Ar1, q1, S1, M1, Hs1, G1⟩ := id V_a1
  have hin2 := inb_of (j := 0) S1 ⟨by decide, by decide⟩
  obtain ⟨cl3, Ar3, q3, S3, M3, Hs3, G3⟩ := id V_a2
  have hin4 := inb_of (j := 0) S3 ⟨by decide, by decide⟩
  obtain ⟨T5, h5, X5, e5, W5, st5⟩ := stB X0 hx hZ e0 Ar3 (j := 0) hin4 (g := (mkF m 31 #[vr a1, vi 0, vr a2, vi 0, vi 1, vi 0, vi i3] [(.int (i3.toInt8.toInt32)), (.int 0), (.ref a2)])) rfl rfl (B d11_31)
  have s0 := (Keep.of_wr W5).1
  have N5 := Fr.snoc X5 N0 g_a2
  have Vs5 : Arv Z h5 a2 ck6 .byte 1 [(.int (nar .byte (i3.toInt8.toInt32)))] (.int 0) := Arv.set Ar3 q3 S3 M3 Hs3 G3 (fits_nar_byte _) W5 0 rfl (nl rfl)
  have Ex6 := (E_a2.wr W5)
  have Kp0 := (Keep.refl h0 [a2]).wr W5 own_m0
  refine ⟨T5, _, _, _, (some (.int 1)), X5, nofun, by decide, by decide, ?_, fun fs hr => ?_⟩
  · rw [e5]
    exact ⟨rfl, N5, Kp0, Ex6, Vs5⟩
  · refine sC X0 hx (B d11_0) ?_
    refine XS.istore X0.here hx rfl (B d11_1) rfl (l' := #[vr a1, vi 0, vr a2, vi 0, vi 1, vi 0, un]) rfl ?_
    refine sJ X0 hx (B d11_3) rfl ?_
    refine sJ X0 hx (B d11_5) rfl ?_
    refine XS.icmpNo X0.here hx rfl (B d11_7) rfl (tlt (by decide : (0 : Int32) < (1 : Int32))).2.1 ?_
    refine sA X0 hx (B d11_10) rfl rfl ?_
    refine sI X0 hx (B d11_11) rfl ?_
    refine X0.caload hx (j := 0) (v := (.int i3)) (by rw [e0]; exact Ar1.1) (State.isArrayOf_alike hZ.alike Ar1.2.1) Ar1.2.2 hin2 (Has.at Hs1 hin2 rfl) (g := (mkF m 12 #[vr a1, vi 0, vr a2, vi 0, vi 1, vi 0, un] [(.int 0), (.ref a1)])) rfl rfl (B d11_12) _ ?_
    refine XS.istore X0.here hx rfl (B d11_13) rfl (l' := #[vr a1, vi 0, vr a2, vi 0, vi 1, vi 0, vi i3]) rfl ?_
    refine sJ X0 hx (B d11_15) rfl ?_
    refine XS.sipush X0.here hx rfl (B d11_17) ?_
    refine XS.icmpYes X0.here hx rfl (pc0 := 20) (pc' := 26) rfl (B d11_20) rfl (flt c5).2.2.2 (by decide) (by decide) ?_
    refine sA X0 hx (B d11_26) rfl rfl ?_
    refine sI X0 hx (B d11_27) rfl ?_
    refine sJ X0 hx (B d11_28) rfl ?_
    refine XS.i2b X0.here hx rfl (B d11_30) rfl ?_
    refine st5 _ ?_
    refine XS.iinc X5.here hx rfl (B d11_32) rfl (l' := #[vr a1, vi 1, vr a2, vi 0, vi 1, vi 0, vi i3]) rfl ?_
    refine XS.iinc X5.here hx rfl (B d11_35) rfl (l' := #[vr a1, vi 1, vr a2, vi 1, vi 1, vi 0, vi i3]) rfl ?_
    refine XS.iinc X5.here hx rfl (B d11_38) rfl (l' := #[vr a1, vi 1, vr a2, vi 1, vi 1, vi 1, vi i3]) rfl ?_
    refine XS.goto X5.here hx rfl (pc0 := 41) (pc' := 3) rfl (B d11_41) (by decide) (by decide) ?_
    refine sJ X5 hx (B d11_3) rfl ?_
    refine sJ X5 hx (B d11_5) rfl ?_
    refine XS.icmpYes X5.here hx rfl (pc0 := 7) (pc' := 44) rfl (B d11_7) rfl (flt (by decide : ¬ ((1 : Int32) < (1 : Int32)))).2.1 (by decide) (by decide) ?_
    refine sJ X5 hx (B d11_44) rfl ?_
    exact retI X5 hx hret (B d11_46) hr
theorem d10_57 : decode Kc10 57 = .ok (.aload_n 3, 1) := by decide +kernel
theorem d10_58 : decode Kc10 58 = .ok (.areturn, 1) := by decide +kernel
def own_cc (v0 : Int32) : Int32 := (if 255 < v0 then (0 : Int32) else (1 : Int32))
theorem ef_1b50a4 (a1 : Addr) (m : MethodId) : entryFrame m #[(.ref a1), (.int 0), (.int 1)] 6 = mkF m 0 #[.val (.ref a1), .val (.int 0), .val (.int 1), .unset, .unset, .unset] [] := by first | (simp [entryFrame, mkF, argsToLocals, Value.category]; done) | rfl
abbrev y_15 : MethodName := ⟨"java/lang/StringUTF16", "compress", "([CII)[B"⟩
abbrev Rm18 : Room := rmk 3 2 3 40
def Q18 (Z : State) (a1 : Addr) (i2 : Int32) (ck3 : ClassId) (h0 : Heap) (n0 : Nat) (v : Option Value) (h : Heap) (L : List Loc) : Prop := ∃ m0 : Addr, ∃ kk1 : ClassId, v = some (.ref m0) ∧ Fr n0 L ∧ Keep h0 h [] ∧ h0.size ≤ m0 ∧ Exa Z h m0 "[B" ∧ Arv Z h m0 kk1 .byte 2 [(.int (nar .byte ((i2 >>> ((0 : Int32) &&& 31)).toInt8.toInt32))), (.int (nar .byte ((i2 >>> ((8 : Int32) &&& 31)).toInt8.toInt32)))] (.int 0)
theorem rm18 (l : Launch) (Z : State) {a0 : Array Value} (hw : OW a0 Z) (a1 : Addr) (i2 : Int32) (ck3 : ClassId) (h0 : Heap) (n0 : Nat) (Z0 : n0 ≤ h0.size) (V_a1 : Arv Z h0 a1 ck3 .char 1 [(.int i2)] (.int 0)) (S__assertionsDisabled : Sta Z Z.heap "java/lang/StringUTF16" "$assertionsDisabled" "Z" (.int 1)) (Od0 : Old Z n0 h0) (S_HI_BYTE_SHIFT : Sta Z Z.heap "java/lang/StringUTF16" "HI_BYTE_SHIFT" "I" (.int 0)) (S_LO_BYTE_SHIFT : Sta Z Z.heap "java/lang/StringUTF16" "LO_BYTE_SHIFT" "I" (.int 8)) (c4 : ¬ (65535 < i2)) (c5 : (own_cc i2) = 0) :
    OwnMet l Z y_15 jdk_52_method_16_code 6 (some (.array .byte)) [] Rm18 #[(.ref a1), (.int 0), (.int 1)] h0 (Q18 Z a1 i2 ck3 h0 n0) := by
  refine own_body (plainFor_of_name pn_3) (ef_1b50a4 a1) ?_
  intro p e s m below meth c s₁ hx hby hml hown hnm hret hZ X0 e0
  have N0 := Fr.nil n0
  have B := hbx hby
  obtain ⟨T1, h1, k1, X1, e1, E1, A1, B1, st1⟩ := newPE (aty := .byte) X0 hx hZ (w_27 hw) e0 (g := (mkF m 1 #[vr a1, vi 0, vi 1, un, un, un] [(.int 1)])) rfl (B d10_1) rfl (by decide) (cap := 1) (by decide) (by decide) (by decide) (by decide) (ad := "[B") (by decide)
  obtain ⟨b1, g1⟩ : ∃ z, z = h0.size := ⟨_, rfl⟩
  rw [← g1] at A1 B1 st1
  have s0 := E1.1
  have Vn1 : Arv Z h1 b1 k1 .byte 1 [(.int 0)] (.int 0) := (Arv.new A1 (by decide)).pad (pad_rep [] (.int 0) 1)
  have Va2 := (V_a1.ext E1)
  have z1 := Nat.le_trans Z0 s0
  by_cases cc1 : 255 < i2
  · obtain ⟨_, T3, L3, X3, hQ3, st3⟩ := own_callS X1 hx hZ hown (y := y_9) (w_57 hw) (w_58 hw) (w_55 hw) (w_59 hw) (rm11 l Z hw a1 b1 i2 ck3 h1 n0 z1 Va2 cc1) e1 (Ls := #[vr a1, vi 0, vi 1, vr b1, un, un]) hml.symm (argsL := [(.ref a1), (.int 0), (.ref b1), (.int 0), (.int 1)]) (rest := []) (lenOf pd_8 rfl) (B d10_9) (W := 0)
    obtain ⟨rfl, Nq3, e3⟩ := hQ3
    have N3 := Fr.app N0 Nq3
    have Od1 := Od0.ext E1
    obtain ⟨_, T4, L4, X4, hQ4, st4⟩ := own_callS X3 hx hZ hown (y := y_13) (w_60 hw) (w_61 hw) (w_55 hw) (w_62 hw) (rm15 l Z hw a1 i2 ck3 h1 n0 z1 Va2 S__assertionsDisabled Od1 S_HI_BYTE_SHIFT S_LO_BYTE_SHIFT) e3 (Ls := #[vr a1, vi 0, vi 1, vr b1, vi 0, un]) hml.symm (argsL := [(.ref a1), (.int 0), (.int 1)]) (rest := []) (lenOf pd_12 rfl) (B d10_23) (W := 0)
    obtain ⟨b4_0, k4_1, rfl, Nq4, K4, o4_0, o4_1, o4_2⟩ := hQ4
    have N4 := Fr.app N3 Nq4
    have s1 := K4.1
    have Od2 := Od1.keep K4 all0
    have z2 := Nat.le_trans Z0 (Nat.le_trans s0 s1)
    obtain ⟨_, T5, L5, X5, hQ5, st5⟩ := own_callS X4 hx hZ hown (y := y_14) (w_76 hw) (w_77 hw) (w_55 hw) (w_78 hw) (rm16 l Z hw b4_0 (0 : Int32) [(.int (nar .byte ((i2 >>> ((0 : Int32) &&& 31)).toInt8.toInt32))), (.int (nar .byte ((i2 >>> ((8 : Int32) &&& 31)).toInt8.toInt32)))] k4_1 (2 : Int32) (nar .byte ((i2 >>> ((0 : Int32) &&& 31)).toInt8.toInt32)) (nar .byte ((i2 >>> ((8 : Int32) &&& 31)).toInt8.toInt32)) T4.heap n0 z2 S__assertionsDisabled Od2 o4_2 (by decide) (by decide) rfl S_HI_BYTE_SHIFT (by decide) (by decide) rfl S_LO_BYTE_SHIFT) rfl (Ls := #[vr a1, vi 0, vi 1, vr b1, vi 0, vr b4_0]) hml.symm (argsL := [(.ref b4_0), (.int 0)]) (rest := []) (lenOf pd_13 rfl) (B d10_32) (W := 0)
    obtain ⟨rfl, Nq5, e5⟩ := hQ5
    have N5 := Fr.app N4 Nq5
    have cd6 : ¬ (i2 < 0) := (by rw [Int32.lt_iff_toInt_lt]; have := And.intro (own_lb cc1 255 (by decide)) (trivial); have := rng32 i2; have : ((0 : Int32)).toInt = 0 := (by decide); omega)
    have cd7 : 255 < (own_gc (nar .byte ((i2 >>> ((0 : Int32) &&& 31)).toInt8.toInt32)) (nar .byte ((i2 >>> ((8 : Int32) &&& 31)).toInt8.toInt32))) := (by rw [own_gcN i2 cd6 c4]; exact cc1)
    have sz_b4_0 : h0.size ≤ b4_0 := Nat.le_trans s0 o4_0
    have Kp0 := (Keep.refl h0 []).ext E1
    have Kp1 := Kp0.trans K4 all0
    refine ⟨T5, _, _, _, (some (.ref b4_0)), X5, nofun, by decide, by decide, ?_, fun fs hr => ?_⟩
    · rw [e5]
      exact ⟨b4_0, k4_1, rfl, N5, Kp1, sz_b4_0, o4_1, o4_2⟩
    · refine sI X0 hx (B d10_0) rfl ?_
      refine st1 _ ?_
      refine XS.astoreN X1.here hx rfl (B d10_3) rfl rfl (l' := #[vr a1, vi 0, vi 1, vr b1, un, un]) rfl ?_
      refine sA X1 hx (B d10_4) rfl rfl ?_
      refine sI X1 hx (B d10_5) rfl ?_
      refine sA X1 hx (B d10_6) rfl rfl ?_
      refine sC X1 hx (B d10_7) ?_
      refine sI X1 hx (B d10_8) rfl ?_
      refine st3 _ ?_
      refine XS.istore X3.here hx rfl (B d10_12) rfl (l' := #[vr a1, vi 0, vi 1, vr b1, vi 0, un]) rfl ?_
      refine sJ X3 hx (B d10_14) rfl ?_
      refine sI X3 hx (B d10_16) rfl ?_
      refine XS.icmpNo X3.here hx rfl (B d10_17) rfl (feq (by decide : ¬ ((0 : Int32) = (1 : Int32)))).1 ?_
      refine sA X3 hx (B d10_20) rfl rfl ?_
      refine sI X3 hx (B d10_21) rfl ?_
      refine sI X3 hx (B d10_22) rfl ?_
      refine st4 _ ?_
      refine XS.astore X4.here hx rfl (B d10_26) rfl rfl (l' := #[vr a1, vi 0, vi 1, vr b1, vi 0, vr b4_0]) rfl ?_
      refine sB X4 hx (B d10_28) rfl rfl ?_
      refine sJ X4 hx (B d10_30) rfl ?_
      refine st5 _ ?_
      refine XS.sipush X5.here hx rfl (B d10_35) ?_
      refine XS.icmpYes X5.here hx rfl (pc0 := 38) (pc' := 54) rfl (B d10_38) rfl (tlt cd7).2.2.1 (by decide) (by decide) ?_
      refine sB X5 hx (B d10_54) rfl rfl ?_
      exact retOut X5 hx hret rfl (Or.inr (Or.inr (Or.inr (Or.inr ⟨rfl, rfl, rfl⟩)))) (B d10_56) hr
  · exact absurd c5 (by unfold own_cc; rw [if_neg cc1]; decide)
theorem w_56 {a0 Z} (hw : OW a0 Z) : Jvm.Cond.before (.code y_15 jdk_52_method_16_code 6 (some (.array .byte))) a0 Z := hw _ (mo 56 rfl)
theorem w_53 {a0 Z} (hw : OW a0 Z) : Jvm.Cond.before (.methodLink "java/lang/String" 177 y_15) a0 Z := hw _ (mo 53 rfl)
theorem w_54 {a0 Z} (hw : OW a0 Z) : Jvm.Cond.before (.static y_15) a0 Z := hw _ (mo 54 rfl)
theorem d4_39 : decode Kc4 39 = .ok (.astore 5, 2) := by decide +kernel
theorem d4_41 : decode Kc4 41 = .ok (.aload_n 0, 1) := by decide +kernel
theorem d4_42 : decode Kc4 42 = .ok (.aload 5, 2) := by decide +kernel
theorem d4_44 : decode Kc4 44 = .ok (.iload_n 3, 1) := by decide +kernel
theorem d4_45 : decode Kc4 45 = .ok (.invokestatic 47, 3) := by decide +kernel
abbrev Kc17 := jdk_52_method_15_code
theorem d17_0 : decode Kc17 0 = .ok (.iload_n 1, 1) := by decide +kernel
theorem d17_1 : decode Kc17 1 = .ok (.aload_n 0, 1) := by decide +kernel
theorem d17_2 : decode Kc17 2 = .ok (.arraylength, 1) := by decide +kernel
theorem d17_3 : decode Kc17 3 = .ok (.isub, 1) := by decide +kernel
theorem d17_4 : decode Kc17 4 = .ok (.bipush 31, 2) := by decide +kernel
theorem d17_6 : decode Kc17 6 = .ok (.iushr, 1) := by decide +kernel
theorem d17_7 : decode Kc17 7 = .ok (.i2b, 1) := by decide +kernel
theorem d17_8 : decode Kc17 8 = .ok (.ireturn, 1) := by decide +kernel
abbrev y_16 : MethodName := ⟨"java/lang/StringUTF16", "coderFromArrayLen", "([BI)B"⟩
abbrev Rm19 : Room := rmk 0 0 0 0
def Q19 (Z : State) (a1 : Addr) (i2 : Int32) (u3 : List Value) (ck4 : ClassId) (i5 : Int32) (h0 : Heap) (n0 : Nat) (v : Option Value) (h : Heap) (L : List Loc) : Prop := v = some (.int (nar .byte ((((i2 - i5).toUInt32 >>> ((31 : Int32) &&& 31).toUInt32).toInt32).toInt8.toInt32))) ∧ Fr n0 L ∧ h = h0
theorem rm19 (l : Launch) (Z : State) {a0 : Array Value} (hw : OW a0 Z) (a1 : Addr) (i2 : Int32) (u3 : List Value) (ck4 : ClassId) (i5 : Int32) (h0 : Heap) (n0 : Nat) (Z0 : n0 ≤ h0.size) (V_a1 : Arv Z h0 a1 ck4 .byte i5 u3 (.int 0)) :
    OwnMet l Z y_16 jdk_52_method_15_code 2 (some .byte) [] Rm19 #[(.ref a1), (.int i2)] h0 (Q19 Z a1 i2 u3 ck4 i5 h0 n0) := by
  refine own_body (plainFor_of_name pn_3) (ef_e31af7 a1 i2) ?_
  intro p e s m below meth c s₁ hx hby hml hown hnm hret hZ X0 e0
  have N0 := Fr.nil n0
  have B := hbx hby
  obtain ⟨cl1, Ar1, q1, S1, M1, Hs1, G1⟩ := id V_a1
  refine ⟨s₁, _, _, _, (some (.int (nar .byte ((((i2 - i5).toUInt32 >>> ((31 : Int32) &&& 31).toUInt32).toInt32).toInt8.toInt32)))), X0, nofun, by decide, by decide, ?_, fun fs hr => ?_⟩
  · rw [e0]
    exact ⟨rfl, N0, rfl⟩
  · refine sI X0 hx (B d17_0) rfl ?_
    refine sA X0 hx (B d17_1) rfl rfl ?_
    refine X0.arraylength hx (by rw [e0]; exact Ar1.1) (State.isArrayOf_alike hZ.alike Ar1.2.1) (g := (mkF m 2 #[vr a1, vi i2] [(.ref a1), (.int i2)])) rfl rfl (B d17_2) _ ?_
    show Steps p.tables e below (s₁.setTop (mkF m 3 #[vr a1, vi i2] [(.int cl1.slots.size.toInt32), (.int i2)])) _
    rw [len_of S1 M1]
    refine XS.isub X0.here hx rfl (B d17_3) rfl ?_
    refine XS.bipush X0.here hx rfl (B d17_4) ?_
    refine XS.iushr X0.here hx rfl (B d17_6) rfl ?_
    refine XS.i2b X0.here hx rfl (B d17_7) rfl ?_
    exact retN X0 hx (t := .byte) hret (by simp) (B d17_8) hr
theorem pd_14 : parseMethodDescriptor "([BI)B" = some ⟨[(.array .byte), .int], some .byte⟩ := by decide +kernel
theorem w_81 {a0 Z} (hw : OW a0 Z) : Jvm.Cond.before (.code y_16 jdk_52_method_15_code 2 (some .byte)) a0 Z := hw _ (mo 81 rfl)
theorem w_79 {a0 Z} (hw : OW a0 Z) : Jvm.Cond.before (.methodLink "java/lang/String" 47 y_16) a0 Z := hw _ (mo 79 rfl)
theorem w_80 {a0 Z} (hw : OW a0 Z) : Jvm.Cond.before (.static y_16) a0 Z := hw _ (mo 80 rfl)
theorem d4_48 : decode Kc4 48 = .ok (.putfield 15, 3) := by decide +kernel
theorem d4_51 : decode Kc4 51 = .ok (.aload_n 0, 1) := by decide +kernel
theorem d4_52 : decode Kc4 52 = .ok (.aload 5, 2) := by decide +kernel
theorem d4_54 : decode Kc4 54 = .ok (.putfield 9, 3) := by decide +kernel
theorem d4_57 : decode Kc4 57 = .ok (.return_, 1) := by decide +kernel
theorem ef_83ffd8 (a1 : Addr) (a2 : Addr) (m : MethodId) : entryFrame m #[(.ref a1), (.ref a2), (.int 0), (.int 1), .null] 6 = mkF m 0 #[.val (.ref a1), .val (.ref a2), .val (.int 0), .val (.int 1), .val .null, .unset] [] := by first | (simp [entryFrame, mkF, argsToLocals, Value.category]; done) | rfl
abbrev Rm20 : Room := rmk 4 2 3 57
def Q20 (Z : State) (a1 a2 : Addr) (i3 i5 : Int32) (ck6 : ClassId) (h0 : Heap) (n0 : Nat) (v : Option Value) (h : Heap) (L : List Loc) : Prop := ∃ b3_0 : Addr, ∃ k3_1 : ClassId, v = none ∧ Fr n0 L ∧ Keep h0 h [a1] ∧ Exa Z h a1 jS ∧ Fld Z h a1 jS "coder" "B" (.int 1) ∧ Fld Z h a1 jS "value" "[B" (.ref b3_0) ∧ h0.size ≤ b3_0 ∧ Exa Z h b3_0 "[B" ∧ Arv Z h b3_0 k3_1 .byte 2 [(.int (nar .byte ((i5 >>> ((0 : Int32) &&& 31)).toInt8.toInt32))), (.int (nar .byte ((i5 >>> ((8 : Int32) &&& 31)).toInt8.toInt32)))] (.int 0)
theorem rm20 (l : Launch) (Z : State) {a0 : Array Value} (hw : OW a0 Z) (a1 a2 : Addr) (i3 i5 : Int32) (ck6 : ClassId) (h0 : Heap) (n0 : Nat) (Z0 : n0 ≤ h0.size) (S_COMPACT_STRINGS : Sta Z Z.heap "java/lang/String" "COMPACT_STRINGS" "Z" (.int i3)) (Od0 : Old Z n0 h0) (c4 : ¬ (i3 = 0)) (V_a2 : Arv Z h0 a2 ck6 .char 1 [(.int i5)] (.int 0)) (S__assertionsDisabled : Sta Z Z.heap "java/lang/StringUTF16" "$assertionsDisabled" "Z" (.int 1)) (S_HI_BYTE_SHIFT : Sta Z Z.heap "java/lang/StringUTF16" "HI_BYTE_SHIFT" "I" (.int 0)) (S_LO_BYTE_SHIFT : Sta Z Z.heap "java/lang/StringUTF16" "LO_BYTE_SHIFT" "I" (.int 8)) (c7 : ¬ (65535 < i5)) (c8 : (own_cc i5) = 0) (F_coder_a1 : Fld Z h0 a1 jS "coder" "B" (.int 0)) (E_a1 : Exa Z h0 a1 jS) (g_a1 : n0 ≤ a1) (F_value_a1 : Fld Z h0 a1 jS "value" "[B" .null) :
    OwnMet l Z y_2 jdk_42_method_149_code 6 none [] Rm20 #[(.ref a1), (.ref a2), (.int 0), (.int 1), .null] h0 (Q20 Z a1 a2 i3 i5 ck6 h0 n0) := by
  refine own_body (plainFor_of_name pn_1) (ef_83ffd8 a1 a2) ?_
  intro p e s m below meth c s₁ hx hby hml hown hnm hret hZ X0 e0
  have N0 := Fr.nil n0
  have B := hbx hby
  obtain ⟨T1, X1, e1, st1⟩ := initO X0 hx hZ hown (w_23 hw) (w_24 hw) (w_25 hw) e0 (g := (mkF m 1 #[vr a1, vr a2, vi 0, vi 1, .val .null, un] [(.ref a1)])) rfl hml.symm rfl (B d4_1) (by decide) (W := 0) (by show 2 * 0 + _ ≤ _; exact Nat.le_of_eq rfl) (by decide)
  obtain ⟨T2, X2, e2, st2⟩ := getS2 X1 hx hZ hown (host := "") (Or.inl (w_51 hw)) Via.refl e1 (S_COMPACT_STRINGS.ext Od0.2) (g := (mkF m 27 #[vr a1, vr a2, vi 0, vi 1, .val .null, un] [])) rfl (B d4_27)
  obtain ⟨_, T3, L3, X3, hQ3, st3⟩ := own_callS X2 hx hZ hown (y := y_15) (w_53 hw) (w_54 hw) (w_55 hw) (w_56 hw) (rm18 l Z hw a2 i5 ck6 h0 n0 Z0 V_a2 S__assertionsDisabled Od0 S_HI_BYTE_SHIFT S_LO_BYTE_SHIFT c7 c8) e2 (Ls := #[vr a1, vr a2, vi 0, vi 1, .val .null, un]) hml.symm (argsL := [(.ref a2), (.int 0), (.int 1)]) (rest := []) (lenOf pd_12 rfl) (B d4_36) (W := 0)
  obtain ⟨b3_0, k3_1, rfl, Nq3, K3, o3_0, o3_1, o3_2⟩ := hQ3
  have N3 := Fr.app N0 Nq3
  have s0 := K3.1
  have z1 := Nat.le_trans Z0 s0
  obtain ⟨_, T4, L4, X4, hQ4, st4⟩ := own_callS X3 hx hZ hown (y := y_16) (w_79 hw) (w_80 hw) (w_55 hw) (w_81 hw) (rm19 l Z hw b3_0 (1 : Int32) [(.int (nar .byte ((i5 >>> ((0 : Int32) &&& 31)).toInt8.toInt32))), (.int (nar .byte ((i5 >>> ((8 : Int32) &&& 31)).toInt8.toInt32)))] k3_1 (2 : Int32) T3.heap n0 z1 o3_2) rfl (Ls := #[vr a1, vr a2, vi 0, vi 1, .val .null, vr b3_0]) hml.symm (argsL := [(.ref b3_0), (.int 1)]) (rest := [(.ref a1)]) (lenOf pd_14 rfl) (B d4_45) (W := 1)
  obtain ⟨rfl, Nq4, e4⟩ := hQ4
  have N4 := Fr.app N3 Nq4
  have Fl5 := (F_coder_a1.keep K3 nin0)
  have Ex6 := (E_a1.keep K3)
  obtain ⟨T7, h7, X7, e7, W7, st7⟩ := putFN X4 hx hZ hown (w_33 hw) Via.refl e4 Fl5 Ex6 (Or.inr ⟨(w_29 hw), rfl, hnm⟩) (w_13 hw) (ty := .byte) (v' := (.int (nar .byte (1 : Int32)))) (by decide) rfl (fits_nar_byte _) (g := (mkF m 48 #[vr a1, vr a2, vi 0, vi 1, .val .null, vr b3_0] [(.int 1), (.ref a1)])) rfl rfl (B d4_48)
  have s1 := (Keep.of_wr W7).1
  have N7 := Fr.snoc X7 N4 g_a1
  have Fw7 : Fld Z h7 a1 jS "coder" "B" (.int 1) := Fl5.same W7
  have Ex8 := (Ex6.wr W7)
  have Fl9 := ((F_value_a1.keep K3 nin0).other W7 (Or.inr (slot_ne (Or.inr (w_28 hw)) (Or.inr (w_29 hw)) (by decide) (t := (.array .byte)) (t' := .byte) (by decide) (by decide))))
  obtain ⟨T10, h10, X10, e10, W10, st10⟩ := putF X7 hx hZ hown (host := "") (Or.inl (w_32 hw)) Via.refl e7 Fl9 Ex8 (Or.inr ⟨(w_28 hw), rfl, hnm⟩) (w_13 hw) (ty := (.array .byte)) (by decide) rfl rfl (g := (mkF m 54 #[vr a1, vr a2, vi 0, vi 1, .val .null, vr b3_0] [(.ref b3_0), (.ref a1)])) rfl rfl (B d4_54)
  have s2 := (Keep.of_wr W10).1
  have N10 := Fr.snoc X10 N7 g_a1
  have Fw10 : Fld Z h10 a1 jS "value" "[B" (.ref b3_0) := Fl9.same W10
  have Ex11 := (Ex8.wr W10)
  have Fl12 := (Fw7.other W10 (Or.inr (slot_ne (Or.inr (w_29 hw)) (Or.inr (w_28 hw)) (by decide) (t := .byte) (t' := (.array .byte)) (by decide) (by decide))))
  have sz_b3_0 : h0.size ≤ b3_0 := o3_0
  have Ex13 := ((o3_1.wr W7).wr W10)
  have ne_a1_b3_0 := Nat.ne_of_lt (Nat.lt_of_lt_of_le F_value_a1.lt o3_0)
  have Va14 := ((o3_2.other W7 (Ne.symm ne_a1_b3_0)).other W10 (Ne.symm ne_a1_b3_0))
  have Kp0 := (Keep.refl h0 [a1]).trans K3 all0
  have Kp1 := Kp0.wr W7 own_m0
  have Kp2 := Kp1.wr W10 own_m0
  refine ⟨T10, _, _, _, none, X10, (fun _ => rfl), by decide, by decide, ?_, fun fs hr => ?_⟩
  · rw [e10]
    exact ⟨b3_0, k3_1, rfl, N10, Kp2, Ex11, Fl12, Fw10, sz_b3_0, Ex13, Va14⟩
  · refine sA X0 hx (B d4_0) rfl rfl ?_
    refine st1 _ ?_
    refine sI X1 hx (B d4_4) rfl ?_
    refine XS.ifYes X1.here hx rfl (pc0 := 5) (pc' := 27) rfl (B d4_5) rfl ((if0 _ _).trans (feq (by decide : ¬ ((1 : Int32) = (0 : Int32)))).2) (by decide) (by decide) ?_
    refine st2 _ ?_
    refine XS.ifNo X2.here hx rfl (B d4_30) rfl ((if0 _ _).trans (feq c4).1) ?_
    refine sA X2 hx (B d4_33) rfl rfl ?_
    refine sI X2 hx (B d4_34) rfl ?_
    refine sI X2 hx (B d4_35) rfl ?_
    refine st3 _ ?_
    refine XS.astore X3.here hx rfl (B d4_39) rfl rfl (l' := #[vr a1, vr a2, vi 0, vi 1, .val .null, vr b3_0]) rfl ?_
    refine sA X3 hx (B d4_41) rfl rfl ?_
    refine sB X3 hx (B d4_42) rfl rfl ?_
    refine sI X3 hx (B d4_44) rfl ?_
    refine st4 _ ?_
    refine st7 _ ?_
    refine sA X7 hx (B d4_51) rfl rfl ?_
    refine sB X7 hx (B d4_52) rfl rfl ?_
    refine st10 _ ?_
    exact X10.returnOut hx hret (B d4_57) hr
abbrev Rm21 : Room := rmk 5 2 3 74
def Q21 (Z : State) (a1 a2 : Addr) (i3 : Int32) (ck4 : ClassId) (i5 : Int32) (h0 : Heap) (n0 : Nat) (v : Option Value) (h : Heap) (L : List Loc) : Prop := ∃ b2_0 : Addr, ∃ k2_1 : ClassId, v = none ∧ Fr n0 L ∧ Keep h0 h [a1] ∧ Exa Z h a1 jS ∧ Fld Z h a1 jS "coder" "B" (.int 1) ∧ Fld Z h a1 jS "value" "[B" (.ref b2_0) ∧ h0.size ≤ b2_0 ∧ Exa Z h b2_0 "[B" ∧ Arv Z h b2_0 k2_1 .byte 2 [(.int (nar .byte ((i3 >>> ((0 : Int32) &&& 31)).toInt8.toInt32))), (.int (nar .byte ((i3 >>> ((8 : Int32) &&& 31)).toInt8.toInt32)))] (.int 0)
theorem rm21 (l : Launch) (Z : State) {a0 : Array Value} (hw : OW a0 Z) (a1 a2 : Addr) (i3 : Int32) (ck4 : ClassId) (i5 : Int32) (h0 : Heap) (n0 : Nat) (Z0 : n0 ≤ h0.size) (V_a2 : Arv Z h0 a2 ck4 .char 1 [(.int i3)] (.int 0)) (S_COMPACT_STRINGS : Sta Z Z.heap "java/lang/String" "COMPACT_STRINGS" "Z" (.int i5)) (Od0 : Old Z n0 h0) (c6 : ¬ (i5 = 0)) (S__assertionsDisabled : Sta Z Z.heap "java/lang/StringUTF16" "$assertionsDisabled" "Z" (.int 1)) (S_HI_BYTE_SHIFT : Sta Z Z.heap "java/lang/StringUTF16" "HI_BYTE_SHIFT" "I" (.int 0)) (S_LO_BYTE_SHIFT : Sta Z Z.heap "java/lang/StringUTF16" "LO_BYTE_SHIFT" "I" (.int 8)) (c7 : ¬ (65535 < i3)) (c8 : (own_cc i3) = 0) (F_coder_a1 : Fld Z h0 a1 jS "coder" "B" (.int 0)) (E_a1 : Exa Z h0 a1 jS) (g_a1 : n0 ≤ a1) (F_value_a1 : Fld Z h0 a1 jS "value" "[B" .null) :
    OwnMet l Z y_3 jdk_42_method_3_code 2 none [] Rm21 #[(.ref a1), (.ref a2)] h0 (Q21 Z a1 a2 i3 ck4 i5 h0 n0) := by
  refine own_body (plainFor_of_name pn_1) (ef_463e93 a1 a2) ?_
  intro p e s m below meth c s₁ hx hby hml hown hnm hret hZ X0 e0
  have N0 := Fr.nil n0
  have B := hbx hby
  obtain ⟨cl1, Ar1, q1, S1, M1, Hs1, G1⟩ := id V_a2
  obtain ⟨_, T2, L2, X2, hQ2, st2⟩ := own_special X0 hx hZ hown (y := y_2) (a := a1) (w_19 hw) (w_20 hw) (w_14 hw) (w_22 hw) (rm20 l Z hw a1 a2 i5 i3 ck4 h0 n0 Z0 S_COMPACT_STRINGS Od0 c6 V_a2 S__assertionsDisabled S_HI_BYTE_SHIFT S_LO_BYTE_SHIFT c7 c8 F_coder_a1 E_a1 g_a1 F_value_a1) e0 (Ls := #[vr a1, vr a2]) hml.symm (argsL := [(.ref a2), (.int 0), (.int 1), .null]) (rest := []) (lenOf pd_1 rfl) (B d3_6) (W := 0)
  obtain ⟨b2_0, k2_1, rfl, Nq2, K2, o2_0, o2_1, o2_2, o2_3, o2_4, o2_5⟩ := hQ2
  have N2 := Fr.app N0 Nq2
  have s0 := K2.1
  have sz_b2_0 : h0.size ≤ b2_0 := o2_3
  have Kp0 := (Keep.refl h0 [a1]).trans K2 (allS own_m0 all0)
  refine ⟨T2, _, _, _, none, X2, (fun _ => rfl), by decide, by decide, ?_, fun fs hr => ?_⟩
  · exact ⟨b2_0, k2_1, rfl, N2, Kp0, o2_0, o2_1, o2_2, sz_b2_0, o2_4, o2_5⟩
  · refine sA X0 hx (B d3_0) rfl rfl ?_
    refine sA X0 hx (B d3_1) rfl rfl ?_
    refine sC X0 hx (B d3_2) ?_
    refine sA X0 hx (B d3_3) rfl rfl ?_
    refine X0.arraylength hx (by rw [e0]; exact Ar1.1) (State.isArrayOf_alike hZ.alike Ar1.2.1) (g := (mkF m 4 #[vr a1, vr a2] [(.ref a2), (.int 0), (.ref a2), (.ref a1)])) rfl rfl (B d3_4) _ ?_
    show Steps p.tables e below (s₁.setTop (mkF m 5 #[vr a1, vr a2] [(.int cl1.slots.size.toInt32), (.int 0), (.ref a2), (.ref a1)])) _
    rw [len_of S1 M1]
    refine XS.aconstNull X0.here hx rfl (B d3_5) ?_
    refine st2 _ ?_
    exact X2.returnOut hx hret (B d3_9) hr
theorem d2_34 : decode Kc2 34 = .ok (.areturn, 1) := by decide +kernel
theorem ef_783491 (i1 : Int32) (i2 : Int32) (i3 : Int32) (i4 : Int32) (m : MethodId) : entryFrame m #[(.int 1), (.int i1), (.int i2), (.int i3), (.int i4)] 5 = mkF m 0 #[.val (.int 1), .val (.int i1), .val (.int i2), .val (.int i3), .val (.int i4)] [] := by first | (simp [entryFrame, mkF, argsToLocals, Value.category]; done) | rfl
abbrev Rm22 : Room := rmk 6 4 8 88
def Q22 (Z : State) (i1 i2 i3 i4 i5 : Int32) (h0 : Heap) (n0 : Nat) (v : Option Value) (h : Heap) (L : List Loc) : Prop := ∃ b1 : Addr, ∃ b10_0 : Addr, ∃ k10_1 : ClassId, v = some (.ref b1) ∧ Fr n0 L ∧ Keep h0 h [] ∧ h0.size ≤ b1 ∧ Exa Z h b1 jS ∧ Fld Z h b1 jS "coder" "B" (.int 1) ∧ Fld Z h b1 jS "value" "[B" (.ref b10_0) ∧ h0.size ≤ b10_0 ∧ Exa Z h b10_0 "[B" ∧ Arv Z h b10_0 k10_1 .byte 2 [(.int (nar .byte (((nar .char i1) >>> ((0 : Int32) &&& 31)).toInt8.toInt32))), (.int (nar .byte (((nar .char i1) >>> ((8 : Int32) &&& 31)).toInt8.toInt32)))] (.int 0) ∧ b1 ≠ b10_0
theorem rm22 (l : Launch) (Z : State) {a0 : Array Value} (hw : OW a0 Z) (i1 i2 i3 i4 i5 : Int32) (h0 : Heap) (n0 : Nat) (Z0 : n0 ≤ h0.size) (S_COMPACT_STRINGS : Sta Z Z.heap "java/lang/String" "COMPACT_STRINGS" "Z" (.int i5)) (Od0 : Old Z n0 h0) (c6 : ¬ (i5 = 0)) (S__assertionsDisabled : Sta Z Z.heap "java/lang/StringUTF16" "$assertionsDisabled" "Z" (.int 1)) (S_HI_BYTE_SHIFT : Sta Z Z.heap "java/lang/StringUTF16" "HI_BYTE_SHIFT" "I" (.int 0)) (S_LO_BYTE_SHIFT : Sta Z Z.heap "java/lang/StringUTF16" "LO_BYTE_SHIFT" "I" (.int 8)) (c7 : (own_cc (nar .char i1)) = 0) :
    OwnMet l Z y_4 method_4_code 5 (some (.object "java/lang/String")) [] Rm22 #[(.int 1), (.int i1), (.int i2), (.int i3), (.int i4)] h0 (Q22 Z i1 i2 i3 i4 i5 h0 n0) := by
  refine own_body (plainFor_of_name pn_0) (ef_783491 i1 i2 i3 i4) ?_
  intro p e s m below meth c s₁ hx hby hml hown hnm hret hZ X0 e0
  have N0 := Fr.nil n0
  have B := hbx hby
  obtain ⟨T1, h1, X1, e1, E1, A1, D1, -, st1⟩ := newO X0 hx hZ hown (w_12 hw) (w_13 hw) (w_14 hw) e0 (g := (mkF m 20 #[vi 1, vi i1, vi i2, vi i3, vi i4] [])) rfl (B d2_20) (by decide) (by decide)
  obtain ⟨b1, g1⟩ : ∃ z, z = h0.size := ⟨_, rfl⟩
  rw [← g1] at A1 D1 st1
  have s0 := E1.1
  have Fn1_value : Fld Z h1 b1 jS "value" "[B" .null := D1 (Or.inr (w_28 hw)) (ty := (.array .byte)) (by decide)
  have Fn1_coder : Fld Z h1 b1 jS "coder" "B" (.int 0) := D1 (Or.inr (w_29 hw)) (ty := .byte) (by decide)
  obtain ⟨T2, h2, k2, X2, e2, E2, A2, B2, st2⟩ := newPE (aty := .char) X1 hx hZ (w_15 hw) e1 (g := (mkF m 25 #[vi 1, vi i1, vi i2, vi i3, vi i4] [(.int 1), (.ref b1), (.ref b1)])) rfl (B d2_25) rfl (by decide) (cap := 1) (by decide) (by decide) (by decide) (by decide) (ad := "[C") (by decide)
  obtain ⟨b2, g2⟩ : ∃ z, z = h1.size := ⟨_, rfl⟩
  rw [← g2] at A2 B2 st2
  have s1 := E2.1
  have Vn2 : Arv Z h2 b2 k2 .char 1 [(.int 0)] (.int 0) := (Arv.new A2 (by decide)).pad (pad_rep [] (.int 0) 1)
  obtain ⟨cl3, Ar3, q3, S3, M3, Hs3, G3⟩ := id Vn2
  have hin4 := inb_of (j := 0) S3 ⟨by decide, by decide⟩
  obtain ⟨T5, h5, X5, e5, W5, st5⟩ := stC X2 hx hZ e2 Ar3 (j := 0) hin4 (g := (mkF m 30 #[vi 1, vi i1, vi i2, vi i3, vi i4] [(.int i1), (.int 0), (.ref b2), (.ref b2), (.ref b1), (.ref b1)])) rfl rfl (B d2_30)
  have s2 := (Keep.of_wr W5).1
  have z1 := Nat.le_trans Z0 s0
  have g_b2 : n0 ≤ b2 := Nat.le_trans z1 (Nat.le_of_eq g2.symm)
  have N5 := Fr.snoc X5 N0 g_b2
  have Vs5 : Arv Z h5 b2 k2 .char 1 [(.int (nar .char i1))] (.int 0) := Arv.set Ar3 q3 S3 M3 Hs3 G3 (fits_nar_char _) W5 0 rfl (nl rfl)
  have Od1 := Od0.ext E1
  have Od2 := Od1.ext E2
  have Od3 := Od2.wr W5 g_b2
  have cd6 : ¬ (65535 < (nar .char i1)) := (by rw [Int32.lt_iff_toInt_lt]; have : ((65535 : Int32)).toInt = 65535 := (by decide); have := rng32 (nar .char i1); have := rng32 i1; have := own_c_nar_char i1; omega)
  have ne_b1_b2 := Nat.ne_of_lt (Nat.lt_of_lt_of_le Fn1_value.lt (Nat.le_of_eq g2.symm))
  have Fl7 := ((Fn1_coder.ext E2).other W5 (Or.inl ne_b1_b2))
  have Ex8 := ((A1.ext E2).wr W5)
  have g_b1 : n0 ≤ b1 := Nat.le_trans Z0 (Nat.le_of_eq g1.symm)
  have Fl9 := ((Fn1_value.ext E2).other W5 (Or.inl ne_b1_b2))
  have z3 := Nat.le_trans Z0 (Nat.le_trans (Nat.le_trans s0 s1) s2)
  obtain ⟨_, T10, L10, X10, hQ10, st10⟩ := own_special X5 hx hZ hown (y := y_3) (a := b1) (w_16 hw) (w_17 hw) (w_14 hw) (w_18 hw) (rm21 l Z hw b1 b2 (nar .char i1) k2 i5 h5 n0 z3 Vs5 S_COMPACT_STRINGS Od3 c6 S__assertionsDisabled S_HI_BYTE_SHIFT S_LO_BYTE_SHIFT cd6 c7 Fl7 Ex8 g_b1 Fl9) e5 (Ls := #[vi 1, vi i1, vi i2, vi i3, vi i4]) hml.symm (argsL := [(.ref b2)]) (rest := [(.ref b1)]) (lenOf pd_2 rfl) (B d2_31) (W := 1)
  obtain ⟨b10_0, k10_1, rfl, Nq10, K10, o10_0, o10_1, o10_2, o10_3, o10_4, o10_5⟩ := hQ10
  have N10 := Fr.app N5 Nq10
  have s3 := K10.1
  have sz_b1 : h0.size ≤ b1 := (Nat.le_of_eq g1.symm)
  have sz_b10_0 : h0.size ≤ b10_0 := Nat.le_trans (Nat.le_trans (Nat.le_trans s0 s1) s2) o10_3
  have ne_b1_b10_0 := Nat.ne_of_lt (Nat.lt_of_lt_of_le Fl9.lt o10_3)
  have Kp0 := (Keep.refl h0 []).ext E1
  have Kp1 := Kp0.ext E2
  have sz_b2 : h0.size ≤ b2 := Nat.le_trans s0 (Nat.le_of_eq g2.symm)
  have Kp2 := Kp1.wr W5 (Or.inr sz_b2)
  have Kp3 := Kp2.trans K10 (allS (Or.inr sz_b1) all0)
  refine ⟨T10, _, _, _, (some (.ref b1)), X10, nofun, by decide, by decide, ?_, fun fs hr => ?_⟩
  · exact ⟨b1, b10_0, k10_1, rfl, N10, Kp3, sz_b1, o10_0, o10_1, o10_2, sz_b10_0, o10_4, o10_5, ne_b1_b10_0⟩
  · refine sI X0 hx (B d2_0) rfl ?_
    refine XS.ifYes X0.here hx rfl (pc0 := 1) (pc' := 15) rfl (B d2_1) rfl ((if0 _ _).trans (feq (by decide : ¬ ((1 : Int32) = (0 : Int32)))).2) (by decide) (by decide) ?_
    refine sI X0 hx (B d2_15) rfl ?_
    refine sC X0 hx (B d2_16) ?_
    refine XS.icmpNo X0.here hx rfl (B d2_17) rfl (teq (by decide : (1 : Int32) = (1 : Int32))).2 ?_
    refine st1 _ ?_
    refine XS.dup X1.here hx rfl (B d2_23) rfl rfl ?_
    refine sC X1 hx (B d2_24) ?_
    refine st2 _ ?_
    refine XS.dup X2.here hx rfl (B d2_27) rfl rfl ?_
    refine sC X2 hx (B d2_28) ?_
    refine sI X2 hx (B d2_29) rfl ?_
    refine st5 _ ?_
    refine st10 _ ?_
    exact retOut X10 hx hret rfl (Or.inr (Or.inr (Or.inr (Or.inr ⟨rfl, rfl, rfl⟩)))) (B d2_34) hr
theorem d6_7 : decode Kc6 7 = .ok (.aload_n 0, 1) := by decide +kernel
theorem d6_8 : decode Kc6 8 = .ok (.iload_n 2, 1) := by decide +kernel
theorem d6_9 : decode Kc6 9 = .ok (.caload, 1) := by decide +kernel
theorem d6_10 : decode Kc6 10 = .ok (.istore_n 3, 1) := by decide +kernel
theorem d6_11 : decode Kc6 11 = .ok (.iload_n 3, 1) := by decide +kernel
theorem d6_12 : decode Kc6 12 = .ok (.invokestatic 40, 3) := by decide +kernel
abbrev Kc18 := method_5_code
theorem d18_0 : decode Kc18 0 = .ok (.iload_n 0, 1) := by decide +kernel
theorem d18_1 : decode Kc18 1 = .ok (.ldc 29, 2) := by decide +kernel
theorem d18_3 : decode Kc18 3 = .ok (.if_icmp .lt 13, 3) := by decide +kernel
theorem d18_16 : decode Kc18 16 = .ok (.iconst 0, 1) := by decide +kernel
theorem d18_17 : decode Kc18 17 = .ok (.ireturn, 1) := by decide +kernel
theorem d18_6 : decode Kc18 6 = .ok (.iload_n 0, 1) := by decide +kernel
theorem d18_7 : decode Kc18 7 = .ok (.ldc 38, 2) := by decide +kernel
theorem w_122 {a0 Z} (hw : OW a0 Z) : Jvm.Cond.before (.constant "com/example/sidwire/sidwire/cbor/CborWriterUnpairedSurrogatePinLaw" 38 (56319 : Int32)) a0 Z := hw _ (mo 122 rfl)
theorem d18_9 : decode Kc18 9 = .ok (.if_icmp .gt 7, 3) := by decide +kernel
theorem d18_12 : decode Kc18 12 = .ok (.iconst 1, 1) := by decide +kernel
theorem d18_13 : decode Kc18 13 = .ok (.goto 4, 3) := by decide +kernel
def own_hi (v0 : Int32) : Int32 := (if v0 < 55296 then (0 : Int32) else (if 56319 < v0 then (0 : Int32) else (1 : Int32)))
theorem ef_53da61 (i1 : Int32) (m : MethodId) : entryFrame m #[(.int i1)] 1 = mkF m 0 #[.val (.int i1)] [] := by first | (simp [entryFrame, mkF, argsToLocals, Value.category]; done) | rfl
abbrev y_17 : MethodName := ⟨"com/example/sidwire/sidwire/cbor/CborWriterUnpairedSurrogatePinLaw", "high", "(C)Z"⟩
abbrev Rm23 : Room := rmk 0 0 0 0
def Q23 (Z : State) (i1 : Int32) (h0 : Heap) (n0 : Nat) (v : Option Value) (h : Heap) (L : List Loc) : Prop := v = some (.int (own_hi i1)) ∧ Fr n0 L ∧ h = h0
theorem rm23 (l : Launch) (Z : State) {a0 : Array Value} (hw : OW a0 Z) (i1 : Int32) (h0 : Heap) (n0 : Nat) (Z0 : n0 ≤ h0.size) :
    OwnMet l Z y_17 method_5_code 1 (some .boolean) [] Rm23 #[(.int i1)] h0 (Q23 Z i1 h0 n0) := by
  refine own_body (plainFor_of_name pn_0) (ef_53da61 i1) ?_
  intro p e s m below meth c s₁ hx hby hml hown hnm hret hZ X0 e0
  have N0 := Fr.nil n0
  have B := hbx hby
  by_cases cc1 : i1 < 55296
  · refine ⟨s₁, _, _, _, (some (.int 0)), X0, nofun, by decide, by decide, ?_, fun fs hr => ?_⟩
    · rw [e0]
      unfold Q23
      rw [show (own_hi i1) = (0 : Int32) from by unfold own_hi; rw [if_pos cc1]]
      exact ⟨rfl, N0, rfl⟩
    · refine sI X0 hx (B d18_0) rfl ?_
      refine X0.ldcInt hx hown (mvT hZ (w_8 hw)) (g := (mkF m 1 #[vi i1] [(.int i1)])) rfl (B d18_1) _ ?_
      refine XS.icmpYes X0.here hx rfl (pc0 := 3) (pc' := 16) rfl (B d18_3) rfl (tlt cc1).1 (by decide) (by decide) ?_
      refine sC X0 hx (B d18_16) ?_
      exact retN X0 hx (t := .boolean) hret (by simp) (B d18_17) hr
  · by_cases cc2 : 56319 < i1
    · refine ⟨s₁, _, _, _, (some (.int 0)), X0, nofun, by decide, by decide, ?_, fun fs hr => ?_⟩
      · rw [e0]
        unfold Q23
        rw [show (own_hi i1) = (0 : Int32) from by unfold own_hi; rw [if_neg cc1, if_pos cc2]]
        exact ⟨rfl, N0, rfl⟩
      · refine sI X0 hx (B d18_0) rfl ?_
        refine X0.ldcInt hx hown (mvT hZ (w_8 hw)) (g := (mkF m 1 #[vi i1] [(.int i1)])) rfl (B d18_1) _ ?_
        refine XS.icmpNo X0.here hx rfl (B d18_3) rfl (flt cc1).1 ?_
        refine sI X0 hx (B d18_6) rfl ?_
        refine X0.ldcInt hx hown (mvT hZ (w_122 hw)) (g := (mkF m 7 #[vi i1] [(.int i1)])) rfl (B d18_7) _ ?_
        refine XS.icmpYes X0.here hx rfl (pc0 := 9) (pc' := 16) rfl (B d18_9) rfl (tlt cc2).2.2.1 (by decide) (by decide) ?_
        refine sC X0 hx (B d18_16) ?_
        exact retN X0 hx (t := .boolean) hret (by simp) (B d18_17) hr
    · refine ⟨s₁, _, _, _, (some (.int 1)), X0, nofun, by decide, by decide, ?_, fun fs hr => ?_⟩
      · rw [e0]
        unfold Q23
        rw [show (own_hi i1) = (1 : Int32) from by unfold own_hi; rw [if_neg cc1, if_neg cc2]]
        exact ⟨rfl, N0, rfl⟩
      · refine sI X0 hx (B d18_0) rfl ?_
        refine X0.ldcInt hx hown (mvT hZ (w_8 hw)) (g := (mkF m 1 #[vi i1] [(.int i1)])) rfl (B d18_1) _ ?_
        refine XS.icmpNo X0.here hx rfl (B d18_3) rfl (flt cc1).1 ?_
        refine sI X0 hx (B d18_6) rfl ?_
        refine X0.ldcInt hx hown (mvT hZ (w_122 hw)) (g := (mkF m 7 #[vi i1] [(.int i1)])) rfl (B d18_7) _ ?_
        refine XS.icmpNo X0.here hx rfl (B d18_9) rfl (flt cc2).2.2.1 ?_
        refine sC X0 hx (B d18_12) ?_
        refine XS.goto X0.here hx rfl (pc0 := 13) (pc' := 17) rfl (B d18_13) (by decide) (by decide) ?_
        exact retN X0 hx (t := .boolean) hret (by simp) (B d18_17) hr
theorem pd_15 : parseMethodDescriptor "(C)Z" = some ⟨[.char], some .boolean⟩ := by decide +kernel
theorem w_84 {a0 Z} (hw : OW a0 Z) : Jvm.Cond.before (.code y_17 method_5_code 1 (some .boolean)) a0 Z := hw _ (mo 84 rfl)
theorem w_82 {a0 Z} (hw : OW a0 Z) : Jvm.Cond.before (.methodLink "com/example/sidwire/sidwire/cbor/CborWriterUnpairedSurrogatePinLaw" 40 y_17) a0 Z := hw _ (mo 82 rfl)
theorem w_83 {a0 Z} (hw : OW a0 Z) : Jvm.Cond.before (.static y_17) a0 Z := hw _ (mo 83 rfl)
theorem d6_15 : decode Kc6 15 = .ok (.ifCond .eq 27, 3) := by decide +kernel
theorem d6_42 : decode Kc6 42 = .ok (.iload_n 3, 1) := by decide +kernel
theorem d6_43 : decode Kc6 43 = .ok (.invokestatic 44, 3) := by decide +kernel
abbrev Kc19 := method_6_code
theorem d19_0 : decode Kc19 0 = .ok (.iload_n 0, 1) := by decide +kernel
theorem d19_1 : decode Kc19 1 = .ok (.ldc 30, 2) := by decide +kernel
theorem d19_3 : decode Kc19 3 = .ok (.if_icmp .lt 13, 3) := by decide +kernel
theorem d19_16 : decode Kc19 16 = .ok (.iconst 0, 1) := by decide +kernel
theorem d19_17 : decode Kc19 17 = .ok (.ireturn, 1) := by decide +kernel
theorem d19_6 : decode Kc19 6 = .ok (.iload_n 0, 1) := by decide +kernel
theorem d19_7 : decode Kc19 7 = .ok (.ldc 39, 2) := by decide +kernel
theorem w_123 {a0 Z} (hw : OW a0 Z) : Jvm.Cond.before (.constant "com/example/sidwire/sidwire/cbor/CborWriterUnpairedSurrogatePinLaw" 39 (57343 : Int32)) a0 Z := hw _ (mo 123 rfl)
theorem d19_9 : decode Kc19 9 = .ok (.if_icmp .gt 7, 3) := by decide +kernel
theorem d19_12 : decode Kc19 12 = .ok (.iconst 1, 1) := by decide +kernel
theorem d19_13 : decode Kc19 13 = .ok (.goto 4, 3) := by decide +kernel
def own_lw (v0 : Int32) : Int32 := (if v0 < 56320 then (0 : Int32) else (if 57343 < v0 then (0 : Int32) else (1 : Int32)))
abbrev y_18 : MethodName := ⟨"com/example/sidwire/sidwire/cbor/CborWriterUnpairedSurrogatePinLaw", "low", "(C)Z"⟩
abbrev Rm24 : Room := rmk 0 0 0 0
def Q24 (Z : State) (i1 : Int32) (h0 : Heap) (n0 : Nat) (v : Option Value) (h : Heap) (L : List Loc) : Prop := v = some (.int (own_lw i1)) ∧ Fr n0 L ∧ h = h0
theorem rm24 (l : Launch) (Z : State) {a0 : Array Value} (hw : OW a0 Z) (i1 : Int32) (h0 : Heap) (n0 : Nat) (Z0 : n0 ≤ h0.size) :
    OwnMet l Z y_18 method_6_code 1 (some .boolean) [] Rm24 #[(.int i1)] h0 (Q24 Z i1 h0 n0) := by
  refine own_body (plainFor_of_name pn_0) (ef_53da61 i1) ?_
  intro p e s m below meth c s₁ hx hby hml hown hnm hret hZ X0 e0
  have N0 := Fr.nil n0
  have B := hbx hby
  by_cases cc1 : i1 < 56320
  · refine ⟨s₁, _, _, _, (some (.int 0)), X0, nofun, by decide, by decide, ?_, fun fs hr => ?_⟩
    · rw [e0]
      unfold Q24
      rw [show (own_lw i1) = (0 : Int32) from by unfold own_lw; rw [if_pos cc1]]
      exact ⟨rfl, N0, rfl⟩
    · refine sI X0 hx (B d19_0) rfl ?_
      refine X0.ldcInt hx hown (mvT hZ (w_7 hw)) (g := (mkF m 1 #[vi i1] [(.int i1)])) rfl (B d19_1) _ ?_
      refine XS.icmpYes X0.here hx rfl (pc0 := 3) (pc' := 16) rfl (B d19_3) rfl (tlt cc1).1 (by decide) (by decide) ?_
      refine sC X0 hx (B d19_16) ?_
      exact retN X0 hx (t := .boolean) hret (by simp) (B d19_17) hr
  · by_cases cc2 : 57343 < i1
    · refine ⟨s₁, _, _, _, (some (.int 0)), X0, nofun, by decide, by decide, ?_, fun fs hr => ?_⟩
      · rw [e0]
        unfold Q24
        rw [show (own_lw i1) = (0 : Int32) from by unfold own_lw; rw [if_neg cc1, if_pos cc2]]
        exact ⟨rfl, N0, rfl⟩
      · refine sI X0 hx (B d19_0) rfl ?_
        refine X0.ldcInt hx hown (mvT hZ (w_7 hw)) (g := (mkF m 1 #[vi i1] [(.int i1)])) rfl (B d19_1) _ ?_
        refine XS.icmpNo X0.here hx rfl (B d19_3) rfl (flt cc1).1 ?_
        refine sI X0 hx (B d19_6) rfl ?_
        refine X0.ldcInt hx hown (mvT hZ (w_123 hw)) (g := (mkF m 7 #[vi i1] [(.int i1)])) rfl (B d19_7) _ ?_
        refine XS.icmpYes X0.here hx rfl (pc0 := 9) (pc' := 16) rfl (B d19_9) rfl (tlt cc2).2.2.1 (by decide) (by decide) ?_
        refine sC X0 hx (B d19_16) ?_
        exact retN X0 hx (t := .boolean) hret (by simp) (B d19_17) hr
    · refine ⟨s₁, _, _, _, (some (.int 1)), X0, nofun, by decide, by decide, ?_, fun fs hr => ?_⟩
      · rw [e0]
        unfold Q24
        rw [show (own_lw i1) = (1 : Int32) from by unfold own_lw; rw [if_neg cc1, if_neg cc2]]
        exact ⟨rfl, N0, rfl⟩
      · refine sI X0 hx (B d19_0) rfl ?_
        refine X0.ldcInt hx hown (mvT hZ (w_7 hw)) (g := (mkF m 1 #[vi i1] [(.int i1)])) rfl (B d19_1) _ ?_
        refine XS.icmpNo X0.here hx rfl (B d19_3) rfl (flt cc1).1 ?_
        refine sI X0 hx (B d19_6) rfl ?_
        refine X0.ldcInt hx hown (mvT hZ (w_123 hw)) (g := (mkF m 7 #[vi i1] [(.int i1)])) rfl (B d19_7) _ ?_
        refine XS.icmpNo X0.here hx rfl (B d19_9) rfl (flt cc2).2.2.1 ?_
        refine sC X0 hx (B d19_12) ?_
        refine XS.goto X0.here hx rfl (pc0 := 13) (pc' := 17) rfl (B d19_13) (by decide) (by decide) ?_
        exact retN X0 hx (t := .boolean) hret (by simp) (B d19_17) hr
theorem w_87 {a0 Z} (hw : OW a0 Z) : Jvm.Cond.before (.code y_18 method_6_code 1 (some .boolean)) a0 Z := hw _ (mo 87 rfl)
theorem w_85 {a0 Z} (hw : OW a0 Z) : Jvm.Cond.before (.methodLink "com/example/sidwire/sidwire/cbor/CborWriterUnpairedSurrogatePinLaw" 44 y_18) a0 Z := hw _ (mo 85 rfl)
theorem w_86 {a0 Z} (hw : OW a0 Z) : Jvm.Cond.before (.static y_18) a0 Z := hw _ (mo 86 rfl)
theorem d6_46 : decode Kc6 46 = .ok (.ifCond .eq 24, 3) := by decide +kernel
theorem d6_70 : decode Kc6 70 = .ok (.iconst 0, 1) := by decide +kernel
theorem d6_71 : decode Kc6 71 = .ok (.ireturn, 1) := by decide +kernel
theorem d6_49 : decode Kc6 49 = .ok (.iload_n 2, 1) := by decide +kernel
theorem d6_50 : decode Kc6 50 = .ok (.ifCond .le 14, 3) := by decide +kernel
theorem d6_64 : decode Kc6 64 = .ok (.iconst 1, 1) := by decide +kernel
theorem d6_65 : decode Kc6 65 = .ok (.goto 4, 3) := by decide +kernel
theorem d6_69 : decode Kc6 69 = .ok (.ireturn, 1) := by decide +kernel
theorem d6_18 : decode Kc6 18 = .ok (.iload_n 2, 1) := by decide +kernel
theorem d6_19 : decode Kc6 19 = .ok (.iconst 1, 1) := by decide +kernel
theorem d6_20 : decode Kc6 20 = .ok (.iadd, 1) := by decide +kernel
theorem d6_21 : decode Kc6 21 = .ok (.iload_n 1, 1) := by decide +kernel
theorem d6_22 : decode Kc6 22 = .ok (.if_icmp .ge 14, 3) := by decide +kernel
theorem d6_36 : decode Kc6 36 = .ok (.iconst 1, 1) := by decide +kernel
theorem d6_37 : decode Kc6 37 = .ok (.goto 4, 3) := by decide +kernel
theorem d6_41 : decode Kc6 41 = .ok (.ireturn, 1) := by decide +kernel
def own_ln (v0 : Int32) : Int32 := (if (own_hi v0) = 0 then (if (own_lw v0) = 0 then (0 : Int32) else (1 : Int32)) else (1 : Int32))
abbrev Rm25 : Room := rmk 1 0 0 12
def Q25 (Z : State) (a1 : Addr) (i2 i3 : Int32) (u5 : List Value) (ck6 : ClassId) (i7 i10 : Int32) (h0 : Heap) (n0 : Nat) (v : Option Value) (h : Heap) (L : List Loc) : Prop := v = some (.int (own_ln i10)) ∧ Fr n0 L ∧ h = h0
theorem rm25 (l : Launch) (Z : State) {a0 : Array Value} (hw : OW a0 Z) (a1 : Addr) (i2 i3 : Int32) (u5 : List Value) (ck6 : ClassId) (i7 i10 : Int32) (h0 : Heap) (n0 : Nat) (Z0 : n0 ≤ h0.size) (c4 : i3 < i2) (V_a1 : Arv Z h0 a1 ck6 .char i7 u5 (.int 0)) (c8 : ¬ (i3 < 0)) (c9 : i3 < i7) (rd11 : u5.getD (i3).toNatClampNeg (.int 0) = (.int i10)) (c21 : ¬ (0 < i3)) (c25 : ¬ ((i3 + (1 : Int32)) < i2)) :
    OwnMet l Z y_5 method_7_code 4 (some .boolean) [] Rm25 #[(.ref a1), (.int i2), (.int i3)] h0 (Q25 Z a1 i2 i3 u5 ck6 i7 i10 h0 n0) := by
  refine own_body (plainFor_of_name pn_0) (ef_a4b94a a1 i2 i3) ?_
  intro p e s m below meth c s₁ hx hby hml hown hnm hret hZ X0 e0
  have N0 := Fr.nil n0
  have B := hbx hby
  obtain ⟨cl1, Ar1, q1, S1, M1, Hs1, G1⟩ := id V_a1
  have hin2 := inb_of (j := i3) S1 ⟨c8, c9⟩
  obtain ⟨_, T3, L3, X3, hQ3, st3⟩ := own_callS X0 hx hZ hown (y := y_17) (w_82 hw) (w_83 hw) (w_3 hw) (w_84 hw) (rm23 l Z hw i10 h0 n0 Z0) e0 (Ls := #[vr a1, vi i2, vi i3, vi i10]) hml.symm (argsL := [(.int i10)]) (rest := []) (lenOf pd_15 rfl) (B d6_12) (W := 0)
  obtain ⟨rfl, Nq3, e3⟩ := hQ3
  have N3 := Fr.app N0 Nq3
  by_cases cc1 : (own_hi i10) = 0
  · obtain ⟨_, T4, L4, X4, hQ4, st4⟩ := own_callS X3 hx hZ hown (y := y_18) (w_85 hw) (w_86 hw) (w_3 hw) (w_87 hw) (rm24 l Z hw i10 h0 n0 Z0) e3 (Ls := #[vr a1, vi i2, vi i3, vi i10]) hml.symm (argsL := [(.int i10)]) (rest := []) (lenOf pd_15 rfl) (B d6_43) (W := 0)
    obtain ⟨rfl, Nq4, e4⟩ := hQ4
    have N4 := Fr.app N3 Nq4
    by_cases cc2 : (own_lw i10) = 0
    · refine ⟨T4, _, _, _, (some (.int 0)), X4, nofun, by decide, by decide, ?_, fun fs hr => ?_⟩
      · rw [e4]
        unfold Q25
        rw [show (own_ln i10) = (0 : Int32) from by unfold own_ln; rw [if_pos cc1, if_pos cc2]]
        exact ⟨rfl, N4, rfl⟩
      · refine sI X0 hx (B d6_0) rfl ?_
        refine sI X0 hx (B d6_1) rfl ?_
        refine XS.icmpYes X0.here hx rfl (pc0 := 2) (pc' := 7) rfl (B d6_2) rfl (tlt c4).1 (by decide) (by decide) ?_
        refine sA X0 hx (B d6_7) rfl rfl ?_
        refine sI X0 hx (B d6_8) rfl ?_
        refine X0.caload hx (j := i3) (v := (.int i10)) (by rw [e0]; exact Ar1.1) (State.isArrayOf_alike hZ.alike Ar1.2.1) Ar1.2.2 hin2 (Has.at Hs1 hin2 rd11) (g := (mkF m 9 #[vr a1, vi i2, vi i3, un] [(.int i3), (.ref a1)])) rfl rfl (B d6_9) _ ?_
        refine XS.istoreN X0.here hx rfl (B d6_10) rfl (l' := #[vr a1, vi i2, vi i3, vi i10]) rfl ?_
        refine sI X0 hx (B d6_11) rfl ?_
        refine st3 _ ?_
        refine XS.ifYes X3.here hx rfl (pc0 := 15) (pc' := 42) rfl (B d6_15) rfl ((if0 _ _).trans (teq cc1).1) (by decide) (by decide) ?_
        refine sI X3 hx (B d6_42) rfl ?_
        refine st4 _ ?_
        refine XS.ifYes X4.here hx rfl (pc0 := 46) (pc' := 70) rfl (B d6_46) rfl ((if0 _ _).trans (teq cc2).1) (by decide) (by decide) ?_
        refine sC X4 hx (B d6_70) ?_
        exact retN X4 hx (t := .boolean) hret (by simp) (B d6_71) hr
    · refine ⟨T4, _, _, _, (some (.int 1)), X4, nofun, by decide, by decide, ?_, fun fs hr => ?_⟩
      · rw [e4]
        unfold Q25
        rw [show (own_ln i10) = (1 : Int32) from by unfold own_ln; rw [if_pos cc1, if_neg cc2]]
        exact ⟨rfl, N4, rfl⟩
      · refine sI X0 hx (B d6_0) rfl ?_
        refine sI X0 hx (B d6_1) rfl ?_
        refine XS.icmpYes X0.here hx rfl (pc0 := 2) (pc' := 7) rfl (B d6_2) rfl (tlt c4).1 (by decide) (by decide) ?_
        refine sA X0 hx (B d6_7) rfl rfl ?_
        refine sI X0 hx (B d6_8) rfl ?_
        refine X0.caload hx (j := i3) (v := (.int i10)) (by rw [e0]; exact Ar1.1) (State.isArrayOf_alike hZ.alike Ar1.2.1) Ar1.2.2 hin2 (Has.at Hs1 hin2 rd11) (g := (mkF m 9 #[vr a1, vi i2, vi i3, un] [(.int i3), (.ref a1)])) rfl rfl (B d6_9) _ ?_
        refine XS.istoreN X0.here hx rfl (B d6_10) rfl (l' := #[vr a1, vi i2, vi i3, vi i10]) rfl ?_
        refine sI X0 hx (B d6_11) rfl ?_
        refine st3 _ ?_
        refine XS.ifYes X3.here hx rfl (pc0 := 15) (pc' := 42) rfl (B d6_15) rfl ((if0 _ _).trans (teq cc1).1) (by decide) (by decide) ?_
        refine sI X3 hx (B d6_42) rfl ?_
        refine st4 _ ?_
        refine XS.ifNo X4.here hx rfl (B d6_46) rfl ((if0 _ _).trans (feq cc2).1) ?_
        refine sI X4 hx (B d6_49) rfl ?_
        refine XS.ifYes X4.here hx rfl (pc0 := 50) (pc' := 64) rfl (B d6_50) rfl ((if0 _ _).trans (flt c21).2.2.2) (by decide) (by decide) ?_
        refine sC X4 hx (B d6_64) ?_
        refine XS.goto X4.here hx rfl (pc0 := 65) (pc' := 69) rfl (B d6_65) (by decide) (by decide) ?_
        exact retN X4 hx (t := .boolean) hret (by simp) (B d6_69) hr
  · refine ⟨T3, _, _, _, (some (.int 1)), X3, nofun, by decide, by decide, ?_, fun fs hr => ?_⟩
    · rw [e3]
      unfold Q25
      rw [show (own_ln i10) = (1 : Int32) from by unfold own_ln; rw [if_neg cc1]]
      exact ⟨rfl, N3, rfl⟩
    · refine sI X0 hx (B d6_0) rfl ?_
      refine sI X0 hx (B d6_1) rfl ?_
      refine XS.icmpYes X0.here hx rfl (pc0 := 2) (pc' := 7) rfl (B d6_2) rfl (tlt c4).1 (by decide) (by decide) ?_
      refine sA X0 hx (B d6_7) rfl rfl ?_
      refine sI X0 hx (B d6_8) rfl ?_
      refine X0.caload hx (j := i3) (v := (.int i10)) (by rw [e0]; exact Ar1.1) (State.isArrayOf_alike hZ.alike Ar1.2.1) Ar1.2.2 hin2 (Has.at Hs1 hin2 rd11) (g := (mkF m 9 #[vr a1, vi i2, vi i3, un] [(.int i3), (.ref a1)])) rfl rfl (B d6_9) _ ?_
      refine XS.istoreN X0.here hx rfl (B d6_10) rfl (l' := #[vr a1, vi i2, vi i3, vi i10]) rfl ?_
      refine sI X0 hx (B d6_11) rfl ?_
      refine st3 _ ?_
      refine XS.ifNo X3.here hx rfl (B d6_15) rfl ((if0 _ _).trans (feq cc1).1) ?_
      refine sI X3 hx (B d6_18) rfl ?_
      refine sC X3 hx (B d6_19) ?_
      refine XS.iadd X3.here hx rfl (B d6_20) rfl ?_
      refine sI X3 hx (B d6_21) rfl ?_
      refine XS.icmpYes X3.here hx rfl (pc0 := 22) (pc' := 36) rfl (B d6_22) rfl (flt c25).2.1 (by decide) (by decide) ?_
      refine sC X3 hx (B d6_36) ?_
      refine XS.goto X3.here hx rfl (pc0 := 37) (pc' := 41) rfl (B d6_37) (by decide) (by decide) ?_
      exact retN X3 hx (t := .boolean) hret (by simp) (B d6_41) hr
def own_ex (v0 : Int32) : Int32 := (if (own_ln v0) = 0 then (-1 : Int32) else (0 : Int32))
theorem tn26 (l : Launch) (Z : State) {a0 : Array Value} (hw : OW a0 Z) (i1 i2 i3 i4 i5 i6 i7 i8 i9 : Int32) (a10 a11 : Addr) (i12 i13 i14 i15 : Int32) (ck16 : ClassId) (h0 : Heap) (n0 : Nat) (Z0 : n0 ≤ h0.size) (V_a11 : Arv Z h0 a11 ck16 .char 4 [(.int i12), (.int i13), (.int i14), (.int i15)] (.int 0)) {p : Program} {e : Env} {s : State} {m : MethodId} {args : Array Value} {below : List Frame} {meth : Method} {c : Code} {s₁ : State} {L0 : List Loc} {ce sl : Nat} (hx : p.tables.exec = Jvm.exec) (hby : c.code = code) (hml : c.maxLocals = maxLocals) (hown : s.vm.findClass "com/example/sidwire/sidwire/cbor/CborWriterUnpairedSurrogatePinLaw" = some m.cls) (hZ : Z.Warmed39 s.vm) (X0 : Stand p l e room_1 s m args below meth c s₁ L0 ce sl) (e0 : s₁.heap = h0) (N0 : Fr n0 L0) (hce : ce ≤ room_1.cells) (hsl : sl ≤ room_1.slots) :
    ∃ (T : State) (L : List Loc), Stand p l e room_1 s m args below meth c T L ce sl ∧ T.heap = h0 ∧ Fr n0 L ∧ ∀ target, Steps p.tables e below (T.setTop (mkF m 144 #[vi i1, vi i2, vi i3, vi i4, vi i5, vi 1, vi i6, vi i7, vi i8, vi i9, vr a10, vr a11, vi (own_ex i12)] [])) target → Steps p.tables e below (s₁.setTop (mkF m 73 #[vi i1, vi i2, vi i3, vi i4, vi i5, vi 1, vi i6, vi i7, vi i8, vi i9, vr a10, vr a11, un] [])) target := by
  have B := hbx hby
  obtain ⟨_, T1, L1, X1, hQ1, st1⟩ := own_callS X0 hx hZ hown (y := y_5) (w_34 hw) (w_35 hw) (w_3 hw) (w_36 hw) (rm25 l Z hw a11 (1 : Int32) (0 : Int32) [(.int i12), (.int i13), (.int i14), (.int i15)] ck16 (4 : Int32) i12 h0 n0 Z0 (by decide) V_a11 (by decide) (by decide) rfl (by decide) (by decide)) e0 (Ls := #[vi i1, vi i2, vi i3, vi i4, vi i5, vi 1, vi i6, vi i7, vi i8, vi i9, vr a10, vr a11, un]) hml.symm (argsL := [(.ref a11), (.int 1), (.int 0)]) (rest := []) (lenOf pd_4 rfl) (B at_78) (W := 0) (hc := hce) (hs := hsl)
  obtain ⟨rfl, Nq1, e1⟩ := hQ1
  have N1 := Fr.app N0 Nq1
  by_cases cc1 : (own_ln i12) = 0
  · obtain ⟨_, T2, L2, X2, hQ2, st2⟩ := own_callS X1 hx hZ hown (y := y_5) (w_34 hw) (w_35 hw) (w_3 hw) (w_36 hw) (rm5 l Z hw a11 (1 : Int32) (1 : Int32) h0 n0 Z0 (by decide)) e1 (Ls := #[vi i1, vi i2, vi i3, vi i4, vi i5, vi 1, vi i6, vi i7, vi i8, vi i9, vr a10, vr a11, un]) hml.symm (argsL := [(.ref a11), (.int 1), (.int 1)]) (rest := []) (lenOf pd_4 rfl) (B at_95) (W := 0) (hc := hce) (hs := hsl)
    obtain ⟨rfl, Nq2, e2⟩ := hQ2
    have N2 := Fr.app N1 Nq2
    obtain ⟨_, T3, L3, X3, hQ3, st3⟩ := own_callS X2 hx hZ hown (y := y_5) (w_34 hw) (w_35 hw) (w_3 hw) (w_36 hw) (rm5 l Z hw a11 (1 : Int32) (2 : Int32) h0 n0 Z0 (by decide)) e2 (Ls := #[vi i1, vi i2, vi i3, vi i4, vi i5, vi 1, vi i6, vi i7, vi i8, vi i9, vr a10, vr a11, un]) hml.symm (argsL := [(.ref a11), (.int 1), (.int 2)]) (rest := []) (lenOf pd_4 rfl) (B at_112) (W := 0) (hc := hce) (hs := hsl)
    obtain ⟨rfl, Nq3, e3⟩ := hQ3
    have N3 := Fr.app N2 Nq3
    obtain ⟨_, T4, L4, X4, hQ4, st4⟩ := own_callS X3 hx hZ hown (y := y_5) (w_34 hw) (w_35 hw) (w_3 hw) (w_36 hw) (rm5 l Z hw a11 (1 : Int32) (3 : Int32) h0 n0 Z0 (by decide)) e3 (Ls := #[vi i1, vi i2, vi i3, vi i4, vi i5, vi 1, vi i6, vi i7, vi i8, vi i9, vr a10, vr a11, un]) hml.symm (argsL := [(.ref a11), (.int 1), (.int 3)]) (rest := []) (lenOf pd_4 rfl) (B at_129) (W := 0) (hc := hce) (hs := hsl)
    obtain ⟨rfl, Nq4, e4⟩ := hQ4
    have N4 := Fr.app N3 Nq4
    refine ⟨T4, _, X4, e4, N4, fun target hr => ?_⟩
    refine sB X0 hx (B at_73) rfl rfl ?_
    refine sJ X0 hx (B at_75) rfl ?_
    refine sC X0 hx (B at_77) ?_
    refine st1 _ ?_
    refine XS.ifYes X1.here hx rfl (pc0 := 81) (pc' := 90) rfl (B at_81) rfl ((if0 _ _).trans (teq cc1).1) (by decide) (by decide) ?_
    refine sB X1 hx (B at_90) rfl rfl ?_
    refine sJ X1 hx (B at_92) rfl ?_
    refine sC X1 hx (B at_94) ?_
    refine st2 _ ?_
    refine XS.ifYes X2.here hx rfl (pc0 := 98) (pc' := 107) rfl (B at_98) rfl ((if0 _ _).trans (teq (by decide : (0 : Int32) = (0 : Int32))).1) (by decide) (by decide) ?_
    refine sB X2 hx (B at_107) rfl rfl ?_
    refine sJ X2 hx (B at_109) rfl ?_
    refine sC X2 hx (B at_111) ?_
    refine st3 _ ?_
    refine XS.ifYes X3.here hx rfl (pc0 := 115) (pc' := 124) rfl (B at_115) rfl ((if0 _ _).trans (teq (by decide : (0 : Int32) = (0 : Int32))).1) (by decide) (by decide) ?_
    refine sB X3 hx (B at_124) rfl rfl ?_
    refine sJ X3 hx (B at_126) rfl ?_
    refine sC X3 hx (B at_128) ?_
    refine st4 _ ?_
    refine XS.ifYes X4.here hx rfl (pc0 := 132) (pc' := 141) rfl (B at_132) rfl ((if0 _ _).trans (teq (by decide : (0 : Int32) = (0 : Int32))).1) (by decide) (by decide) ?_
    refine sC X4 hx (B at_141) ?_
    refine XS.istore X4.here hx rfl (B at_142) rfl (l' := #[vi i1, vi i2, vi i3, vi i4, vi i5, vi 1, vi i6, vi i7, vi i8, vi i9, vr a10, vr a11, vi (-1)]) rfl ?_
    rw [show (own_ex i12) = (-1 : Int32) from by unfold own_ex; rw [if_pos cc1]] at hr
    exact hr
  · refine ⟨T1, _, X1, e1, N1, fun target hr => ?_⟩
    refine sB X0 hx (B at_73) rfl rfl ?_
    refine sJ X0 hx (B at_75) rfl ?_
    refine sC X0 hx (B at_77) ?_
    refine st1 _ ?_
    refine XS.ifNo X1.here hx rfl (B at_81) rfl ((if0 _ _).trans (feq cc1).1) ?_
    refine sC X1 hx (B at_84) ?_
    refine XS.istore X1.here hx rfl (B at_85) rfl (l' := #[vi i1, vi i2, vi i3, vi i4, vi i5, vi 1, vi i6, vi i7, vi i8, vi i9, vr a10, vr a11, vi 0]) rfl ?_
    refine XS.goto X1.here hx rfl (pc0 := 87) (pc' := 144) rfl (B at_87) (by decide) (by decide) ?_
    rw [show (own_ex i12) = (0 : Int32) from by unfold own_ex; rw [if_neg cc1]] at hr
    exact hr
abbrev Rm27 : Room := rmk 0 0 0 0
def Q27 (Z : State) (a1 : Addr) (i2 : Int32) (h0 : Heap) (n0 : Nat) (v : Option Value) (h : Heap) (L : List Loc) : Prop := v = some (.int 1) ∧ Fr n0 L ∧ h = h0
theorem rm27 (l : Launch) (Z : State) {a0 : Array Value} (hw : OW a0 Z) (a1 : Addr) (i2 : Int32) (h0 : Heap) (n0 : Nat) (Z0 : n0 ≤ h0.size) (S_COMPACT_STRINGS : Sta Z Z.heap "java/lang/String" "COMPACT_STRINGS" "Z" (.int i2)) (Od0 : Old Z n0 h0) (c3 : ¬ (i2 = 0)) (F_coder_a1 : Fld Z h0 a1 jS "coder" "B" (.int 1)) :
    OwnMet l Z y_6 jdk_42_method_152_code 1 (some .byte) [] Rm27 #[(.ref a1)] h0 (Q27 Z a1 i2 h0 n0) := by
  refine own_body (plainFor_of_name pn_1) (ef_26f21a a1) ?_
  intro p e s m below meth c s₁ hx hby hml hown hnm hret hZ X0 e0
  have N0 := Fr.nil n0
  have B := hbx hby
  obtain ⟨T1, X1, e1, st1⟩ := getS2 X0 hx hZ hown (host := "") (Or.inl (w_51 hw)) Via.refl e0 (S_COMPACT_STRINGS.ext Od0.2) (g := (mkF m 0 #[vr a1] [])) rfl (B d9_0)
  obtain ⟨T2, X2, e2, st2⟩ := getF X1 hx hZ hown (host := "") (Or.inl (w_33 hw)) Via.refl e1 F_coder_a1 (g := (mkF m 7 #[vr a1] [(.ref a1)])) rfl rfl (B d9_7)
  refine ⟨T2, _, _, _, (some (.int 1)), X2, nofun, by decide, by decide, ?_, fun fs hr => ?_⟩
  · rw [e2]
    exact ⟨rfl, N0, rfl⟩
  · refine st1 _ ?_
    refine XS.ifNo X1.here hx rfl (B d9_3) rfl ((if0 _ _).trans (feq c3).1) ?_
    refine sA X1 hx (B d9_6) rfl rfl ?_
    refine st2 _ ?_
    refine XS.goto X2.here hx rfl (pc0 := 10) (pc' := 14) rfl (B d9_10) (by decide) (by decide) ?_
    exact retN X2 hx (t := .byte) hret (by simp) (B d9_14) hr
abbrev Rm28 : Room := rmk 1 0 0 13
def Q28 (Z : State) (a1 a2 : Addr) (u3 : List Value) (ck4 : ClassId) (i5 i6 : Int32) (h0 : Heap) (n0 : Nat) (v : Option Value) (h : Heap) (L : List Loc) : Prop := v = some (.int (i5 >>> ((1 : Int32) &&& 31))) ∧ Fr n0 L ∧ h = h0
theorem rm28 (l : Launch) (Z : State) {a0 : Array Value} (hw : OW a0 Z) (a1 a2 : Addr) (u3 : List Value) (ck4 : ClassId) (i5 i6 : Int32) (h0 : Heap) (n0 : Nat) (Z0 : n0 ≤ h0.size) (F_value_a1 : Fld Z h0 a1 jS "value" "[B" (.ref a2)) (V_a2 : Arv Z h0 a2 ck4 .byte i5 u3 (.int 0)) (E_a1 : Exa Z h0 a1 jS) (S_COMPACT_STRINGS : Sta Z Z.heap "java/lang/String" "COMPACT_STRINGS" "Z" (.int i6)) (Od0 : Old Z n0 h0) (c7 : ¬ (i6 = 0)) (F_coder_a1 : Fld Z h0 a1 jS "coder" "B" (.int 1)) :
    OwnMet l Z y_7 jdk_42_method_54_code 1 (some .int) [] Rm28 #[(.ref a1)] h0 (Q28 Z a1 a2 u3 ck4 i5 i6 h0 n0) := by
  refine own_body (plainFor_of_name pn_1) (ef_26f21a a1) ?_
  intro p e s m below meth c s₁ hx hby hml hown hnm hret hZ X0 e0
  have N0 := Fr.nil n0
  have B := hbx hby
  obtain ⟨T1, X1, e1, st1⟩ := getF X0 hx hZ hown (host := "") (Or.inl (w_32 hw)) Via.refl e0 F_value_a1 (g := (mkF m 1 #[vr a1] [(.ref a1)])) rfl rfl (B d8_1)
  obtain ⟨cl2, Ar2, q2, S2, M2, Hs2, G2⟩ := id V_a2
  obtain ⟨_, T3, L3, X3, hQ3, st3⟩ := own_virtual X1 hx hZ hown (y := y_6) (z := y_6) E_a1 (w_46 hw) (w_47 hw) (own_nf hZ (w_49 hw)) (w_49 hw) (w_48 hw) (w_14 hw) (w_50 hw) (rm27 l Z hw a1 i6 h0 n0 Z0 S_COMPACT_STRINGS Od0 c7 F_coder_a1) e1 (Ls := #[vr a1]) hml.symm (argsL := []) (rest := [(.int i5)]) (lenOf pd_5 rfl) (B d8_6) (W := 1)
  obtain ⟨rfl, Nq3, e3⟩ := hQ3
  have N3 := Fr.app N0 Nq3
  refine ⟨T3, _, _, _, (some (.int (i5 >>> ((1 : Int32) &&& 31)))), X3, nofun, by decide, by decide, ?_, fun fs hr => ?_⟩
  · rw [e3]
    exact ⟨rfl, N3, rfl⟩
  · refine sA X0 hx (B d8_0) rfl rfl ?_
    refine st1 _ ?_
    refine X1.arraylength hx (by rw [e1]; exact Ar2.1) (State.isArrayOf_alike hZ.alike Ar2.2.1) (g := (mkF m 4 #[vr a1] [(.ref a2)])) rfl rfl (B d8_4) _ ?_
    show Steps p.tables e below (T1.setTop (mkF m 5 #[vr a1] [(.int cl2.slots.size.toInt32)])) _
    rw [len_of S2 M2]
    refine sA X1 hx (B d8_5) rfl rfl ?_
    refine st3 _ ?_
    refine XS.ishr X3.here hx rfl (B d8_9) rfl ?_
    exact retI X3 hx hret (B d8_10) hr
theorem d7_10 : decode Kc7 10 = .ok (.aload_n 0, 1) := by decide +kernel
theorem d7_11 : decode Kc7 11 = .ok (.iload_n 1, 1) := by decide +kernel
theorem d7_12 : decode Kc7 12 = .ok (.invokevirtual 151, 3) := by decide +kernel
abbrev Kc20 := jdk_42_method_57_code
theorem d20_0 : decode Kc20 0 = .ok (.aload_n 0, 1) := by decide +kernel
theorem d20_1 : decode Kc20 1 = .ok (.invokevirtual 492, 3) := by decide +kernel
abbrev Kc21 := jdk_42_method_154_code
theorem d21_0 : decode Kc21 0 = .ok (.getstatic 38, 3) := by decide +kernel
theorem d21_3 : decode Kc21 3 = .ok (.ifCond .eq 14, 3) := by decide +kernel
theorem d21_6 : decode Kc21 6 = .ok (.aload_n 0, 1) := by decide +kernel
theorem d21_7 : decode Kc21 7 = .ok (.getfield 15, 3) := by decide +kernel
theorem d21_10 : decode Kc21 10 = .ok (.ifCond .ne 7, 3) := by decide +kernel
theorem d21_17 : decode Kc21 17 = .ok (.iconst 0, 1) := by decide +kernel
theorem d21_18 : decode Kc21 18 = .ok (.ireturn, 1) := by decide +kernel
abbrev y_19 : MethodName := ⟨"java/lang/String", "isLatin1", "()Z"⟩
abbrev Rm29 : Room := rmk 0 0 0 0
def Q29 (Z : State) (a1 : Addr) (i2 : Int32) (h0 : Heap) (n0 : Nat) (v : Option Value) (h : Heap) (L : List Loc) : Prop := v = some (.int 0) ∧ Fr n0 L ∧ h = h0
theorem rm29 (l : Launch) (Z : State) {a0 : Array Value} (hw : OW a0 Z) (a1 : Addr) (i2 : Int32) (h0 : Heap) (n0 : Nat) (Z0 : n0 ≤ h0.size) (S_COMPACT_STRINGS : Sta Z Z.heap "java/lang/String" "COMPACT_STRINGS" "Z" (.int i2)) (Od0 : Old Z n0 h0) (c3 : ¬ (i2 = 0)) (F_coder_a1 : Fld Z h0 a1 jS "coder" "B" (.int 1)) :
    OwnMet l Z y_19 jdk_42_method_154_code 1 (some .boolean) [] Rm29 #[(.ref a1)] h0 (Q29 Z a1 i2 h0 n0) := by
  refine own_body (plainFor_of_name pn_1) (ef_26f21a a1) ?_
  intro p e s m below meth c s₁ hx hby hml hown hnm hret hZ X0 e0
  have N0 := Fr.nil n0
  have B := hbx hby
  obtain ⟨T1, X1, e1, st1⟩ := getS2 X0 hx hZ hown (host := "") (Or.inl (w_51 hw)) Via.refl e0 (S_COMPACT_STRINGS.ext Od0.2) (g := (mkF m 0 #[vr a1] [])) rfl (B d21_0)
  obtain ⟨T2, X2, e2, st2⟩ := getF X1 hx hZ hown (host := "") (Or.inl (w_33 hw)) Via.refl e1 F_coder_a1 (g := (mkF m 7 #[vr a1] [(.ref a1)])) rfl rfl (B d21_7)
  refine ⟨T2, _, _, _, (some (.int 0)), X2, nofun, by decide, by decide, ?_, fun fs hr => ?_⟩
  · rw [e2]
    exact ⟨rfl, N0, rfl⟩
  · refine st1 _ ?_
    refine XS.ifNo X1.here hx rfl (B d21_3) rfl ((if0 _ _).trans (feq c3).1) ?_
    refine sA X1 hx (B d21_6) rfl rfl ?_
    refine st2 _ ?_
    refine XS.ifYes X2.here hx rfl (pc0 := 10) (pc' := 17) rfl (B d21_10) rfl ((if0 _ _).trans (feq (by decide : ¬ ((1 : Int32) = (0 : Int32)))).2) (by decide) (by decide) ?_
    refine sC X2 hx (B d21_17) ?_
    exact retN X2 hx (t := .boolean) hret (by simp) (B d21_18) hr
theorem pd_16 : parseMethodDescriptor "()Z" = some ⟨[], some .boolean⟩ := by decide +kernel
theorem w_97 {a0 Z} (hw : OW a0 Z) : Jvm.Cond.before (.code y_19 jdk_42_method_154_code 1 (some .boolean)) a0 Z := hw _ (mo 97 rfl)
theorem w_93 {a0 Z} (hw : OW a0 Z) : Jvm.Cond.before (.methodLink "java/lang/String" 492 y_19) a0 Z := hw _ (mo 93 rfl)
theorem w_96 {a0 Z} (hw : OW a0 Z) : Jvm.Cond.before (.selects "java/lang/String" y_19 y_19) a0 Z := hw _ (mo 96 rfl)
theorem w_94 {a0 Z} (hw : OW a0 Z) : Jvm.Cond.before (.declares y_19) a0 Z := hw _ (mo 94 rfl)
theorem w_95 {a0 Z} (hw : OW a0 Z) : Jvm.Cond.before (.instanceMethod y_19) a0 Z := hw _ (mo 95 rfl)
theorem d20_4 : decode Kc20 4 = .ok (.ifCond .eq 23, 3) := by decide +kernel
theorem d20_27 : decode Kc20 27 = .ok (.aload_n 0, 1) := by decide +kernel
theorem d20_28 : decode Kc20 28 = .ok (.getfield 9, 3) := by decide +kernel
theorem d20_31 : decode Kc20 31 = .ok (.arraylength, 1) := by decide +kernel
theorem d20_32 : decode Kc20 32 = .ok (.iconst 1, 1) := by decide +kernel
theorem d20_33 : decode Kc20 33 = .ok (.ishr, 1) := by decide +kernel
theorem d20_34 : decode Kc20 34 = .ok (.istore_n 2, 1) := by decide +kernel
theorem d20_35 : decode Kc20 35 = .ok (.iload_n 1, 1) := by decide +kernel
theorem d20_36 : decode Kc20 36 = .ok (.iload_n 2, 1) := by decide +kernel
theorem d20_37 : decode Kc20 37 = .ok (.invokestatic 499, 3) := by decide +kernel
abbrev Kc22 := jdk_42_method_155_code
theorem d22_0 : decode Kc22 0 = .ok (.iload_n 0, 1) := by decide +kernel
theorem d22_1 : decode Kc22 1 = .ok (.iload_n 1, 1) := by decide +kernel
theorem d22_2 : decode Kc22 2 = .ok (.getstatic 1053, 3) := by decide +kernel
theorem w_101 {a0 Z} (hw : OW a0 Z) : Jvm.Cond.before (.fieldLink "java/lang/String" 1053 "jdk/internal/util/Preconditions" "SIOOBE_FORMATTER" "Ljava/util/function/BiFunction;") a0 Z := hw _ (mo 101 rfl)
theorem d22_5 : decode Kc22 5 = .ok (.invokestatic 1059, 3) := by decide +kernel
abbrev Kc23 := jdk_41_method_11_code
theorem d23_0 : decode Kc23 0 = .ok (.iload_n 0, 1) := by decide +kernel
theorem d23_1 : decode Kc23 1 = .ok (.ifCond .lt 8, 3) := by decide +kernel
theorem d23_4 : decode Kc23 4 = .ok (.iload_n 0, 1) := by decide +kernel
theorem d23_5 : decode Kc23 5 = .ok (.iload_n 1, 1) := by decide +kernel
theorem d23_6 : decode Kc23 6 = .ok (.if_icmp .lt 10, 3) := by decide +kernel
theorem d23_16 : decode Kc23 16 = .ok (.iload_n 0, 1) := by decide +kernel
theorem d23_17 : decode Kc23 17 = .ok (.ireturn, 1) := by decide +kernel
theorem ef_12ebb8 (i1 : Int32) (i2 : Int32) (r3 : Value) (R_r3 : r3.isRef = true) (m : MethodId) : entryFrame m #[(.int i1), (.int i2), r3] 3 = mkF m 0 #[.val (.int i1), .val (.int i2), .val r3] [] := by rcases ref_cases R_r3 with rfl | ⟨_, rfl⟩ <;> first | rfl | (simp [entryFrame, mkF, argsToLocals, Value.category]; done)
abbrev y_20 : MethodName := ⟨"jdk/internal/util/Preconditions", "checkIndex", "(IILjava/util/function/BiFunction;)I"⟩
theorem pn_4 : plainName "jdk/internal/util/Preconditions" = true := by first | (simp [plainName, overriddenIn]; done) | decide +kernel
abbrev Rm30 : Room := rmk 0 0 0 0
def Q30 (Z : State) (i1 i2 : Int32) (r3 : Value) (h0 : Heap) (n0 : Nat) (v : Option Value) (h : Heap) (L : List Loc) : Prop := v = some (.int i1) ∧ Fr n0 L ∧ h = h0
theorem rm30 (l : Launch) (Z : State) {a0 : Array Value} (hw : OW a0 Z) (i1 i2 : Int32) (r3 : Value) (h0 : Heap) (n0 : Nat) (Z0 : n0 ≤ h0.size) (R_r3 : r3.isRef = true) (c4 : ¬ (i1 < 0)) (c5 : i1 < i2) :
    OwnMet l Z y_20 jdk_41_method_11_code 3 (some .int) [] Rm30 #[(.int i1), (.int i2), r3] h0 (Q30 Z i1 i2 r3 h0 n0) := by
  refine own_body (plainFor_of_name pn_4) (ef_12ebb8 i1 i2 r3 R_r3) ?_
  intro p e s m below meth c s₁ hx hby hml hown hnm hret hZ X0 e0
  have N0 := Fr.nil n0
  have B := hbx hby
  refine ⟨s₁, _, _, _, (some (.int i1)), X0, nofun, by decide, by decide, ?_, fun fs hr => ?_⟩
  · rw [e0]
    exact ⟨rfl, N0, rfl⟩
  · refine sI X0 hx (B d23_0) rfl ?_
    refine XS.ifNo X0.here hx rfl (B d23_1) rfl ((if0 _ _).trans (flt c4).1) ?_
    refine sI X0 hx (B d23_4) rfl ?_
    refine sI X0 hx (B d23_5) rfl ?_
    refine XS.icmpYes X0.here hx rfl (pc0 := 6) (pc' := 16) rfl (B d23_6) rfl (tlt c5).1 (by decide) (by decide) ?_
    refine sI X0 hx (B d23_16) rfl ?_
    exact retI X0 hx hret (B d23_17) hr
theorem pd_17 : parseMethodDescriptor "(IILjava/util/function/BiFunction;)I" = some ⟨[.int, .int, (.object "java/util/function/BiFunction")], some .int⟩ := by decide +kernel
theorem w_102 {a0 Z} (hw : OW a0 Z) : Jvm.Cond.before (.initialized "jdk/internal/util/Preconditions") a0 Z := hw _ (mo 102 rfl)
theorem w_105 {a0 Z} (hw : OW a0 Z) : Jvm.Cond.before (.code y_20 jdk_41_method_11_code 3 (some .int)) a0 Z := hw _ (mo 105 rfl)
theorem w_103 {a0 Z} (hw : OW a0 Z) : Jvm.Cond.before (.methodLink "java/lang/String" 1059 y_20) a0 Z := hw _ (mo 103 rfl)
theorem w_104 {a0 Z} (hw : OW a0 Z) : Jvm.Cond.before (.static y_20) a0 Z := hw _ (mo 104 rfl)
theorem d22_8 : decode Kc22 8 = .ok (.pop, 1) := by decide +kernel
theorem d22_9 : decode Kc22 9 = .ok (.return_, 1) := by decide +kernel
theorem ef_710b0e (i1 : Int32) (i2 : Int32) (m : MethodId) : entryFrame m #[(.int i1), (.int i2)] 2 = mkF m 0 #[.val (.int i1), .val (.int i2)] [] := by first | (simp [entryFrame, mkF, argsToLocals, Value.category]; done) | rfl
abbrev y_21 : MethodName := ⟨"java/lang/String", "checkIndex", "(II)V"⟩
abbrev Rm31 : Room := rmk 1 0 0 14
def Q31 (Z : State) (i1 i2 : Int32) (r3 : Value) (h0 : Heap) (n0 : Nat) (v : Option Value) (h : Heap) (L : List Loc) : Prop := v = none ∧ Fr n0 L ∧ h = h0
theorem rm31 (l : Launch) (Z : State) {a0 : Array Value} (hw : OW a0 Z) (i1 i2 : Int32) (r3 : Value) (h0 : Heap) (n0 : Nat) (Z0 : n0 ≤ h0.size) (R_r3 : r3.isRef = true) (S_SIOOBE_FORMATTER : Sta Z Z.heap "jdk/internal/util/Preconditions" "SIOOBE_FORMATTER" "Ljava/util/function/BiFunction;" r3) (Od0 : Old Z n0 h0) (c4 : ¬ (i1 < 0)) (c5 : i1 < i2) :
    OwnMet l Z y_21 jdk_42_method_155_code 2 none [] Rm31 #[(.int i1), (.int i2)] h0 (Q31 Z i1 i2 r3 h0 n0) := by
  refine own_body (plainFor_of_name pn_1) (ef_710b0e i1 i2) ?_
  intro p e s m below meth c s₁ hx hby hml hown hnm hret hZ X0 e0
  have N0 := Fr.nil n0
  have B := hbx hby
  obtain ⟨T1, X1, e1, st1⟩ := getS2 X0 hx hZ hown (host := "") (Or.inl (w_101 hw)) Via.refl e0 (S_SIOOBE_FORMATTER.ext Od0.2) (g := (mkF m 2 #[vi i1, vi i2] [(.int i2), (.int i1)])) rfl (B d22_2)
  obtain ⟨_, T2, L2, X2, hQ2, st2⟩ := own_callS X1 hx hZ hown (y := y_20) (w_103 hw) (w_104 hw) (w_102 hw) (w_105 hw) (rm30 l Z hw i1 i2 r3 h0 n0 Z0 R_r3 c4 c5) e1 (Ls := #[vi i1, vi i2]) hml.symm (argsL := [(.int i1), (.int i2), r3]) (rest := []) (lenOf pd_17 rfl) (B d22_5) (W := 0)
  obtain ⟨rfl, Nq2, e2⟩ := hQ2
  have N2 := Fr.app N0 Nq2
  refine ⟨T2, _, _, _, none, X2, (fun _ => rfl), by decide, by decide, ?_, fun fs hr => ?_⟩
  · rw [e2]
    exact ⟨rfl, N2, rfl⟩
  · refine sI X0 hx (B d22_0) rfl ?_
    refine sI X0 hx (B d22_1) rfl ?_
    refine st1 _ ?_
    refine st2 _ ?_
    refine XS.pop X2.here hx rfl (B d22_8) rfl rfl ?_
    exact X2.returnOut hx hret (B d22_9) hr
theorem pd_18 : parseMethodDescriptor "(II)V" = some ⟨[.int, .int], none⟩ := by decide +kernel
theorem w_100 {a0 Z} (hw : OW a0 Z) : Jvm.Cond.before (.code y_21 jdk_42_method_155_code 2 none) a0 Z := hw _ (mo 100 rfl)
theorem w_98 {a0 Z} (hw : OW a0 Z) : Jvm.Cond.before (.methodLink "java/lang/String" 499 y_21) a0 Z := hw _ (mo 98 rfl)
theorem w_99 {a0 Z} (hw : OW a0 Z) : Jvm.Cond.before (.static y_21) a0 Z := hw _ (mo 99 rfl)
theorem d20_40 : decode Kc20 40 = .ok (.aload_n 0, 1) := by decide +kernel
theorem d20_41 : decode Kc20 41 = .ok (.getfield 9, 3) := by decide +kernel
theorem d20_44 : decode Kc20 44 = .ok (.iload_n 1, 1) := by decide +kernel
theorem d20_45 : decode Kc20 45 = .ok (.iload_n 2, 1) := by decide +kernel
theorem d20_46 : decode Kc20 46 = .ok (.invokestatic 502, 3) := by decide +kernel
abbrev Kc24 := jdk_52_method_8_code
theorem d24_0 : decode Kc24 0 = .ok (.aload_n 0, 1) := by decide +kernel
theorem d24_1 : decode Kc24 1 = .ok (.iload_n 1, 1) := by decide +kernel
theorem d24_2 : decode Kc24 2 = .ok (.iload_n 2, 1) := by decide +kernel
theorem d24_3 : decode Kc24 3 = .ok (.iconst 0, 1) := by decide +kernel
theorem d24_4 : decode Kc24 4 = .ok (.invokestatic 88, 3) := by decide +kernel
abbrev Kc25 := jdk_52_method_7_code
theorem d25_0 : decode Kc25 0 = .ok (.getstatic 44, 3) := by decide +kernel
theorem d25_3 : decode Kc25 3 = .ok (.ifCond .ne 16, 3) := by decide +kernel
theorem d25_19 : decode Kc25 19 = .ok (.iload_n 3, 1) := by decide +kernel
theorem d25_20 : decode Kc25 20 = .ok (.ifCond .eq 8, 3) := by decide +kernel
theorem d25_28 : decode Kc25 28 = .ok (.aload_n 0, 1) := by decide +kernel
theorem d25_29 : decode Kc25 29 = .ok (.iload_n 1, 1) := by decide +kernel
theorem d25_30 : decode Kc25 30 = .ok (.invokestatic 71, 3) := by decide +kernel
theorem d25_33 : decode Kc25 33 = .ok (.istore 4, 2) := by decide +kernel
theorem d25_35 : decode Kc25 35 = .ok (.iload 4, 2) := by decide +kernel
theorem d25_37 : decode Kc25 37 = .ok (.invokestatic 75, 3) := by decide +kernel
abbrev Kc26 := jdk_89_method_14_code
theorem d26_0 : decode Kc26 0 = .ok (.iload_n 0, 1) := by decide +kernel
theorem d26_1 : decode Kc26 1 = .ok (.ldc 75, 2) := by decide +kernel
theorem w_116 {a0 Z} (hw : OW a0 Z) : Jvm.Cond.before (.constant "java/lang/Character" 75 (55296 : Int32)) a0 Z := hw _ (mo 116 rfl)
theorem d26_3 : decode Kc26 3 = .ok (.if_icmp .lt 13, 3) := by decide +kernel
theorem d26_16 : decode Kc26 16 = .ok (.iconst 0, 1) := by decide +kernel
theorem d26_17 : decode Kc26 17 = .ok (.ireturn, 1) := by decide +kernel
theorem d26_6 : decode Kc26 6 = .ok (.iload_n 0, 1) := by decide +kernel
theorem d26_7 : decode Kc26 7 = .ok (.ldc 76, 2) := by decide +kernel
theorem w_124 {a0 Z} (hw : OW a0 Z) : Jvm.Cond.before (.constant "java/lang/Character" 76 (56320 : Int32)) a0 Z := hw _ (mo 124 rfl)
theorem d26_9 : decode Kc26 9 = .ok (.if_icmp .ge 7, 3) := by decide +kernel
theorem d26_12 : decode Kc26 12 = .ok (.iconst 1, 1) := by decide +kernel
theorem d26_13 : decode Kc26 13 = .ok (.goto 4, 3) := by decide +kernel
def own_ih (v0 : Int32) : Int32 := (if v0 < 55296 then (0 : Int32) else (if v0 < 56320 then (1 : Int32) else (0 : Int32)))
abbrev y_22 : MethodName := ⟨"java/lang/Character", "isHighSurrogate", "(C)Z"⟩
theorem pn_5 : plainName "java/lang/Character" = true := by first | (simp [plainName, overriddenIn]; done) | decide +kernel
abbrev Rm32 : Room := rmk 0 0 0 0
def Q32 (Z : State) (i1 : Int32) (h0 : Heap) (n0 : Nat) (v : Option Value) (h : Heap) (L : List Loc) : Prop := v = some (.int (own_ih i1)) ∧ Fr n0 L ∧ h = h0
theorem rm32 (l : Launch) (Z : State) {a0 : Array Value} (hw : OW a0 Z) (i1 : Int32) (h0 : Heap) (n0 : Nat) (Z0 : n0 ≤ h0.size) :
    OwnMet l Z y_22 jdk_89_method_14_code 1 (some .boolean) [] Rm32 #[(.int i1)] h0 (Q32 Z i1 h0 n0) := by
  refine own_body (plainFor_of_name pn_5) (ef_53da61 i1) ?_
  intro p e s m below meth c s₁ hx hby hml hown hnm hret hZ X0 e0
  have N0 := Fr.nil n0
  have B := hbx hby
  by_cases cc1 : i1 < 55296
  · refine ⟨s₁, _, _, _, (some (.int 0)), X0, nofun, by decide, by decide, ?_, fun fs hr => ?_⟩
    · rw [e0]
      unfold Q32
      rw [show (own_ih i1) = (0 : Int32) from by unfold own_ih; rw [if_pos cc1]]
      exact ⟨rfl, N0, rfl⟩
    · refine sI X0 hx (B d26_0) rfl ?_
      refine X0.ldcInt hx hown (mvT hZ (w_116 hw)) (g := (mkF m 1 #[vi i1] [(.int i1)])) rfl (B d26_1) _ ?_
      refine XS.icmpYes X0.here hx rfl (pc0 := 3) (pc' := 16) rfl (B d26_3) rfl (tlt cc1).1 (by decide) (by decide) ?_
      refine sC X0 hx (B d26_16) ?_
      exact retN X0 hx (t := .boolean) hret (by simp) (B d26_17) hr
  · by_cases cc2 : i1 < 56320
    · refine ⟨s₁, _, _, _, (some (.int 1)), X0, nofun, by decide, by decide, ?_, fun fs hr => ?_⟩
      · rw [e0]
        unfold Q32
        rw [show (own_ih i1) = (1 : Int32) from by unfold own_ih; rw [if_neg cc1, if_pos cc2]]
        exact ⟨rfl, N0, rfl⟩
      · refine sI X0 hx (B d26_0) rfl ?_
        refine X0.ldcInt hx hown (mvT hZ (w_116 hw)) (g := (mkF m 1 #[vi i1] [(.int i1)])) rfl (B d26_1) _ ?_
        refine XS.icmpNo X0.here hx rfl (B d26_3) rfl (flt cc1).1 ?_
        refine sI X0 hx (B d26_6) rfl ?_
        refine X0.ldcInt hx hown (mvT hZ (w_124 hw)) (g := (mkF m 7 #[vi i1] [(.int i1)])) rfl (B d26_7) _ ?_
        refine XS.icmpNo X0.here hx rfl (B d26_9) rfl (tlt cc2).2.1 ?_
        refine sC X0 hx (B d26_12) ?_
        refine XS.goto X0.here hx rfl (pc0 := 13) (pc' := 17) rfl (B d26_13) (by decide) (by decide) ?_
        exact retN X0 hx (t := .boolean) hret (by simp) (B d26_17) hr
    · refine ⟨s₁, _, _, _, (some (.int 0)), X0, nofun, by decide, by decide, ?_, fun fs hr => ?_⟩
      · rw [e0]
        unfold Q32
        rw [show (own_ih i1) = (0 : Int32) from by unfold own_ih; rw [if_neg cc1, if_neg cc2]]
        exact ⟨rfl, N0, rfl⟩
      · refine sI X0 hx (B d26_0) rfl ?_
        refine X0.ldcInt hx hown (mvT hZ (w_116 hw)) (g := (mkF m 1 #[vi i1] [(.int i1)])) rfl (B d26_1) _ ?_
        refine XS.icmpNo X0.here hx rfl (B d26_3) rfl (flt cc1).1 ?_
        refine sI X0 hx (B d26_6) rfl ?_
        refine X0.ldcInt hx hown (mvT hZ (w_124 hw)) (g := (mkF m 7 #[vi i1] [(.int i1)])) rfl (B d26_7) _ ?_
        refine XS.icmpYes X0.here hx rfl (pc0 := 9) (pc' := 16) rfl (B d26_9) rfl (flt cc2).2.1 (by decide) (by decide) ?_
        refine sC X0 hx (B d26_16) ?_
        exact retN X0 hx (t := .boolean) hret (by simp) (B d26_17) hr
theorem w_114 {a0 Z} (hw : OW a0 Z) : Jvm.Cond.before (.initialized "java/lang/Character") a0 Z := hw _ (mo 114 rfl)
theorem w_115 {a0 Z} (hw : OW a0 Z) : Jvm.Cond.before (.code y_22 jdk_89_method_14_code 1 (some .boolean)) a0 Z := hw _ (mo 115 rfl)
theorem w_112 {a0 Z} (hw : OW a0 Z) : Jvm.Cond.before (.methodLink "java/lang/StringUTF16" 75 y_22) a0 Z := hw _ (mo 112 rfl)
theorem w_113 {a0 Z} (hw : OW a0 Z) : Jvm.Cond.before (.static y_22) a0 Z := hw _ (mo 113 rfl)
theorem d25_40 : decode Kc25 40 = .ok (.ifCond .eq 43, 3) := by decide +kernel
theorem d25_83 : decode Kc25 83 = .ok (.iload 4, 2) := by decide +kernel
theorem d25_85 : decode Kc25 85 = .ok (.ireturn, 1) := by decide +kernel
theorem d25_43 : decode Kc25 43 = .ok (.iinc 1 1, 3) := by decide +kernel
theorem d25_46 : decode Kc25 46 = .ok (.iload_n 1, 1) := by decide +kernel
theorem d25_47 : decode Kc25 47 = .ok (.iload_n 2, 1) := by decide +kernel
theorem d25_48 : decode Kc25 48 = .ok (.if_icmp .ge 35, 3) := by decide +kernel
theorem ef_bcb382 (a1 : Addr) (i2 : Int32) (i3 : Int32) (m : MethodId) : entryFrame m #[(.ref a1), (.int i2), (.int i3), (.int 0)] 6 = mkF m 0 #[.val (.ref a1), .val (.int i2), .val (.int i3), .val (.int 0), .unset, .unset] [] := by first | (simp [entryFrame, mkF, argsToLocals, Value.category]; done) | rfl
abbrev y_23 : MethodName := ⟨"java/lang/StringUTF16", "codePointAt", "([BIIZ)I"⟩
abbrev Rm33 : Room := rmk 1 0 0 13
def Q33 (Z : State) (a1 : Addr) (i2 i3 : Int32) (u4 : List Value) (ck5 : ClassId) (i6 i9 i13 : Int32) (h0 : Heap) (n0 : Nat) (v : Option Value) (h : Heap) (L : List Loc) : Prop := v = some (.int (own_gc i9 i13)) ∧ Fr n0 L ∧ h = h0
theorem rm33 (l : Launch) (Z : State) {a0 : Array Value} (hw : OW a0 Z) (a1 : Addr) (i2 i3 : Int32) (u4 : List Value) (ck5 : ClassId) (i6 i9 i13 : Int32) (h0 : Heap) (n0 : Nat) (Z0 : n0 ≤ h0.size) (S__assertionsDisabled : Sta Z Z.heap "java/lang/StringUTF16" "$assertionsDisabled" "Z" (.int 1)) (Od0 : Old Z n0 h0) (V_a1 : Arv Z h0 a1 ck5 .byte i6 u4 (.int 0)) (c7 : ¬ ((i2 <<< ((1 : Int32) &&& 31)) < 0)) (c8 : (i2 <<< ((1 : Int32) &&& 31)) < i6) (rd10 : u4.getD ((i2 <<< ((1 : Int32) &&& 31))).toNatClampNeg (.int 0) = (.int i9)) (S_HI_BYTE_SHIFT : Sta Z Z.heap "java/lang/StringUTF16" "HI_BYTE_SHIFT" "I" (.int 0)) (c11 : ¬ (((i2 <<< ((1 : Int32) &&& 31)) + (1 : Int32)) < 0)) (c12 : ((i2 <<< ((1 : Int32) &&& 31)) + (1 : Int32)) < i6) (rd14 : u4.getD (((i2 <<< ((1 : Int32) &&& 31)) + (1 : Int32))).toNatClampNeg (.int 0) = (.int i13)) (S_LO_BYTE_SHIFT : Sta Z Z.heap "java/lang/StringUTF16" "LO_BYTE_SHIFT" "I" (.int 8)) (c23 : ¬ ((i2 + (1 : Int32)) < i3)) :
    OwnMet l Z y_23 jdk_52_method_7_code 6 (some .int) [] Rm33 #[(.ref a1), (.int i2), (.int i3), (.int 0)] h0 (Q33 Z a1 i2 i3 u4 ck5 i6 i9 i13 h0 n0) := by
  refine own_body (plainFor_of_name pn_3) (ef_bcb382 a1 i2 i3) ?_
  intro p e s m below meth c s₁ hx hby hml hown hnm hret hZ X0 e0
  have N0 := Fr.nil n0
  have B := hbx hby
  obtain ⟨T1, X1, e1, st1⟩ := getS2 X0 hx hZ hown (host := "") (Or.inl (w_73 hw)) Via.refl e0 (S__assertionsDisabled.ext Od0.2) (g := (mkF m 0 #[vr a1, vi i2, vi i3, vi 0, un, un] [])) rfl (B d25_0)
  obtain ⟨_, T2, L2, X2, hQ2, st2⟩ := own_callS X1 hx hZ hown (y := y_14) (w_76 hw) (w_77 hw) (w_55 hw) (w_78 hw) (rm16 l Z hw a1 i2 u4 ck5 i6 i9 i13 h0 n0 Z0 S__assertionsDisabled Od0 V_a1 c7 c8 rd10 S_HI_BYTE_SHIFT c11 c12 rd14 S_LO_BYTE_SHIFT) e1 (Ls := #[vr a1, vi i2, vi i3, vi 0, un, un]) hml.symm (argsL := [(.ref a1), (.int i2)]) (rest := []) (lenOf pd_13 rfl) (B d25_30) (W := 0)
  obtain ⟨rfl, Nq2, e2⟩ := hQ2
  have N2 := Fr.app N0 Nq2
  obtain ⟨_, T3, L3, X3, hQ3, st3⟩ := own_callS X2 hx hZ hown (y := y_22) (w_112 hw) (w_113 hw) (w_114 hw) (w_115 hw) (rm32 l Z hw (own_gc i9 i13) h0 n0 Z0) e2 (Ls := #[vr a1, vi i2, vi i3, vi 0, vi (own_gc i9 i13), un]) hml.symm (argsL := [(.int (own_gc i9 i13))]) (rest := []) (lenOf pd_15 rfl) (B d25_37) (W := 0)
  obtain ⟨rfl, Nq3, e3⟩ := hQ3
  have N3 := Fr.app N2 Nq3
  by_cases cc1 : (own_ih (own_gc i9 i13)) = 0
  · refine ⟨T3, _, _, _, (some (.int (own_gc i9 i13))), X3, nofun, by decide, by decide, ?_, fun fs hr => ?_⟩
    · rw [e3]
      exact ⟨rfl, N3, rfl⟩
    · refine st1 _ ?_
      refine XS.ifYes X1.here hx rfl (pc0 := 3) (pc' := 19) rfl (B d25_3) rfl ((if0 _ _).trans (feq (by decide : ¬ ((1 : Int32) = (0 : Int32)))).2) (by decide) (by decide) ?_
      refine sI X1 hx (B d25_19) rfl ?_
      refine XS.ifYes X1.here hx rfl (pc0 := 20) (pc' := 28) rfl (B d25_20) rfl ((if0 _ _).trans (teq (by decide : (0 : Int32) = (0 : Int32))).1) (by decide) (by decide) ?_
      refine sA X1 hx (B d25_28) rfl rfl ?_
      refine sI X1 hx (B d25_29) rfl ?_
      refine st2 _ ?_
      refine XS.istore X2.here hx rfl (B d25_33) rfl (l' := #[vr a1, vi i2, vi i3, vi 0, vi (own_gc i9 i13), un]) rfl ?_
      refine sJ X2 hx (B d25_35) rfl ?_
      refine st3 _ ?_
      refine XS.ifYes X3.here hx rfl (pc0 := 40) (pc' := 83) rfl (B d25_40) rfl ((if0 _ _).trans (teq cc1).1) (by decide) (by decide) ?_
      refine sJ X3 hx (B d25_83) rfl ?_
      exact retI X3 hx hret (B d25_85) hr
  · refine ⟨T3, _, _, _, (some (.int (own_gc i9 i13))), X3, nofun, by decide, by decide, ?_, fun fs hr => ?_⟩
    · rw [e3]
      exact ⟨rfl, N3, rfl⟩
    · refine st1 _ ?_
      refine XS.ifYes X1.here hx rfl (pc0 := 3) (pc' := 19) rfl (B d25_3) rfl ((if0 _ _).trans (feq (by decide : ¬ ((1 : Int32) = (0 : Int32)))).2) (by decide) (by decide) ?_
      refine sI X1 hx (B d25_19) rfl ?_
      refine XS.ifYes X1.here hx rfl (pc0 := 20) (pc' := 28) rfl (B d25_20) rfl ((if0 _ _).trans (teq (by decide : (0 : Int32) = (0 : Int32))).1) (by decide) (by decide) ?_
      refine sA X1 hx (B d25_28) rfl rfl ?_
      refine sI X1 hx (B d25_29) rfl ?_
      refine st2 _ ?_
      refine XS.istore X2.here hx rfl (B d25_33) rfl (l' := #[vr a1, vi i2, vi i3, vi 0, vi (own_gc i9 i13), un]) rfl ?_
      refine sJ X2 hx (B d25_35) rfl ?_
      refine st3 _ ?_
      refine XS.ifNo X3.here hx rfl (B d25_40) rfl ((if0 _ _).trans (feq cc1).1) ?_
      refine XS.iinc X3.here hx rfl (B d25_43) rfl (l' := #[vr a1, vi (i2 + (1 : Int32)), vi i3, vi 0, vi (own_gc i9 i13), un]) rfl ?_
      refine sI X3 hx (B d25_46) rfl ?_
      refine sI X3 hx (B d25_47) rfl ?_
      refine XS.icmpYes X3.here hx rfl (pc0 := 48) (pc' := 83) rfl (B d25_48) rfl (flt c23).2.1 (by decide) (by decide) ?_
      refine sJ X3 hx (B d25_83) rfl ?_
      exact retI X3 hx hret (B d25_85) hr
theorem pd_19 : parseMethodDescriptor "([BIIZ)I" = some ⟨[(.array .byte), .int, .int, .boolean], some .int⟩ := by decide +kernel
theorem w_111 {a0 Z} (hw : OW a0 Z) : Jvm.Cond.before (.code y_23 jdk_52_method_7_code 6 (some .int)) a0 Z := hw _ (mo 111 rfl)
theorem w_109 {a0 Z} (hw : OW a0 Z) : Jvm.Cond.before (.methodLink "java/lang/StringUTF16" 88 y_23) a0 Z := hw _ (mo 109 rfl)
theorem w_110 {a0 Z} (hw : OW a0 Z) : Jvm.Cond.before (.static y_23) a0 Z := hw _ (mo 110 rfl)
theorem d24_7 : decode Kc24 7 = .ok (.ireturn, 1) := by decide +kernel
theorem ef_36ebd5 (a1 : Addr) (i2 : Int32) (i3 : Int32) (m : MethodId) : entryFrame m #[(.ref a1), (.int i2), (.int i3)] 3 = mkF m 0 #[.val (.ref a1), .val (.int i2), .val (.int i3)] [] := by first | (simp [entryFrame, mkF, argsToLocals, Value.category]; done) | rfl
abbrev y_24 : MethodName := ⟨"java/lang/StringUTF16", "codePointAt", "([BII)I"⟩
abbrev Rm34 : Room := rmk 2 0 0 30
def Q34 (Z : State) (a1 : Addr) (i2 i3 : Int32) (u4 : List Value) (ck5 : ClassId) (i6 i9 i13 : Int32) (h0 : Heap) (n0 : Nat) (v : Option Value) (h : Heap) (L : List Loc) : Prop := v = some (.int (own_gc i9 i13)) ∧ Fr n0 L ∧ h = h0
theorem rm34 (l : Launch) (Z : State) {a0 : Array Value} (hw : OW a0 Z) (a1 : Addr) (i2 i3 : Int32) (u4 : List Value) (ck5 : ClassId) (i6 i9 i13 : Int32) (h0 : Heap) (n0 : Nat) (Z0 : n0 ≤ h0.size) (S__assertionsDisabled : Sta Z Z.heap "java/lang/StringUTF16" "$assertionsDisabled" "Z" (.int 1)) (Od0 : Old Z n0 h0) (V_a1 : Arv Z h0 a1 ck5 .byte i6 u4 (.int 0)) (c7 : ¬ ((i2 <<< ((1 : Int32) &&& 31)) < 0)) (c8 : (i2 <<< ((1 : Int32) &&& 31)) < i6) (rd10 : u4.getD ((i2 <<< ((1 : Int32) &&& 31))).toNatClampNeg (.int 0) = (.int i9)) (S_HI_BYTE_SHIFT : Sta Z Z.heap "java/lang/StringUTF16" "HI_BYTE_SHIFT" "I" (.int 0)) (c11 : ¬ (((i2 <<< ((1 : Int32) &&& 31)) + (1 : Int32)) < 0)) (c12 : ((i2 <<< ((1 : Int32) &&& 31)) + (1 : Int32)) < i6) (rd14 : u4.getD (((i2 <<< ((1 : Int32) &&& 31)) + (1 : Int32))).toNatClampNeg (.int 0) = (.int i13)) (S_LO_BYTE_SHIFT : Sta Z Z.heap "java/lang/StringUTF16" "LO_BYTE_SHIFT" "I" (.int 8)) (c15 : ¬ ((i2 + (1 : Int32)) < i3)) :
    OwnMet l Z y_24 jdk_52_method_8_code 3 (some .int) [] Rm34 #[(.ref a1), (.int i2), (.int i3)] h0 (Q34 Z a1 i2 i3 u4 ck5 i6 i9 i13 h0 n0) := by
  refine own_body (plainFor_of_name pn_3) (ef_36ebd5 a1 i2 i3) ?_
  intro p e s m below meth c s₁ hx hby hml hown hnm hret hZ X0 e0
  have N0 := Fr.nil n0
  have B := hbx hby
  obtain ⟨_, T1, L1, X1, hQ1, st1⟩ := own_callS X0 hx hZ hown (y := y_23) (w_109 hw) (w_110 hw) (w_55 hw) (w_111 hw) (rm33 l Z hw a1 i2 i3 u4 ck5 i6 i9 i13 h0 n0 Z0 S__assertionsDisabled Od0 V_a1 c7 c8 rd10 S_HI_BYTE_SHIFT c11 c12 rd14 S_LO_BYTE_SHIFT c15) e0 (Ls := #[vr a1, vi i2, vi i3]) hml.symm (argsL := [(.ref a1), (.int i2), (.int i3), (.int 0)]) (rest := []) (lenOf pd_19 rfl) (B d24_4) (W := 0)
  obtain ⟨rfl, Nq1, e1⟩ := hQ1
  have N1 := Fr.app N0 Nq1
  refine ⟨T1, _, _, _, (some (.int (own_gc i9 i13))), X1, nofun, by decide, by decide, ?_, fun fs hr => ?_⟩
  · rw [e1]
    exact ⟨rfl, N1, rfl⟩
  · refine sA X0 hx (B d24_0) rfl rfl ?_
    refine sI X0 hx (B d24_1) rfl ?_
    refine sI X0 hx (B d24_2) rfl ?_
    refine sC X0 hx (B d24_3) ?_
    refine st1 _ ?_
    exact retI X1 hx hret (B d24_7) hr
theorem pd_20 : parseMethodDescriptor "([BII)I" = some ⟨[(.array .byte), .int, .int], some .int⟩ := by decide +kernel
theorem w_108 {a0 Z} (hw : OW a0 Z) : Jvm.Cond.before (.code y_24 jdk_52_method_8_code 3 (some .int)) a0 Z := hw _ (mo 108 rfl)
theorem w_106 {a0 Z} (hw : OW a0 Z) : Jvm.Cond.before (.methodLink "java/lang/String" 502 y_24) a0 Z := hw _ (mo 106 rfl)
theorem w_107 {a0 Z} (hw : OW a0 Z) : Jvm.Cond.before (.static y_24) a0 Z := hw _ (mo 107 rfl)
theorem d20_49 : decode Kc20 49 = .ok (.ireturn, 1) := by decide +kernel
theorem ef_3faa85 (a1 : Addr) (i2 : Int32) (m : MethodId) : entryFrame m #[(.ref a1), (.int i2)] 3 = mkF m 0 #[.val (.ref a1), .val (.int i2), .unset] [] := by first | (simp [entryFrame, mkF, argsToLocals, Value.category]; done) | rfl
abbrev y_25 : MethodName := ⟨"java/lang/String", "codePointAt", "(I)I"⟩
abbrev Rm35 : Room := rmk 3 0 0 44
def Q35 (Z : State) (a1 : Addr) (i2 i3 : Int32) (a5 : Addr) (u6 : List Value) (ck7 : ClassId) (i8 : Int32) (r9 : Value) (i14 i18 : Int32) (h0 : Heap) (n0 : Nat) (v : Option Value) (h : Heap) (L : List Loc) : Prop := v = some (.int (own_gc i14 i18)) ∧ Fr n0 L ∧ h = h0
theorem rm35 (l : Launch) (Z : State) {a0 : Array Value} (hw : OW a0 Z) (a1 : Addr) (i2 i3 : Int32) (a5 : Addr) (u6 : List Value) (ck7 : ClassId) (i8 : Int32) (r9 : Value) (i14 i18 : Int32) (h0 : Heap) (n0 : Nat) (Z0 : n0 ≤ h0.size) (E_a1 : Exa Z h0 a1 jS) (S_COMPACT_STRINGS : Sta Z Z.heap "java/lang/String" "COMPACT_STRINGS" "Z" (.int i3)) (Od0 : Old Z n0 h0) (c4 : ¬ (i3 = 0)) (F_coder_a1 : Fld Z h0 a1 jS "coder" "B" (.int 1)) (F_value_a1 : Fld Z h0 a1 jS "value" "[B" (.ref a5)) (V_a5 : Arv Z h0 a5 ck7 .byte i8 u6 (.int 0)) (R_r9 : r9.isRef = true) (S_SIOOBE_FORMATTER : Sta Z Z.heap "jdk/internal/util/Preconditions" "SIOOBE_FORMATTER" "Ljava/util/function/BiFunction;" r9) (c10 : ¬ (i2 < 0)) (c11 : i2 < (i8 >>> ((1 : Int32) &&& 31))) (S__assertionsDisabled : Sta Z Z.heap "java/lang/StringUTF16" "$assertionsDisabled" "Z" (.int 1)) (c12 : ¬ ((i2 <<< ((1 : Int32) &&& 31)) < 0)) (c13 : (i2 <<< ((1 : Int32) &&& 31)) < i8) (rd15 : u6.getD ((i2 <<< ((1 : Int32) &&& 31))).toNatClampNeg (.int 0) = (.int i14)) (S_HI_BYTE_SHIFT : Sta Z Z.heap "java/lang/StringUTF16" "HI_BYTE_SHIFT" "I" (.int 0)) (c16 : ¬ (((i2 <<< ((1 : Int32) &&& 31)) + (1 : Int32)) < 0)) (c17 : ((i2 <<< ((1 : Int32) &&& 31)) + (1 : Int32)) < i8) (rd19 : u6.getD (((i2 <<< ((1 : Int32) &&& 31)) + (1 : Int32))).toNatClampNeg (.int 0) = (.int i18)) (S_LO_BYTE_SHIFT : Sta Z Z.heap "java/lang/StringUTF16" "LO_BYTE_SHIFT" "I" (.int 8)) (c20 : ¬ ((i2 + (1 : Int32)) < (i8 >>> ((1 : Int32) &&& 31)))) :
    OwnMet l Z y_25 jdk_42_method_57_code 3 (some .int) [] Rm35 #[(.ref a1), (.int i2)] h0 (Q35 Z a1 i2 i3 a5 u6 ck7 i8 r9 i14 i18 h0 n0) := by
  refine own_body (plainFor_of_name pn_1) (ef_3faa85 a1 i2) ?_
  intro p e s m below meth c s₁ hx hby hml hown hnm hret hZ X0 e0
  have N0 := Fr.nil n0
  have B := hbx hby
  obtain ⟨_, T1, L1, X1, hQ1, st1⟩ := own_virtual X0 hx hZ hown (y := y_19) (z := y_19) E_a1 (w_93 hw) (w_94 hw) (own_nf hZ (w_96 hw)) (w_96 hw) (w_95 hw) (w_14 hw) (w_97 hw) (rm29 l Z hw a1 i3 h0 n0 Z0 S_COMPACT_STRINGS Od0 c4 F_coder_a1) e0 (Ls := #[vr a1, vi i2, un]) hml.symm (argsL := []) (rest := []) (lenOf pd_16 rfl) (B d20_1) (W := 0)
  obtain ⟨rfl, Nq1, e1⟩ := hQ1
  have N1 := Fr.app N0 Nq1
  obtain ⟨T2, X2, e2, st2⟩ := getF X1 hx hZ hown (host := "") (Or.inl (w_32 hw)) Via.refl e1 F_value_a1 (g := (mkF m 28 #[vr a1, vi i2, un] [(.ref a1)])) rfl rfl (B d20_28)
  obtain ⟨cl3, Ar3, q3, S3, M3, Hs3, G3⟩ := id V_a5
  obtain ⟨_, T4, L4, X4, hQ4, st4⟩ := own_callS X2 hx hZ hown (y := y_21) (w_98 hw) (w_99 hw) (w_14 hw) (w_100 hw) (rm31 l Z hw i2 (i8 >>> ((1 : Int32) &&& 31)) r9 h0 n0 Z0 R_r9 S_SIOOBE_FORMATTER Od0 c10 c11) e2 (Ls := #[vr a1, vi i2, vi (i8 >>> ((1 : Int32) &&& 31))]) hml.symm (argsL := [(.int i2), (.int (i8 >>> ((1 : Int32) &&& 31)))]) (rest := []) (lenOf pd_18 rfl) (B d20_37) (W := 0)
  obtain ⟨rfl, Nq4, e4⟩ := hQ4
  have N4 := Fr.app N1 Nq4
  obtain ⟨T5, X5, e5, st5⟩ := getF X4 hx hZ hown (host := "") (Or.inl (w_32 hw)) Via.refl e4 F_value_a1 (g := (mkF m 41 #[vr a1, vi i2, vi (i8 >>> ((1 : Int32) &&& 31))] [(.ref a1)])) rfl rfl (B d20_41)
  obtain ⟨_, T6, L6, X6, hQ6, st6⟩ := own_callS X5 hx hZ hown (y := y_24) (w_106 hw) (w_107 hw) (w_55 hw) (w_108 hw) (rm34 l Z hw a5 i2 (i8 >>> ((1 : Int32) &&& 31)) u6 ck7 i8 i14 i18 h0 n0 Z0 S__assertionsDisabled Od0 V_a5 c12 c13 rd15 S_HI_BYTE_SHIFT c16 c17 rd19 S_LO_BYTE_SHIFT c20) e5 (Ls := #[vr a1, vi i2, vi (i8 >>> ((1 : Int32) &&& 31))]) hml.symm (argsL := [(.ref a5), (.int i2), (.int (i8 >>> ((1 : Int32) &&& 31)))]) (rest := []) (lenOf pd_20 rfl) (B d20_46) (W := 0)
  obtain ⟨rfl, Nq6, e6⟩ := hQ6
  have N6 := Fr.app N4 Nq6
  refine ⟨T6, _, _, _, (some (.int (own_gc i14 i18))), X6, nofun, by decide, by decide, ?_, fun fs hr => ?_⟩
  · rw [e6]
    exact ⟨rfl, N6, rfl⟩
  · refine sA X0 hx (B d20_0) rfl rfl ?_
    refine st1 _ ?_
    refine XS.ifYes X1.here hx rfl (pc0 := 4) (pc' := 27) rfl (B d20_4) rfl ((if0 _ _).trans (teq (by decide : (0 : Int32) = (0 : Int32))).1) (by decide) (by decide) ?_
    refine sA X1 hx (B d20_27) rfl rfl ?_
    refine st2 _ ?_
    refine X2.arraylength hx (by rw [e2]; exact Ar3.1) (State.isArrayOf_alike hZ.alike Ar3.2.1) (g := (mkF m 31 #[vr a1, vi i2, un] [(.ref a5)])) rfl rfl (B d20_31) _ ?_
    show Steps p.tables e below (T2.setTop (mkF m 32 #[vr a1, vi i2, un] [(.int cl3.slots.size.toInt32)])) _
    rw [len_of S3 M3]
    refine sC X2 hx (B d20_32) ?_
    refine XS.ishr X2.here hx rfl (B d20_33) rfl ?_
    refine XS.istoreN X2.here hx rfl (B d20_34) rfl (l' := #[vr a1, vi i2, vi (i8 >>> ((1 : Int32) &&& 31))]) rfl ?_
    refine sI X2 hx (B d20_35) rfl ?_
    refine sI X2 hx (B d20_36) rfl ?_
    refine st4 _ ?_
    refine sA X4 hx (B d20_40) rfl rfl ?_
    refine st5 _ ?_
    refine sI X5 hx (B d20_44) rfl ?_
    refine sI X5 hx (B d20_45) rfl ?_
    refine st6 _ ?_
    exact retI X6 hx hret (B d20_49) hr
theorem w_92 {a0 Z} (hw : OW a0 Z) : Jvm.Cond.before (.code y_25 jdk_42_method_57_code 3 (some .int)) a0 Z := hw _ (mo 92 rfl)
theorem w_88 {a0 Z} (hw : OW a0 Z) : Jvm.Cond.before (.methodLink "com/example/sidwire/sidwire/cbor/CborWriter" 151 y_25) a0 Z := hw _ (mo 88 rfl)
theorem w_91 {a0 Z} (hw : OW a0 Z) : Jvm.Cond.before (.selects "java/lang/String" y_25 y_25) a0 Z := hw _ (mo 91 rfl)
theorem w_89 {a0 Z} (hw : OW a0 Z) : Jvm.Cond.before (.declares y_25) a0 Z := hw _ (mo 89 rfl)
theorem w_90 {a0 Z} (hw : OW a0 Z) : Jvm.Cond.before (.instanceMethod y_25) a0 Z := hw _ (mo 90 rfl)
theorem d7_15 : decode Kc7 15 = .ok (.istore_n 2, 1) := by decide +kernel
theorem d7_16 : decode Kc7 16 = .ok (.iload_n 2, 1) := by decide +kernel
theorem d7_17 : decode Kc7 17 = .ok (.ldc 157, 2) := by decide +kernel
theorem w_117 {a0 Z} (hw : OW a0 Z) : Jvm.Cond.before (.constant "com/example/sidwire/sidwire/cbor/CborWriter" 157 (55296 : Int32)) a0 Z := hw _ (mo 117 rfl)
theorem d7_19 : decode Kc7 19 = .ok (.if_icmp .lt 11, 3) := by decide +kernel
abbrev Rm36 : Room := rmk 0 0 0 0
def Q36 (Z : State) (i1 : Int32) (h0 : Heap) (n0 : Nat) (v : Option Value) (h : Heap) (L : List Loc) : Prop := v = some (.int 0) ∧ Fr n0 L ∧ h = h0
theorem rm36 (l : Launch) (Z : State) {a0 : Array Value} (hw : OW a0 Z) (i1 : Int32) (h0 : Heap) (n0 : Nat) (Z0 : n0 ≤ h0.size) (c2 : i1 < 55296) :
    OwnMet l Z y_22 jdk_89_method_14_code 1 (some .boolean) [] Rm36 #[(.int i1)] h0 (Q36 Z i1 h0 n0) := by
  refine own_body (plainFor_of_name pn_5) (ef_53da61 i1) ?_
  intro p e s m below meth c s₁ hx hby hml hown hnm hret hZ X0 e0
  have N0 := Fr.nil n0
  have B := hbx hby
  refine ⟨s₁, _, _, _, (some (.int 0)), X0, nofun, by decide, by decide, ?_, fun fs hr => ?_⟩
  · rw [e0]
    exact ⟨rfl, N0, rfl⟩
  · refine sI X0 hx (B d26_0) rfl ?_
    refine X0.ldcInt hx hown (mvT hZ (w_116 hw)) (g := (mkF m 1 #[vi i1] [(.int i1)])) rfl (B d26_1) _ ?_
    refine XS.icmpYes X0.here hx rfl (pc0 := 3) (pc' := 16) rfl (B d26_3) rfl (tlt c2).1 (by decide) (by decide) ?_
    refine sC X0 hx (B d26_16) ?_
    exact retN X0 hx (t := .boolean) hret (by simp) (B d26_17) hr
abbrev Rm37 : Room := rmk 1 0 0 13
def Q37 (Z : State) (a1 : Addr) (i2 i3 : Int32) (u4 : List Value) (ck5 : ClassId) (i6 i9 i13 : Int32) (h0 : Heap) (n0 : Nat) (v : Option Value) (h : Heap) (L : List Loc) : Prop := v = some (.int (own_gc i9 i13)) ∧ Fr n0 L ∧ h = h0
theorem rm37 (l : Launch) (Z : State) {a0 : Array Value} (hw : OW a0 Z) (a1 : Addr) (i2 i3 : Int32) (u4 : List Value) (ck5 : ClassId) (i6 i9 i13 : Int32) (h0 : Heap) (n0 : Nat) (Z0 : n0 ≤ h0.size) (S__assertionsDisabled : Sta Z Z.heap "java/lang/StringUTF16" "$assertionsDisabled" "Z" (.int 1)) (Od0 : Old Z n0 h0) (V_a1 : Arv Z h0 a1 ck5 .byte i6 u4 (.int 0)) (c7 : ¬ ((i2 <<< ((1 : Int32) &&& 31)) < 0)) (c8 : (i2 <<< ((1 : Int32) &&& 31)) < i6) (rd10 : u4.getD ((i2 <<< ((1 : Int32) &&& 31))).toNatClampNeg (.int 0) = (.int i9)) (S_HI_BYTE_SHIFT : Sta Z Z.heap "java/lang/StringUTF16" "HI_BYTE_SHIFT" "I" (.int 0)) (c11 : ¬ (((i2 <<< ((1 : Int32) &&& 31)) + (1 : Int32)) < 0)) (c12 : ((i2 <<< ((1 : Int32) &&& 31)) + (1 : Int32)) < i6) (rd14 : u4.getD (((i2 <<< ((1 : Int32) &&& 31)) + (1 : Int32))).toNatClampNeg (.int 0) = (.int i13)) (S_LO_BYTE_SHIFT : Sta Z Z.heap "java/lang/StringUTF16" "LO_BYTE_SHIFT" "I" (.int 8)) (c15 : (own_gc i9 i13) < 55296) :
    OwnMet l Z y_23 jdk_52_method_7_code 6 (some .int) [] Rm37 #[(.ref a1), (.int i2), (.int i3), (.int 0)] h0 (Q37 Z a1 i2 i3 u4 ck5 i6 i9 i13 h0 n0) := by
  refine own_body (plainFor_of_name pn_3) (ef_bcb382 a1 i2 i3) ?_
  intro p e s m below meth c s₁ hx hby hml hown hnm hret hZ X0 e0
  have N0 := Fr.nil n0
  have B := hbx hby
  obtain ⟨T1, X1, e1, st1⟩ := getS2 X0 hx hZ hown (host := "") (Or.inl (w_73 hw)) Via.refl e0 (S__assertionsDisabled.ext Od0.2) (g := (mkF m 0 #[vr a1, vi i2, vi i3, vi 0, un, un] [])) rfl (B d25_0)
  obtain ⟨_, T2, L2, X2, hQ2, st2⟩ := own_callS X1 hx hZ hown (y := y_14) (w_76 hw) (w_77 hw) (w_55 hw) (w_78 hw) (rm16 l Z hw a1 i2 u4 ck5 i6 i9 i13 h0 n0 Z0 S__assertionsDisabled Od0 V_a1 c7 c8 rd10 S_HI_BYTE_SHIFT c11 c12 rd14 S_LO_BYTE_SHIFT) e1 (Ls := #[vr a1, vi i2, vi i3, vi 0, un, un]) hml.symm (argsL := [(.ref a1), (.int i2)]) (rest := []) (lenOf pd_13 rfl) (B d25_30) (W := 0)
  obtain ⟨rfl, Nq2, e2⟩ := hQ2
  have N2 := Fr.app N0 Nq2
  obtain ⟨_, T3, L3, X3, hQ3, st3⟩ := own_callS X2 hx hZ hown (y := y_22) (w_112 hw) (w_113 hw) (w_114 hw) (w_115 hw) (rm36 l Z hw (own_gc i9 i13) h0 n0 Z0 c15) e2 (Ls := #[vr a1, vi i2, vi i3, vi 0, vi (own_gc i9 i13), un]) hml.symm (argsL := [(.int (own_gc i9 i13))]) (rest := []) (lenOf pd_15 rfl) (B d25_37) (W := 0)
  obtain ⟨rfl, Nq3, e3⟩ := hQ3
  have N3 := Fr.app N2 Nq3
  refine ⟨T3, _, _, _, (some (.int (own_gc i9 i13))), X3, nofun, by decide, by decide, ?_, fun fs hr => ?_⟩
  · rw [e3]
    exact ⟨rfl, N3, rfl⟩
  · refine st1 _ ?_
    refine XS.ifYes X1.here hx rfl (pc0 := 3) (pc' := 19) rfl (B d25_3) rfl ((if0 _ _).trans (feq (by decide : ¬ ((1 : Int32) = (0 : Int32)))).2) (by decide) (by decide) ?_
    refine sI X1 hx (B d25_19) rfl ?_
    refine XS.ifYes X1.here hx rfl (pc0 := 20) (pc' := 28) rfl (B d25_20) rfl ((if0 _ _).trans (teq (by decide : (0 : Int32) = (0 : Int32))).1) (by decide) (by decide) ?_
    refine sA X1 hx (B d25_28) rfl rfl ?_
    refine sI X1 hx (B d25_29) rfl ?_
    refine st2 _ ?_
    refine XS.istore X2.here hx rfl (B d25_33) rfl (l' := #[vr a1, vi i2, vi i3, vi 0, vi (own_gc i9 i13), un]) rfl ?_
    refine sJ X2 hx (B d25_35) rfl ?_
    refine st3 _ ?_
    refine XS.ifYes X3.here hx rfl (pc0 := 40) (pc' := 83) rfl (B d25_40) rfl ((if0 _ _).trans (teq (by decide : (0 : Int32) = (0 : Int32))).1) (by decide) (by decide) ?_
    refine sJ X3 hx (B d25_83) rfl ?_
    exact retI X3 hx hret (B d25_85) hr
abbrev Rm38 : Room := rmk 2 0 0 30
def Q38 (Z : State) (a1 : Addr) (i2 i3 : Int32) (u4 : List Value) (ck5 : ClassId) (i6 i9 i13 : Int32) (h0 : Heap) (n0 : Nat) (v : Option Value) (h : Heap) (L : List Loc) : Prop := v = some (.int (own_gc i9 i13)) ∧ Fr n0 L ∧ h = h0
theorem rm38 (l : Launch) (Z : State) {a0 : Array Value} (hw : OW a0 Z) (a1 : Addr) (i2 i3 : Int32) (u4 : List Value) (ck5 : ClassId) (i6 i9 i13 : Int32) (h0 : Heap) (n0 : Nat) (Z0 : n0 ≤ h0.size) (S__assertionsDisabled : Sta Z Z.heap "java/lang/StringUTF16" "$assertionsDisabled" "Z" (.int 1)) (Od0 : Old Z n0 h0) (V_a1 : Arv Z h0 a1 ck5 .byte i6 u4 (.int 0)) (c7 : ¬ ((i2 <<< ((1 : Int32) &&& 31)) < 0)) (c8 : (i2 <<< ((1 : Int32) &&& 31)) < i6) (rd10 : u4.getD ((i2 <<< ((1 : Int32) &&& 31))).toNatClampNeg (.int 0) = (.int i9)) (S_HI_BYTE_SHIFT : Sta Z Z.heap "java/lang/StringUTF16" "HI_BYTE_SHIFT" "I" (.int 0)) (c11 : ¬ (((i2 <<< ((1 : Int32) &&& 31)) + (1 : Int32)) < 0)) (c12 : ((i2 <<< ((1 : Int32) &&& 31)) + (1 : Int32)) < i6) (rd14 : u4.getD (((i2 <<< ((1 : Int32) &&& 31)) + (1 : Int32))).toNatClampNeg (.int 0) = (.int i13)) (S_LO_BYTE_SHIFT : Sta Z Z.heap "java/lang/StringUTF16" "LO_BYTE_SHIFT" "I" (.int 8)) (c15 : (own_gc i9 i13) < 55296) :
    OwnMet l Z y_24 jdk_52_method_8_code 3 (some .int) [] Rm38 #[(.ref a1), (.int i2), (.int i3)] h0 (Q38 Z a1 i2 i3 u4 ck5 i6 i9 i13 h0 n0) := by
  refine own_body (plainFor_of_name pn_3) (ef_36ebd5 a1 i2 i3) ?_
  intro p e s m below meth c s₁ hx hby hml hown hnm hret hZ X0 e0
  have N0 := Fr.nil n0
  have B := hbx hby
  obtain ⟨_, T1, L1, X1, hQ1, st1⟩ := own_callS X0 hx hZ hown (y := y_23) (w_109 hw) (w_110 hw) (w_55 hw) (w_111 hw) (rm37 l Z hw a1 i2 i3 u4 ck5 i6 i9 i13 h0 n0 Z0 S__assertionsDisabled Od0 V_a1 c7 c8 rd10 S_HI_BYTE_SHIFT c11 c12 rd14 S_LO_BYTE_SHIFT c15) e0 (Ls := #[vr a1, vi i2, vi i3]) hml.symm (argsL := [(.ref a1), (.int i2), (.int i3), (.int 0)]) (rest := []) (lenOf pd_19 rfl) (B d24_4) (W := 0)
  obtain ⟨rfl, Nq1, e1⟩ := hQ1
  have N1 := Fr.app N0 Nq1
  refine ⟨T1, _, _, _, (some (.int (own_gc i9 i13))), X1, nofun, by decide, by decide, ?_, fun fs hr => ?_⟩
  · rw [e1]
    exact ⟨rfl, N1, rfl⟩
  · refine sA X0 hx (B d24_0) rfl rfl ?_
    refine sI X0 hx (B d24_1) rfl ?_
    refine sI X0 hx (B d24_2) rfl ?_
    refine sC X0 hx (B d24_3) ?_
    refine st1 _ ?_
    exact retI X1 hx hret (B d24_7) hr
abbrev Rm39 : Room := rmk 3 0 0 44
def Q39 (Z : State) (a1 : Addr) (i2 i3 : Int32) (a5 : Addr) (u6 : List Value) (ck7 : ClassId) (i8 : Int32) (r9 : Value) (i14 i18 : Int32) (h0 : Heap) (n0 : Nat) (v : Option Value) (h : Heap) (L : List Loc) : Prop := v = some (.int (own_gc i14 i18)) ∧ Fr n0 L ∧ h = h0
theorem rm39 (l : Launch) (Z : State) {a0 : Array Value} (hw : OW a0 Z) (a1 : Addr) (i2 i3 : Int32) (a5 : Addr) (u6 : List Value) (ck7 : ClassId) (i8 : Int32) (r9 : Value) (i14 i18 : Int32) (h0 : Heap) (n0 : Nat) (Z0 : n0 ≤ h0.size) (E_a1 : Exa Z h0 a1 jS) (S_COMPACT_STRINGS : Sta Z Z.heap "java/lang/String" "COMPACT_STRINGS" "Z" (.int i3)) (Od0 : Old Z n0 h0) (c4 : ¬ (i3 = 0)) (F_coder_a1 : Fld Z h0 a1 jS "coder" "B" (.int 1)) (F_value_a1 : Fld Z h0 a1 jS "value" "[B" (.ref a5)) (V_a5 : Arv Z h0 a5 ck7 .byte i8 u6 (.int 0)) (R_r9 : r9.isRef = true) (S_SIOOBE_FORMATTER : Sta Z Z.heap "jdk/internal/util/Preconditions" "SIOOBE_FORMATTER" "Ljava/util/function/BiFunction;" r9) (c10 : ¬ (i2 < 0)) (c11 : i2 < (i8 >>> ((1 : Int32) &&& 31))) (S__assertionsDisabled : Sta Z Z.heap "java/lang/StringUTF16" "$assertionsDisabled" "Z" (.int 1)) (c12 : ¬ ((i2 <<< ((1 : Int32) &&& 31)) < 0)) (c13 : (i2 <<< ((1 : Int32) &&& 31)) < i8) (rd15 : u6.getD ((i2 <<< ((1 : Int32) &&& 31))).toNatClampNeg (.int 0) = (.int i14)) (S_HI_BYTE_SHIFT : Sta Z Z.heap "java/lang/StringUTF16" "HI_BYTE_SHIFT" "I" (.int 0)) (c16 : ¬ (((i2 <<< ((1 : Int32) &&& 31)) + (1 : Int32)) < 0)) (c17 : ((i2 <<< ((1 : Int32) &&& 31)) + (1 : Int32)) < i8) (rd19 : u6.getD (((i2 <<< ((1 : Int32) &&& 31)) + (1 : Int32))).toNatClampNeg (.int 0) = (.int i18)) (S_LO_BYTE_SHIFT : Sta Z Z.heap "java/lang/StringUTF16" "LO_BYTE_SHIFT" "I" (.int 8)) (c20 : (own_gc i14 i18) < 55296) :
    OwnMet l Z y_25 jdk_42_method_57_code 3 (some .int) [] Rm39 #[(.ref a1), (.int i2)] h0 (Q39 Z a1 i2 i3 a5 u6 ck7 i8 r9 i14 i18 h0 n0) := by
  refine own_body (plainFor_of_name pn_1) (ef_3faa85 a1 i2) ?_
  intro p e s m below meth c s₁ hx hby hml hown hnm hret hZ X0 e0
  have N0 := Fr.nil n0
  have B := hbx hby
  obtain ⟨_, T1, L1, X1, hQ1, st1⟩ := own_virtual X0 hx hZ hown (y := y_19) (z := y_19) E_a1 (w_93 hw) (w_94 hw) (own_nf hZ (w_96 hw)) (w_96 hw) (w_95 hw) (w_14 hw) (w_97 hw) (rm29 l Z hw a1 i3 h0 n0 Z0 S_COMPACT_STRINGS Od0 c4 F_coder_a1) e0 (Ls := #[vr a1, vi i2, un]) hml.symm (argsL := []) (rest := []) (lenOf pd_16 rfl) (B d20_1) (W := 0)
  obtain ⟨rfl, Nq1, e1⟩ := hQ1
  have N1 := Fr.app N0 Nq1
  obtain ⟨T2, X2, e2, st2⟩ := getF X1 hx hZ hown (host := "") (Or.inl (w_32 hw)) Via.refl e1 F_value_a1 (g := (mkF m 28 #[vr a1, vi i2, un] [(.ref a1)])) rfl rfl (B d20_28)
  obtain ⟨cl3, Ar3, q3, S3, M3, Hs3, G3⟩ := id V_a5
  obtain ⟨_, T4, L4, X4, hQ4, st4⟩ := own_callS X2 hx hZ hown (y := y_21) (w_98 hw) (w_99 hw) (w_14 hw) (w_100 hw) (rm31 l Z hw i2 (i8 >>> ((1 : Int32) &&& 31)) r9 h0 n0 Z0 R_r9 S_SIOOBE_FORMATTER Od0 c10 c11) e2 (Ls := #[vr a1, vi i2, vi (i8 >>> ((1 : Int32) &&& 31))]) hml.symm (argsL := [(.int i2), (.int (i8 >>> ((1 : Int32) &&& 31)))]) (rest := []) (lenOf pd_18 rfl) (B d20_37) (W := 0)
  obtain ⟨rfl, Nq4, e4⟩ := hQ4
  have N4 := Fr.app N1 Nq4
  obtain ⟨T5, X5, e5, st5⟩ := getF X4 hx hZ hown (host := "") (Or.inl (w_32 hw)) Via.refl e4 F_value_a1 (g := (mkF m 41 #[vr a1, vi i2, vi (i8 >>> ((1 : Int32) &&& 31))] [(.ref a1)])) rfl rfl (B d20_41)
  obtain ⟨_, T6, L6, X6, hQ6, st6⟩ := own_callS X5 hx hZ hown (y := y_24) (w_106 hw) (w_107 hw) (w_55 hw) (w_108 hw) (rm38 l Z hw a5 i2 (i8 >>> ((1 : Int32) &&& 31)) u6 ck7 i8 i14 i18 h0 n0 Z0 S__assertionsDisabled Od0 V_a5 c12 c13 rd15 S_HI_BYTE_SHIFT c16 c17 rd19 S_LO_BYTE_SHIFT c20) e5 (Ls := #[vr a1, vi i2, vi (i8 >>> ((1 : Int32) &&& 31))]) hml.symm (argsL := [(.ref a5), (.int i2), (.int (i8 >>> ((1 : Int32) &&& 31)))]) (rest := []) (lenOf pd_20 rfl) (B d20_46) (W := 0)
  obtain ⟨rfl, Nq6, e6⟩ := hQ6
  have N6 := Fr.app N4 Nq6
  refine ⟨T6, _, _, _, (some (.int (own_gc i14 i18))), X6, nofun, by decide, by decide, ?_, fun fs hr => ?_⟩
  · rw [e6]
    exact ⟨rfl, N6, rfl⟩
  · refine sA X0 hx (B d20_0) rfl rfl ?_
    refine st1 _ ?_
    refine XS.ifYes X1.here hx rfl (pc0 := 4) (pc' := 27) rfl (B d20_4) rfl ((if0 _ _).trans (teq (by decide : (0 : Int32) = (0 : Int32))).1) (by decide) (by decide) ?_
    refine sA X1 hx (B d20_27) rfl rfl ?_
    refine st2 _ ?_
    refine X2.arraylength hx (by rw [e2]; exact Ar3.1) (State.isArrayOf_alike hZ.alike Ar3.2.1) (g := (mkF m 31 #[vr a1, vi i2, un] [(.ref a5)])) rfl rfl (B d20_31) _ ?_
    show Steps p.tables e below (T2.setTop (mkF m 32 #[vr a1, vi i2, un] [(.int cl3.slots.size.toInt32)])) _
    rw [len_of S3 M3]
    refine sC X2 hx (B d20_32) ?_
    refine XS.ishr X2.here hx rfl (B d20_33) rfl ?_
    refine XS.istoreN X2.here hx rfl (B d20_34) rfl (l' := #[vr a1, vi i2, vi (i8 >>> ((1 : Int32) &&& 31))]) rfl ?_
    refine sI X2 hx (B d20_35) rfl ?_
    refine sI X2 hx (B d20_36) rfl ?_
    refine st4 _ ?_
    refine sA X4 hx (B d20_40) rfl rfl ?_
    refine st5 _ ?_
    refine sI X5 hx (B d20_44) rfl ?_
    refine sI X5 hx (B d20_45) rfl ?_
    refine st6 _ ?_
    exact retI X6 hx hret (B d20_49) hr
theorem d7_30 : decode Kc7 30 = .ok (.iload_n 1, 1) := by decide +kernel
theorem d7_31 : decode Kc7 31 = .ok (.iload_n 2, 1) := by decide +kernel
theorem d7_32 : decode Kc7 32 = .ok (.invokestatic 159, 3) := by decide +kernel
abbrev Kc27 := jdk_89_method_18_code
theorem d27_0 : decode Kc27 0 = .ok (.iload_n 0, 1) := by decide +kernel
theorem d27_1 : decode Kc27 1 = .ok (.ldc 73, 2) := by decide +kernel
theorem w_121 {a0 Z} (hw : OW a0 Z) : Jvm.Cond.before (.constant "java/lang/Character" 73 (65536 : Int32)) a0 Z := hw _ (mo 121 rfl)
theorem d27_3 : decode Kc27 3 = .ok (.if_icmp .lt 7, 3) := by decide +kernel
theorem d27_10 : decode Kc27 10 = .ok (.iconst 1, 1) := by decide +kernel
theorem d27_11 : decode Kc27 11 = .ok (.ireturn, 1) := by decide +kernel
abbrev y_26 : MethodName := ⟨"java/lang/Character", "charCount", "(I)I"⟩
abbrev Rm40 : Room := rmk 0 0 0 0
def Q40 (Z : State) (i1 : Int32) (h0 : Heap) (n0 : Nat) (v : Option Value) (h : Heap) (L : List Loc) : Prop := v = some (.int 1) ∧ Fr n0 L ∧ h = h0
theorem rm40 (l : Launch) (Z : State) {a0 : Array Value} (hw : OW a0 Z) (i1 : Int32) (h0 : Heap) (n0 : Nat) (Z0 : n0 ≤ h0.size) (c2 : i1 < 65536) :
    OwnMet l Z y_26 jdk_89_method_18_code 1 (some .int) [] Rm40 #[(.int i1)] h0 (Q40 Z i1 h0 n0) := by
  refine own_body (plainFor_of_name pn_5) (ef_53da61 i1) ?_
  intro p e s m below meth c s₁ hx hby hml hown hnm hret hZ X0 e0
  have N0 := Fr.nil n0
  have B := hbx hby
  refine ⟨s₁, _, _, _, (some (.int 1)), X0, nofun, by decide, by decide, ?_, fun fs hr => ?_⟩
  · rw [e0]
    exact ⟨rfl, N0, rfl⟩
  · refine sI X0 hx (B d27_0) rfl ?_
    refine X0.ldcInt hx hown (mvT hZ (w_121 hw)) (g := (mkF m 1 #[vi i1] [(.int i1)])) rfl (B d27_1) _ ?_
    refine XS.icmpYes X0.here hx rfl (pc0 := 3) (pc' := 10) rfl (B d27_3) rfl (tlt c2).1 (by decide) (by decide) ?_
    refine sC X0 hx (B d27_10) ?_
    exact retI X0 hx hret (B d27_11) hr
theorem w_120 {a0 Z} (hw : OW a0 Z) : Jvm.Cond.before (.code y_26 jdk_89_method_18_code 1 (some .int)) a0 Z := hw _ (mo 120 rfl)
theorem w_118 {a0 Z} (hw : OW a0 Z) : Jvm.Cond.before (.methodLink "com/example/sidwire/sidwire/cbor/CborWriter" 159 y_26) a0 Z := hw _ (mo 118 rfl)
theorem w_119 {a0 Z} (hw : OW a0 Z) : Jvm.Cond.before (.static y_26) a0 Z := hw _ (mo 119 rfl)
theorem d7_35 : decode Kc7 35 = .ok (.iadd, 1) := by decide +kernel
theorem d7_36 : decode Kc7 36 = .ok (.istore_n 1, 1) := by decide +kernel
theorem d7_37 : decode Kc7 37 = .ok (.goto (-35), 3) := by decide +kernel
def own_ih1 (v0 : Int32) : Int32 := (if v0 < 56320 then (1 : Int32) else (0 : Int32))
abbrev Rm41 : Room := rmk 0 0 0 0
def Q41 (Z : State) (i1 : Int32) (h0 : Heap) (n0 : Nat) (v : Option Value) (h : Heap) (L : List Loc) : Prop := v = some (.int (own_ih1 i1)) ∧ Fr n0 L ∧ h = h0
theorem rm41 (l : Launch) (Z : State) {a0 : Array Value} (hw : OW a0 Z) (i1 : Int32) (h0 : Heap) (n0 : Nat) (Z0 : n0 ≤ h0.size) (c2 : ¬ (i1 < 55296)) :
    OwnMet l Z y_22 jdk_89_method_14_code 1 (some .boolean) [] Rm41 #[(.int i1)] h0 (Q41 Z i1 h0 n0) := by
  refine own_body (plainFor_of_name pn_5) (ef_53da61 i1) ?_
  intro p e s m below meth c s₁ hx hby hml hown hnm hret hZ X0 e0
  have N0 := Fr.nil n0
  have B := hbx hby
  by_cases cc1 : i1 < 56320
  · refine ⟨s₁, _, _, _, (some (.int 1)), X0, nofun, by decide, by decide, ?_, fun fs hr => ?_⟩
    · rw [e0]
      unfold Q41
      rw [show (own_ih1 i1) = (1 : Int32) from by unfold own_ih1; rw [if_pos cc1]]
      exact ⟨rfl, N0, rfl⟩
    · refine sI X0 hx (B d26_0) rfl ?_
      refine X0.ldcInt hx hown (mvT hZ (w_116 hw)) (g := (mkF m 1 #[vi i1] [(.int i1)])) rfl (B d26_1) _ ?_
      refine XS.icmpNo X0.here hx rfl (B d26_3) rfl (flt c2).1 ?_
      refine sI X0 hx (B d26_6) rfl ?_
      refine X0.ldcInt hx hown (mvT hZ (w_124 hw)) (g := (mkF m 7 #[vi i1] [(.int i1)])) rfl (B d26_7) _ ?_
      refine XS.icmpNo X0.here hx rfl (B d26_9) rfl (tlt cc1).2.1 ?_
      refine sC X0 hx (B d26_12) ?_
      refine XS.goto X0.here hx rfl (pc0 := 13) (pc' := 17) rfl (B d26_13) (by decide) (by decide) ?_
      exact retN X0 hx (t := .boolean) hret (by simp) (B d26_17) hr
  · have cd1 : ¬ (i1 < 55296) := (by rw [Int32.lt_iff_toInt_lt]; have := And.intro (own_nub cc1 56320 (by decide)) (trivial); have := rng32 i1; have : ((55296 : Int32)).toInt = 55296 := (by decide); omega)
    refine ⟨s₁, _, _, _, (some (.int 0)), X0, nofun, by decide, by decide, ?_, fun fs hr => ?_⟩
    · rw [e0]
      unfold Q41
      rw [show (own_ih1 i1) = (0 : Int32) from by unfold own_ih1; rw [if_neg cc1]]
      exact ⟨rfl, N0, rfl⟩
    · refine sI X0 hx (B d26_0) rfl ?_
      refine X0.ldcInt hx hown (mvT hZ (w_116 hw)) (g := (mkF m 1 #[vi i1] [(.int i1)])) rfl (B d26_1) _ ?_
      refine XS.icmpNo X0.here hx rfl (B d26_3) rfl (flt cd1).1 ?_
      refine sI X0 hx (B d26_6) rfl ?_
      refine X0.ldcInt hx hown (mvT hZ (w_124 hw)) (g := (mkF m 7 #[vi i1] [(.int i1)])) rfl (B d26_7) _ ?_
      refine XS.icmpYes X0.here hx rfl (pc0 := 9) (pc' := 16) rfl (B d26_9) rfl (flt cc1).2.1 (by decide) (by decide) ?_
      refine sC X0 hx (B d26_16) ?_
      exact retN X0 hx (t := .boolean) hret (by simp) (B d26_17) hr
abbrev Rm42 : Room := rmk 1 0 0 13
def Q42 (Z : State) (a1 : Addr) (i2 i3 : Int32) (u4 : List Value) (ck5 : ClassId) (i6 i9 i13 : Int32) (h0 : Heap) (n0 : Nat) (v : Option Value) (h : Heap) (L : List Loc) : Prop := v = some (.int (own_gc i9 i13)) ∧ Fr n0 L ∧ h = h0
theorem rm42 (l : Launch) (Z : State) {a0 : Array Value} (hw : OW a0 Z) (a1 : Addr) (i2 i3 : Int32) (u4 : List Value) (ck5 : ClassId) (i6 i9 i13 : Int32) (h0 : Heap) (n0 : Nat) (Z0 : n0 ≤ h0.size) (S__assertionsDisabled : Sta Z Z.heap "java/lang/StringUTF16" "$assertionsDisabled" "Z" (.int 1)) (Od0 : Old Z n0 h0) (V_a1 : Arv Z h0 a1 ck5 .byte i6 u4 (.int 0)) (c7 : ¬ ((i2 <<< ((1 : Int32) &&& 31)) < 0)) (c8 : (i2 <<< ((1 : Int32) &&& 31)) < i6) (rd10 : u4.getD ((i2 <<< ((1 : Int32) &&& 31))).toNatClampNeg (.int 0) = (.int i9)) (S_HI_BYTE_SHIFT : Sta Z Z.heap "java/lang/StringUTF16" "HI_BYTE_SHIFT" "I" (.int 0)) (c11 : ¬ (((i2 <<< ((1 : Int32) &&& 31)) + (1 : Int32)) < 0)) (c12 : ((i2 <<< ((1 : Int32) &&& 31)) + (1 : Int32)) < i6) (rd14 : u4.getD (((i2 <<< ((1 : Int32) &&& 31)) + (1 : Int32))).toNatClampNeg (.int 0) = (.int i13)) (S_LO_BYTE_SHIFT : Sta Z Z.heap "java/lang/StringUTF16" "LO_BYTE_SHIFT" "I" (.int 8)) (c15 : ¬ ((own_gc i9 i13) < 55296)) (c26 : ¬ ((i2 + (1 : Int32)) < i3)) :
    OwnMet l Z y_23 jdk_52_method_7_code 6 (some .int) [] Rm42 #[(.ref a1), (.int i2), (.int i3), (.int 0)] h0 (Q42 Z a1 i2 i3 u4 ck5 i6 i9 i13 h0 n0) := by
  refine own_body (plainFor_of_name pn_3) (ef_bcb382 a1 i2 i3) ?_
  intro p e s m below meth c s₁ hx hby hml hown hnm hret hZ X0 e0
  have N0 := Fr.nil n0
  have B := hbx hby
  obtain ⟨T1, X1, e1, st1⟩ := getS2 X0 hx hZ hown (host := "") (Or.inl (w_73 hw)) Via.refl e0 (S__assertionsDisabled.ext Od0.2) (g := (mkF m 0 #[vr a1, vi i2, vi i3, vi 0, un, un] [])) rfl (B d25_0)
  obtain ⟨_, T2, L2, X2, hQ2, st2⟩ := own_callS X1 hx hZ hown (y := y_14) (w_76 hw) (w_77 hw) (w_55 hw) (w_78 hw) (rm16 l Z hw a1 i2 u4 ck5 i6 i9 i13 h0 n0 Z0 S__assertionsDisabled Od0 V_a1 c7 c8 rd10 S_HI_BYTE_SHIFT c11 c12 rd14 S_LO_BYTE_SHIFT) e1 (Ls := #[vr a1, vi i2, vi i3, vi 0, un, un]) hml.symm (argsL := [(.ref a1), (.int i2)]) (rest := []) (lenOf pd_13 rfl) (B d25_30) (W := 0)
  obtain ⟨rfl, Nq2, e2⟩ := hQ2
  have N2 := Fr.app N0 Nq2
  obtain ⟨_, T3, L3, X3, hQ3, st3⟩ := own_callS X2 hx hZ hown (y := y_22) (w_112 hw) (w_113 hw) (w_114 hw) (w_115 hw) (rm41 l Z hw (own_gc i9 i13) h0 n0 Z0 c15) e2 (Ls := #[vr a1, vi i2, vi i3, vi 0, vi (own_gc i9 i13), un]) hml.symm (argsL := [(.int (own_gc i9 i13))]) (rest := []) (lenOf pd_15 rfl) (B d25_37) (W := 0)
  obtain ⟨rfl, Nq3, e3⟩ := hQ3
  have N3 := Fr.app N2 Nq3
  by_cases cc1 : (own_ih1 (own_gc i9 i13)) = 0
  · refine ⟨T3, _, _, _, (some (.int (own_gc i9 i13))), X3, nofun, by decide, by decide, ?_, fun fs hr => ?_⟩
    · rw [e3]
      exact ⟨rfl, N3, rfl⟩
    · refine st1 _ ?_
      refine XS.ifYes X1.here hx rfl (pc0 := 3) (pc' := 19) rfl (B d25_3) rfl ((if0 _ _).trans (feq (by decide : ¬ ((1 : Int32) = (0 : Int32)))).2) (by decide) (by decide) ?_
      refine sI X1 hx (B d25_19) rfl ?_
      refine XS.ifYes X1.here hx rfl (pc0 := 20) (pc' := 28) rfl (B d25_20) rfl ((if0 _ _).trans (teq (by decide : (0 : Int32) = (0 : Int32))).1) (by decide) (by decide) ?_
      refine sA X1 hx (B d25_28) rfl rfl ?_
      refine sI X1 hx (B d25_29) rfl ?_
      refine st2 _ ?_
      refine XS.istore X2.here hx rfl (B d25_33) rfl (l' := #[vr a1, vi i2, vi i3, vi 0, vi (own_gc i9 i13), un]) rfl ?_
      refine sJ X2 hx (B d25_35) rfl ?_
      refine st3 _ ?_
      refine XS.ifYes X3.here hx rfl (pc0 := 40) (pc' := 83) rfl (B d25_40) rfl ((if0 _ _).trans (teq cc1).1) (by decide) (by decide) ?_
      refine sJ X3 hx (B d25_83) rfl ?_
      exact retI X3 hx hret (B d25_85) hr
  · refine ⟨T3, _, _, _, (some (.int (own_gc i9 i13))), X3, nofun, by decide, by decide, ?_, fun fs hr => ?_⟩
    · rw [e3]
      exact ⟨rfl, N3, rfl⟩
    · refine st1 _ ?_
      refine XS.ifYes X1.here hx rfl (pc0 := 3) (pc' := 19) rfl (B d25_3) rfl ((if0 _ _).trans (feq (by decide : ¬ ((1 : Int32) = (0 : Int32)))).2) (by decide) (by decide) ?_
      refine sI X1 hx (B d25_19) rfl ?_
      refine XS.ifYes X1.here hx rfl (pc0 := 20) (pc' := 28) rfl (B d25_20) rfl ((if0 _ _).trans (teq (by decide : (0 : Int32) = (0 : Int32))).1) (by decide) (by decide) ?_
      refine sA X1 hx (B d25_28) rfl rfl ?_
      refine sI X1 hx (B d25_29) rfl ?_
      refine st2 _ ?_
      refine XS.istore X2.here hx rfl (B d25_33) rfl (l' := #[vr a1, vi i2, vi i3, vi 0, vi (own_gc i9 i13), un]) rfl ?_
      refine sJ X2 hx (B d25_35) rfl ?_
      refine st3 _ ?_
      refine XS.ifNo X3.here hx rfl (B d25_40) rfl ((if0 _ _).trans (feq cc1).1) ?_
      refine XS.iinc X3.here hx rfl (B d25_43) rfl (l' := #[vr a1, vi (i2 + (1 : Int32)), vi i3, vi 0, vi (own_gc i9 i13), un]) rfl ?_
      refine sI X3 hx (B d25_46) rfl ?_
      refine sI X3 hx (B d25_47) rfl ?_
      refine XS.icmpYes X3.here hx rfl (pc0 := 48) (pc' := 83) rfl (B d25_48) rfl (flt c26).2.1 (by decide) (by decide) ?_
      refine sJ X3 hx (B d25_83) rfl ?_
      exact retI X3 hx hret (B d25_85) hr
abbrev Rm43 : Room := rmk 2 0 0 30
def Q43 (Z : State) (a1 : Addr) (i2 i3 : Int32) (u4 : List Value) (ck5 : ClassId) (i6 i9 i13 : Int32) (h0 : Heap) (n0 : Nat) (v : Option Value) (h : Heap) (L : List Loc) : Prop := v = some (.int (own_gc i9 i13)) ∧ Fr n0 L ∧ h = h0
theorem rm43 (l : Launch) (Z : State) {a0 : Array Value} (hw : OW a0 Z) (a1 : Addr) (i2 i3 : Int32) (u4 : List Value) (ck5 : ClassId) (i6 i9 i13 : Int32) (h0 : Heap) (n0 : Nat) (Z0 : n0 ≤ h0.size) (S__assertionsDisabled : Sta Z Z.heap "java/lang/StringUTF16" "$assertionsDisabled" "Z" (.int 1)) (Od0 : Old Z n0 h0) (V_a1 : Arv Z h0 a1 ck5 .byte i6 u4 (.int 0)) (c7 : ¬ ((i2 <<< ((1 : Int32) &&& 31)) < 0)) (c8 : (i2 <<< ((1 : Int32) &&& 31)) < i6) (rd10 : u4.getD ((i2 <<< ((1 : Int32) &&& 31))).toNatClampNeg (.int 0) = (.int i9)) (S_HI_BYTE_SHIFT : Sta Z Z.heap "java/lang/StringUTF16" "HI_BYTE_SHIFT" "I" (.int 0)) (c11 : ¬ (((i2 <<< ((1 : Int32) &&& 31)) + (1 : Int32)) < 0)) (c12 : ((i2 <<< ((1 : Int32) &&& 31)) + (1 : Int32)) < i6) (rd14 : u4.getD (((i2 <<< ((1 : Int32) &&& 31)) + (1 : Int32))).toNatClampNeg (.int 0) = (.int i13)) (S_LO_BYTE_SHIFT : Sta Z Z.heap "java/lang/StringUTF16" "LO_BYTE_SHIFT" "I" (.int 8)) (c15 : ¬ ((own_gc i9 i13) < 55296)) (c16 : ¬ ((i2 + (1 : Int32)) < i3)) :
    OwnMet l Z y_24 jdk_52_method_8_code 3 (some .int) [] Rm43 #[(.ref a1), (.int i2), (.int i3)] h0 (Q43 Z a1 i2 i3 u4 ck5 i6 i9 i13 h0 n0) := by
  refine own_body (plainFor_of_name pn_3) (ef_36ebd5 a1 i2 i3) ?_
  intro p e s m below meth c s₁ hx hby hml hown hnm hret hZ X0 e0
  have N0 := Fr.nil n0
  have B := hbx hby
  obtain ⟨_, T1, L1, X1, hQ1, st1⟩ := own_callS X0 hx hZ hown (y := y_23) (w_109 hw) (w_110 hw) (w_55 hw) (w_111 hw) (rm42 l Z hw a1 i2 i3 u4 ck5 i6 i9 i13 h0 n0 Z0 S__assertionsDisabled Od0 V_a1 c7 c8 rd10 S_HI_BYTE_SHIFT c11 c12 rd14 S_LO_BYTE_SHIFT c15 c16) e0 (Ls := #[vr a1, vi i2, vi i3]) hml.symm (argsL := [(.ref a1), (.int i2), (.int i3), (.int 0)]) (rest := []) (lenOf pd_19 rfl) (B d24_4) (W := 0)
  obtain ⟨rfl, Nq1, e1⟩ := hQ1
  have N1 := Fr.app N0 Nq1
  refine ⟨T1, _, _, _, (some (.int (own_gc i9 i13))), X1, nofun, by decide, by decide, ?_, fun fs hr => ?_⟩
  · rw [e1]
    exact ⟨rfl, N1, rfl⟩
  · refine sA X0 hx (B d24_0) rfl rfl ?_
    refine sI X0 hx (B d24_1) rfl ?_
    refine sI X0 hx (B d24_2) rfl ?_
    refine sC X0 hx (B d24_3) ?_
    refine st1 _ ?_
    exact retI X1 hx hret (B d24_7) hr
abbrev Rm44 : Room := rmk 3 0 0 44
def Q44 (Z : State) (a1 : Addr) (i2 i3 : Int32) (a5 : Addr) (u6 : List Value) (ck7 : ClassId) (i8 : Int32) (r9 : Value) (i14 i18 : Int32) (h0 : Heap) (n0 : Nat) (v : Option Value) (h : Heap) (L : List Loc) : Prop := v = some (.int (own_gc i14 i18)) ∧ Fr n0 L ∧ h = h0
theorem rm44 (l : Launch) (Z : State) {a0 : Array Value} (hw : OW a0 Z) (a1 : Addr) (i2 i3 : Int32) (a5 : Addr) (u6 : List Value) (ck7 : ClassId) (i8 : Int32) (r9 : Value) (i14 i18 : Int32) (h0 : Heap) (n0 : Nat) (Z0 : n0 ≤ h0.size) (E_a1 : Exa Z h0 a1 jS) (S_COMPACT_STRINGS : Sta Z Z.heap "java/lang/String" "COMPACT_STRINGS" "Z" (.int i3)) (Od0 : Old Z n0 h0) (c4 : ¬ (i3 = 0)) (F_coder_a1 : Fld Z h0 a1 jS "coder" "B" (.int 1)) (F_value_a1 : Fld Z h0 a1 jS "value" "[B" (.ref a5)) (V_a5 : Arv Z h0 a5 ck7 .byte i8 u6 (.int 0)) (R_r9 : r9.isRef = true) (S_SIOOBE_FORMATTER : Sta Z Z.heap "jdk/internal/util/Preconditions" "SIOOBE_FORMATTER" "Ljava/util/function/BiFunction;" r9) (c10 : ¬ (i2 < 0)) (c11 : i2 < (i8 >>> ((1 : Int32) &&& 31))) (S__assertionsDisabled : Sta Z Z.heap "java/lang/StringUTF16" "$assertionsDisabled" "Z" (.int 1)) (c12 : ¬ ((i2 <<< ((1 : Int32) &&& 31)) < 0)) (c13 : (i2 <<< ((1 : Int32) &&& 31)) < i8) (rd15 : u6.getD ((i2 <<< ((1 : Int32) &&& 31))).toNatClampNeg (.int 0) = (.int i14)) (S_HI_BYTE_SHIFT : Sta Z Z.heap "java/lang/StringUTF16" "HI_BYTE_SHIFT" "I" (.int 0)) (c16 : ¬ (((i2 <<< ((1 : Int32) &&& 31)) + (1 : Int32)) < 0)) (c17 : ((i2 <<< ((1 : Int32) &&& 31)) + (1 : Int32)) < i8) (rd19 : u6.getD (((i2 <<< ((1 : Int32) &&& 31)) + (1 : Int32))).toNatClampNeg (.int 0) = (.int i18)) (S_LO_BYTE_SHIFT : Sta Z Z.heap "java/lang/StringUTF16" "LO_BYTE_SHIFT" "I" (.int 8)) (c20 : ¬ ((own_gc i14 i18) < 55296)) (c21 : ¬ ((i2 + (1 : Int32)) < (i8 >>> ((1 : Int32) &&& 31)))) :
    OwnMet l Z y_25 jdk_42_method_57_code 3 (some .int) [] Rm44 #[(.ref a1), (.int i2)] h0 (Q44 Z a1 i2 i3 a5 u6 ck7 i8 r9 i14 i18 h0 n0) := by
  refine own_body (plainFor_of_name pn_1) (ef_3faa85 a1 i2) ?_
  intro p e s m below meth c s₁ hx hby hml hown hnm hret hZ X0 e0
  have N0 := Fr.nil n0
  have B := hbx hby
  obtain ⟨_, T1, L1, X1, hQ1, st1⟩ := own_virtual X0 hx hZ hown (y := y_19) (z := y_19) E_a1 (w_93 hw) (w_94 hw) (own_nf hZ (w_96 hw)) (w_96 hw) (w_95 hw) (w_14 hw) (w_97 hw) (rm29 l Z hw a1 i3 h0 n0 Z0 S_COMPACT_STRINGS Od0 c4 F_coder_a1) e0 (Ls := #[vr a1, vi i2, un]) hml.symm (argsL := []) (rest := []) (lenOf pd_16 rfl) (B d20_1) (W := 0)
  obtain ⟨rfl, Nq1, e1⟩ := hQ1
  have N1 := Fr.app N0 Nq1
  obtain ⟨T2, X2, e2, st2⟩ := getF X1 hx hZ hown (host := "") (Or.inl (w_32 hw)) Via.refl e1 F_value_a1 (g := (mkF m 28 #[vr a1, vi i2, un] [(.ref a1)])) rfl rfl (B d20_28)
  obtain ⟨cl3, Ar3, q3, S3, M3, Hs3, G3⟩ := id V_a5
  obtain ⟨_, T4, L4, X4, hQ4, st4⟩ := own_callS X2 hx hZ hown (y := y_21) (w_98 hw) (w_99 hw) (w_14 hw) (w_100 hw) (rm31 l Z hw i2 (i8 >>> ((1 : Int32) &&& 31)) r9 h0 n0 Z0 R_r9 S_SIOOBE_FORMATTER Od0 c10 c11) e2 (Ls := #[vr a1, vi i2, vi (i8 >>> ((1 : Int32) &&& 31))]) hml.symm (argsL := [(.int i2), (.int (i8 >>> ((1 : Int32) &&& 31)))]) (rest := []) (lenOf pd_18 rfl) (B d20_37) (W := 0)
  obtain ⟨rfl, Nq4, e4⟩ := hQ4
  have N4 := Fr.app N1 Nq4
  obtain ⟨T5, X5, e5, st5⟩ := getF X4 hx hZ hown (host := "") (Or.inl (w_32 hw)) Via.refl e4 F_value_a1 (g := (mkF m 41 #[vr a1, vi i2, vi (i8 >>> ((1 : Int32) &&& 31))] [(.ref a1)])) rfl rfl (B d20_41)
  obtain ⟨_, T6, L6, X6, hQ6, st6⟩ := own_callS X5 hx hZ hown (y := y_24) (w_106 hw) (w_107 hw) (w_55 hw) (w_108 hw) (rm43 l Z hw a5 i2 (i8 >>> ((1 : Int32) &&& 31)) u6 ck7 i8 i14 i18 h0 n0 Z0 S__assertionsDisabled Od0 V_a5 c12 c13 rd15 S_HI_BYTE_SHIFT c16 c17 rd19 S_LO_BYTE_SHIFT c20 c21) e5 (Ls := #[vr a1, vi i2, vi (i8 >>> ((1 : Int32) &&& 31))]) hml.symm (argsL := [(.ref a5), (.int i2), (.int (i8 >>> ((1 : Int32) &&& 31)))]) (rest := []) (lenOf pd_20 rfl) (B d20_46) (W := 0)
  obtain ⟨rfl, Nq6, e6⟩ := hQ6
  have N6 := Fr.app N4 Nq6
  refine ⟨T6, _, _, _, (some (.int (own_gc i14 i18))), X6, nofun, by decide, by decide, ?_, fun fs hr => ?_⟩
  · rw [e6]
    exact ⟨rfl, N6, rfl⟩
  · refine sA X0 hx (B d20_0) rfl rfl ?_
    refine st1 _ ?_
    refine XS.ifYes X1.here hx rfl (pc0 := 4) (pc' := 27) rfl (B d20_4) rfl ((if0 _ _).trans (teq (by decide : (0 : Int32) = (0 : Int32))).1) (by decide) (by decide) ?_
    refine sA X1 hx (B d20_27) rfl rfl ?_
    refine st2 _ ?_
    refine X2.arraylength hx (by rw [e2]; exact Ar3.1) (State.isArrayOf_alike hZ.alike Ar3.2.1) (g := (mkF m 31 #[vr a1, vi i2, un] [(.ref a5)])) rfl rfl (B d20_31) _ ?_
    show Steps p.tables e below (T2.setTop (mkF m 32 #[vr a1, vi i2, un] [(.int cl3.slots.size.toInt32)])) _
    rw [len_of S3 M3]
    refine sC X2 hx (B d20_32) ?_
    refine XS.ishr X2.here hx rfl (B d20_33) rfl ?_
    refine XS.istoreN X2.here hx rfl (B d20_34) rfl (l' := #[vr a1, vi i2, vi (i8 >>> ((1 : Int32) &&& 31))]) rfl ?_
    refine sI X2 hx (B d20_35) rfl ?_
    refine sI X2 hx (B d20_36) rfl ?_
    refine st4 _ ?_
    refine sA X4 hx (B d20_40) rfl rfl ?_
    refine st5 _ ?_
    refine sI X5 hx (B d20_44) rfl ?_
    refine sI X5 hx (B d20_45) rfl ?_
    refine st6 _ ?_
    exact retI X6 hx hret (B d20_49) hr
theorem d7_22 : decode Kc7 22 = .ok (.iload_n 2, 1) := by decide +kernel
theorem d7_23 : decode Kc7 23 = .ok (.ldc 158, 2) := by decide +kernel
theorem w_125 {a0 Z} (hw : OW a0 Z) : Jvm.Cond.before (.constant "com/example/sidwire/sidwire/cbor/CborWriter" 158 (57343 : Int32)) a0 Z := hw _ (mo 125 rfl)
theorem d7_25 : decode Kc7 25 = .ok (.if_icmp .gt 5, 3) := by decide +kernel
def own_tc (v0 v1 : Int32) : Int32 := (if (own_gc v0 v1) < 55296 then (0 : Int32) else (if 57343 < (own_gc v0 v1) then (0 : Int32) else (1 : Int32)))
theorem tn45 (l : Launch) (Z : State) {a0 : Array Value} (hw : OW a0 Z) (a1 : Addr) (i2 : Int32) (o2 : Slot) (a3 : Addr) (u4 : List Value) (ck5 : ClassId) (i6 i7 : Int32) (r10 : Value) (i14 i18 : Int32) (h0 : Heap) (n0 : Nat) (Z0 : n0 ≤ h0.size) (ho2 : o2 = .unset ∨ ∃ x, o2 = .val (.int x)) (E_a1 : Exa Z h0 a1 jS) (F_value_a1 : Fld Z h0 a1 jS "value" "[B" (.ref a3)) (V_a3 : Arv Z h0 a3 ck5 .byte i6 u4 (.int 0)) (S_COMPACT_STRINGS : Sta Z Z.heap "java/lang/String" "COMPACT_STRINGS" "Z" (.int i7)) (Od0 : Old Z n0 h0) (c8 : ¬ (i7 = 0)) (F_coder_a1 : Fld Z h0 a1 jS "coder" "B" (.int 1)) (c9 : i2 < (i6 >>> ((1 : Int32) &&& 31))) (R_r10 : r10.isRef = true) (S_SIOOBE_FORMATTER : Sta Z Z.heap "jdk/internal/util/Preconditions" "SIOOBE_FORMATTER" "Ljava/util/function/BiFunction;" r10) (c11 : ¬ (i2 < 0)) (S__assertionsDisabled : Sta Z Z.heap "java/lang/StringUTF16" "$assertionsDisabled" "Z" (.int 1)) (c12 : ¬ ((i2 <<< ((1 : Int32) &&& 31)) < 0)) (c13 : (i2 <<< ((1 : Int32) &&& 31)) < i6) (rd15 : u4.getD ((i2 <<< ((1 : Int32) &&& 31))).toNatClampNeg (.int 0) = (.int i14)) (S_HI_BYTE_SHIFT : Sta Z Z.heap "java/lang/StringUTF16" "HI_BYTE_SHIFT" "I" (.int 0)) (c16 : ¬ (((i2 <<< ((1 : Int32) &&& 31)) + (1 : Int32)) < 0)) (c17 : ((i2 <<< ((1 : Int32) &&& 31)) + (1 : Int32)) < i6) (rd19 : u4.getD (((i2 <<< ((1 : Int32) &&& 31)) + (1 : Int32))).toNatClampNeg (.int 0) = (.int i18)) (S_LO_BYTE_SHIFT : Sta Z Z.heap "java/lang/StringUTF16" "LO_BYTE_SHIFT" "I" (.int 8)) (c20 : ¬ ((i2 + (1 : Int32)) < (i6 >>> ((1 : Int32) &&& 31)))) (c52 : (own_tc i14 i18) = 0) {p : Program} {e : Env} {s : State} {m : MethodId} {args : Array Value} {below : List Frame} {meth : Method} {c : Code} {s₁ : State} {L0 : List Loc} {ce sl : Nat} (hx : p.tables.exec = Jvm.exec) (hby : c.code = prog_10_method_10_code) (hml : c.maxLocals = 3) (hown : s.vm.findClass "com/example/sidwire/sidwire/cbor/CborWriter" = some m.cls) (hZ : Z.Warmed39 s.vm) (X0 : Stand p l e RmT7 s m args below meth c s₁ L0 ce sl) (e0 : s₁.heap = h0) (N0 : Fr n0 L0) (hce : ce ≤ RmT7.cells) (hsl : sl ≤ RmT7.slots) :
    ∃ (T : State) (L : List Loc), Stand p l e RmT7 s m args below meth c T L ce sl ∧ T.heap = h0 ∧ Fr n0 L ∧ ∀ target, Steps p.tables e below (T.setTop (mkF m 2 #[vr a1, vi (i2 + (1 : Int32)), vi (own_gc i14 i18)] [])) target → Steps p.tables e below (s₁.setTop (mkF m 2 #[vr a1, vi i2, o2] [])) target := by
  have B := hbx hby
  obtain ⟨_, T1, L1, X1, hQ1, st1⟩ := own_virtual X0 hx hZ hown (y := y_7) (z := y_7) E_a1 (w_41 hw) (w_42 hw) (own_nf hZ (w_44 hw)) (w_44 hw) (w_43 hw) (w_14 hw) (w_45 hw) (rm28 l Z hw a1 a3 u4 ck5 i6 i7 h0 n0 Z0 F_value_a1 V_a3 E_a1 S_COMPACT_STRINGS Od0 c8 F_coder_a1) e0 (Ls := #[vr a1, vi i2, o2]) hml.symm (argsL := []) (rest := [(.int i2)]) (lenOf pd_6 rfl) (B d7_4) (W := 1) (hc := hce) (hs := hsl)
  obtain ⟨rfl, Nq1, e1⟩ := hQ1
  have N1 := Fr.app N0 Nq1
  by_cases cc1 : (own_gc i14 i18) < 55296
  · obtain ⟨_, T2, L2, X2, hQ2, st2⟩ := own_virtual X1 hx hZ hown (y := y_25) (z := y_25) E_a1 (w_88 hw) (w_89 hw) (own_nf hZ (w_91 hw)) (w_91 hw) (w_90 hw) (w_14 hw) (w_92 hw) (rm39 l Z hw a1 i2 i7 a3 u4 ck5 i6 r10 i14 i18 h0 n0 Z0 E_a1 S_COMPACT_STRINGS Od0 c8 F_coder_a1 F_value_a1 V_a3 R_r10 S_SIOOBE_FORMATTER c11 c9 S__assertionsDisabled c12 c13 rd15 S_HI_BYTE_SHIFT c16 c17 rd19 S_LO_BYTE_SHIFT cc1) e1 (Ls := #[vr a1, vi i2, o2]) hml.symm (argsL := [(.int i2)]) (rest := []) (lenOf pd_9 rfl) (B d7_12) (W := 0) (hc := hce) (hs := hsl)
    obtain ⟨rfl, Nq2, e2⟩ := hQ2
    have N2 := Fr.app N1 Nq2
    have cd3 : (own_gc i14 i18) < 65536 := (by rw [Int32.lt_iff_toInt_lt]; have := rng32 (own_gc i14 i18); have := own_gc_b i14 i18; have : ((65536 : Int32)).toInt = 65536 := (by decide); omega)
    obtain ⟨_, T4, L4, X4, hQ4, st4⟩ := own_callS X2 hx hZ hown (y := y_26) (w_118 hw) (w_119 hw) (w_114 hw) (w_120 hw) (rm40 l Z hw (own_gc i14 i18) h0 n0 Z0 cd3) e2 (Ls := #[vr a1, vi i2, vi (own_gc i14 i18)]) hml.symm (argsL := [(.int (own_gc i14 i18))]) (rest := [(.int i2)]) (lenOf pd_9 rfl) (B d7_32) (W := 1) (hc := hce) (hs := hsl)
    obtain ⟨rfl, Nq4, e4⟩ := hQ4
    have N4 := Fr.app N2 Nq4
    refine ⟨T4, _, X4, e4, N4, fun target hr => ?_⟩
    rcases ho2 with rfl | ⟨_, rfl⟩
    all_goals
      refine sI X0 hx (B d7_2) rfl ?_
      refine sA X0 hx (B d7_3) rfl rfl ?_
      refine st1 _ ?_
      refine XS.icmpNo X1.here hx rfl (B d7_7) rfl (tlt c9).2.1 ?_
      refine sA X1 hx (B d7_10) rfl rfl ?_
      refine sI X1 hx (B d7_11) rfl ?_
      refine st2 _ ?_
      refine XS.istoreN X2.here hx rfl (B d7_15) rfl (l' := #[vr a1, vi i2, vi (own_gc i14 i18)]) rfl ?_
      refine sI X2 hx (B d7_16) rfl ?_
      refine X2.ldcInt hx hown (mvT hZ (w_117 hw)) (g := (mkF m 17 #[vr a1, vi i2, vi (own_gc i14 i18)] [(.int (own_gc i14 i18))])) rfl (B d7_17) _ ?_
      refine XS.icmpYes X2.here hx rfl (pc0 := 19) (pc' := 30) rfl (B d7_19) rfl (tlt cc1).1 (by decide) (by decide) ?_
      refine sI X2 hx (B d7_30) rfl ?_
      refine sI X2 hx (B d7_31) rfl ?_
      refine st4 _ ?_
      refine XS.iadd X4.here hx rfl (B d7_35) rfl ?_
      refine XS.istoreN X4.here hx rfl (B d7_36) rfl (l' := #[vr a1, vi (i2 + (1 : Int32)), vi (own_gc i14 i18)]) rfl ?_
      refine XS.goto X4.here hx rfl (pc0 := 37) (pc' := 2) rfl (B d7_37) (by decide) (by decide) ?_
      exact hr
  · obtain ⟨_, T2, L2, X2, hQ2, st2⟩ := own_virtual X1 hx hZ hown (y := y_25) (z := y_25) E_a1 (w_88 hw) (w_89 hw) (own_nf hZ (w_91 hw)) (w_91 hw) (w_90 hw) (w_14 hw) (w_92 hw) (rm44 l Z hw a1 i2 i7 a3 u4 ck5 i6 r10 i14 i18 h0 n0 Z0 E_a1 S_COMPACT_STRINGS Od0 c8 F_coder_a1 F_value_a1 V_a3 R_r10 S_SIOOBE_FORMATTER c11 c9 S__assertionsDisabled c12 c13 rd15 S_HI_BYTE_SHIFT c16 c17 rd19 S_LO_BYTE_SHIFT cc1 c20) e1 (Ls := #[vr a1, vi i2, o2]) hml.symm (argsL := [(.int i2)]) (rest := []) (lenOf pd_9 rfl) (B d7_12) (W := 0) (hc := hce) (hs := hsl)
    obtain ⟨rfl, Nq2, e2⟩ := hQ2
    have N2 := Fr.app N1 Nq2
    have cd3 : (own_gc i14 i18) < 65536 := (by rw [Int32.lt_iff_toInt_lt]; have := rng32 (own_gc i14 i18); have := own_gc_b i14 i18; have : ((65536 : Int32)).toInt = 65536 := (by decide); omega)
    obtain ⟨_, T4, L4, X4, hQ4, st4⟩ := own_callS X2 hx hZ hown (y := y_26) (w_118 hw) (w_119 hw) (w_114 hw) (w_120 hw) (rm40 l Z hw (own_gc i14 i18) h0 n0 Z0 cd3) e2 (Ls := #[vr a1, vi i2, vi (own_gc i14 i18)]) hml.symm (argsL := [(.int (own_gc i14 i18))]) (rest := [(.int i2)]) (lenOf pd_9 rfl) (B d7_32) (W := 1) (hc := hce) (hs := hsl)
    obtain ⟨rfl, Nq4, e4⟩ := hQ4
    have N4 := Fr.app N2 Nq4
    by_cases cc2 : 57343 < (own_gc i14 i18)
    · refine ⟨T4, _, X4, e4, N4, fun target hr => ?_⟩
      rcases ho2 with rfl | ⟨_, rfl⟩
      all_goals
        refine sI X0 hx (B d7_2) rfl ?_
        refine sA X0 hx (B d7_3) rfl rfl ?_
        refine st1 _ ?_
        refine XS.icmpNo X1.here hx rfl (B d7_7) rfl (tlt c9).2.1 ?_
        refine sA X1 hx (B d7_10) rfl rfl ?_
        refine sI X1 hx (B d7_11) rfl ?_
        refine st2 _ ?_
        refine XS.istoreN X2.here hx rfl (B d7_15) rfl (l' := #[vr a1, vi i2, vi (own_gc i14 i18)]) rfl ?_
        refine sI X2 hx (B d7_16) rfl ?_
        refine X2.ldcInt hx hown (mvT hZ (w_117 hw)) (g := (mkF m 17 #[vr a1, vi i2, vi (own_gc i14 i18)] [(.int (own_gc i14 i18))])) rfl (B d7_17) _ ?_
        refine XS.icmpNo X2.here hx rfl (B d7_19) rfl (flt cc1).1 ?_
        refine sI X2 hx (B d7_22) rfl ?_
        refine X2.ldcInt hx hown (mvT hZ (w_125 hw)) (g := (mkF m 23 #[vr a1, vi i2, vi (own_gc i14 i18)] [(.int (own_gc i14 i18))])) rfl (B d7_23) _ ?_
        refine XS.icmpYes X2.here hx rfl (pc0 := 25) (pc' := 30) rfl (B d7_25) rfl (tlt cc2).2.2.1 (by decide) (by decide) ?_
        refine sI X2 hx (B d7_30) rfl ?_
        refine sI X2 hx (B d7_31) rfl ?_
        refine st4 _ ?_
        refine XS.iadd X4.here hx rfl (B d7_35) rfl ?_
        refine XS.istoreN X4.here hx rfl (B d7_36) rfl (l' := #[vr a1, vi (i2 + (1 : Int32)), vi (own_gc i14 i18)]) rfl ?_
        refine XS.goto X4.here hx rfl (pc0 := 37) (pc' := 2) rfl (B d7_37) (by decide) (by decide) ?_
        exact hr
    · exact absurd c52 (by unfold own_tc; rw [if_neg cc1, if_neg cc2]; decide)
theorem tn46 (l : Launch) (Z : State) {a0 : Array Value} (hw : OW a0 Z) (a1 : Addr) (i2 : Int32) (o2 : Slot) (a3 : Addr) (u4 : List Value) (ck5 : ClassId) (i6 i7 : Int32) (h0 : Heap) (n0 : Nat) (Z0 : n0 ≤ h0.size) (ho2 : o2 = .unset ∨ ∃ x, o2 = .val (.int x)) (E_a1 : Exa Z h0 a1 jS) (F_value_a1 : Fld Z h0 a1 jS "value" "[B" (.ref a3)) (V_a3 : Arv Z h0 a3 ck5 .byte i6 u4 (.int 0)) (S_COMPACT_STRINGS : Sta Z Z.heap "java/lang/String" "COMPACT_STRINGS" "Z" (.int i7)) (Od0 : Old Z n0 h0) (c8 : ¬ (i7 = 0)) (F_coder_a1 : Fld Z h0 a1 jS "coder" "B" (.int 1)) (c9 : ¬ (i2 < (i6 >>> ((1 : Int32) &&& 31)))) {p : Program} {e : Env} {s : State} {m : MethodId} {args : Array Value} {below : List Frame} {meth : Method} {c : Code} {s₁ : State} {L0 : List Loc} {ce sl : Nat} (hx : p.tables.exec = Jvm.exec) (hby : c.code = prog_10_method_10_code) (hml : c.maxLocals = 3) (hown : s.vm.findClass "com/example/sidwire/sidwire/cbor/CborWriter" = some m.cls) (hZ : Z.Warmed39 s.vm) (X0 : Stand p l e RmT7 s m args below meth c s₁ L0 ce sl) (e0 : s₁.heap = h0) (N0 : Fr n0 L0) (hce : ce ≤ RmT7.cells) (hsl : sl ≤ RmT7.slots) :
    ∃ (T : State) (L : List Loc), Stand p l e RmT7 s m args below meth c T L ce sl ∧ T.heap = h0 ∧ Fr n0 L ∧ ∀ target, Steps p.tables e below (T.setTop (mkF m 40 #[vr a1, vi i2, o2] [])) target → Steps p.tables e below (s₁.setTop (mkF m 2 #[vr a1, vi i2, o2] [])) target := by
  have B := hbx hby
  obtain ⟨_, T1, L1, X1, hQ1, st1⟩ := own_virtual X0 hx hZ hown (y := y_7) (z := y_7) E_a1 (w_41 hw) (w_42 hw) (own_nf hZ (w_44 hw)) (w_44 hw) (w_43 hw) (w_14 hw) (w_45 hw) (rm28 l Z hw a1 a3 u4 ck5 i6 i7 h0 n0 Z0 F_value_a1 V_a3 E_a1 S_COMPACT_STRINGS Od0 c8 F_coder_a1) e0 (Ls := #[vr a1, vi i2, o2]) hml.symm (argsL := []) (rest := [(.int i2)]) (lenOf pd_6 rfl) (B d7_4) (W := 1) (hc := hce) (hs := hsl)
  obtain ⟨rfl, Nq1, e1⟩ := hQ1
  have N1 := Fr.app N0 Nq1
  refine ⟨T1, _, X1, e1, N1, fun target hr => ?_⟩
  rcases ho2 with rfl | ⟨_, rfl⟩
  all_goals
    refine sI X0 hx (B d7_2) rfl ?_
    refine sA X0 hx (B d7_3) rfl rfl ?_
    refine st1 _ ?_
    refine XS.icmpYes X1.here hx rfl (pc0 := 7) (pc' := 40) rfl (B d7_7) rfl (flt c9).2.1 (by decide) (by decide) ?_
    exact hr
theorem tn47 (l : Launch) (Z : State) {a0 : Array Value} (hw : OW a0 Z) (a1 : Addr) (i2 : Int32) (o2 : Slot) (a3 : Addr) (u4 : List Value) (ck5 : ClassId) (i6 i7 : Int32) (r10 : Value) (i14 i18 : Int32) (h0 : Heap) (n0 : Nat) (Z0 : n0 ≤ h0.size) (ho2 : o2 = .unset ∨ ∃ x, o2 = .val (.int x)) (E_a1 : Exa Z h0 a1 jS) (F_value_a1 : Fld Z h0 a1 jS "value" "[B" (.ref a3)) (V_a3 : Arv Z h0 a3 ck5 .byte i6 u4 (.int 0)) (S_COMPACT_STRINGS : Sta Z Z.heap "java/lang/String" "COMPACT_STRINGS" "Z" (.int i7)) (Od0 : Old Z n0 h0) (c8 : ¬ (i7 = 0)) (F_coder_a1 : Fld Z h0 a1 jS "coder" "B" (.int 1)) (c9 : i2 < (i6 >>> ((1 : Int32) &&& 31))) (R_r10 : r10.isRef = true) (S_SIOOBE_FORMATTER : Sta Z Z.heap "jdk/internal/util/Preconditions" "SIOOBE_FORMATTER" "Ljava/util/function/BiFunction;" r10) (c11 : ¬ (i2 < 0)) (S__assertionsDisabled : Sta Z Z.heap "java/lang/StringUTF16" "$assertionsDisabled" "Z" (.int 1)) (c12 : ¬ ((i2 <<< ((1 : Int32) &&& 31)) < 0)) (c13 : (i2 <<< ((1 : Int32) &&& 31)) < i6) (rd15 : u4.getD ((i2 <<< ((1 : Int32) &&& 31))).toNatClampNeg (.int 0) = (.int i14)) (S_HI_BYTE_SHIFT : Sta Z Z.heap "java/lang/StringUTF16" "HI_BYTE_SHIFT" "I" (.int 0)) (c16 : ¬ (((i2 <<< ((1 : Int32) &&& 31)) + (1 : Int32)) < 0)) (c17 : ((i2 <<< ((1 : Int32) &&& 31)) + (1 : Int32)) < i6) (rd19 : u4.getD (((i2 <<< ((1 : Int32) &&& 31)) + (1 : Int32))).toNatClampNeg (.int 0) = (.int i18)) (S_LO_BYTE_SHIFT : Sta Z Z.heap "java/lang/StringUTF16" "LO_BYTE_SHIFT" "I" (.int 8)) (c20 : ¬ ((i2 + (1 : Int32)) < (i6 >>> ((1 : Int32) &&& 31)))) (c52 : ¬ ((own_tc i14 i18) = 0)) {p : Program} {e : Env} {s : State} {m : MethodId} {args : Array Value} {below : List Frame} {meth : Method} {c : Code} {s₁ : State} {L0 : List Loc} {ce sl : Nat} (hx : p.tables.exec = Jvm.exec) (hby : c.code = prog_10_method_10_code) (hml : c.maxLocals = 3) (hown : s.vm.findClass "com/example/sidwire/sidwire/cbor/CborWriter" = some m.cls) (hZ : Z.Warmed39 s.vm) (X0 : Stand p l e RmT7 s m args below meth c s₁ L0 ce sl) (e0 : s₁.heap = h0) (N0 : Fr n0 L0) (hce : ce ≤ RmT7.cells) (hsl : sl ≤ RmT7.slots) :
    ∃ (T : State) (L : List Loc), Stand p l e RmT7 s m args below meth c T L ce sl ∧ T.heap = h0 ∧ Fr n0 L ∧ ∀ target, Steps p.tables e below (T.setTop (mkF m 28 #[vr a1, vi i2, vi (own_gc i14 i18)] [])) target → Steps p.tables e below (s₁.setTop (mkF m 2 #[vr a1, vi i2, o2] [])) target := by
  have B := hbx hby
  obtain ⟨_, T1, L1, X1, hQ1, st1⟩ := own_virtual X0 hx hZ hown (y := y_7) (z := y_7) E_a1 (w_41 hw) (w_42 hw) (own_nf hZ (w_44 hw)) (w_44 hw) (w_43 hw) (w_14 hw) (w_45 hw) (rm28 l Z hw a1 a3 u4 ck5 i6 i7 h0 n0 Z0 F_value_a1 V_a3 E_a1 S_COMPACT_STRINGS Od0 c8 F_coder_a1) e0 (Ls := #[vr a1, vi i2, o2]) hml.symm (argsL := []) (rest := [(.int i2)]) (lenOf pd_6 rfl) (B d7_4) (W := 1) (hc := hce) (hs := hsl)
  obtain ⟨rfl, Nq1, e1⟩ := hQ1
  have N1 := Fr.app N0 Nq1
  by_cases cc1 : (own_gc i14 i18) < 55296
  · exact absurd (by unfold own_tc; rw [if_pos cc1]) c52
  · obtain ⟨_, T2, L2, X2, hQ2, st2⟩ := own_virtual X1 hx hZ hown (y := y_25) (z := y_25) E_a1 (w_88 hw) (w_89 hw) (own_nf hZ (w_91 hw)) (w_91 hw) (w_90 hw) (w_14 hw) (w_92 hw) (rm44 l Z hw a1 i2 i7 a3 u4 ck5 i6 r10 i14 i18 h0 n0 Z0 E_a1 S_COMPACT_STRINGS Od0 c8 F_coder_a1 F_value_a1 V_a3 R_r10 S_SIOOBE_FORMATTER c11 c9 S__assertionsDisabled c12 c13 rd15 S_HI_BYTE_SHIFT c16 c17 rd19 S_LO_BYTE_SHIFT cc1 c20) e1 (Ls := #[vr a1, vi i2, o2]) hml.symm (argsL := [(.int i2)]) (rest := []) (lenOf pd_9 rfl) (B d7_12) (W := 0) (hc := hce) (hs := hsl)
    obtain ⟨rfl, Nq2, e2⟩ := hQ2
    have N2 := Fr.app N1 Nq2
    by_cases cc2 : 57343 < (own_gc i14 i18)
    · exact absurd (by unfold own_tc; rw [if_neg cc1, if_pos cc2]) c52
    · refine ⟨T2, _, X2, e2, N2, fun target hr => ?_⟩
      rcases ho2 with rfl | ⟨_, rfl⟩
      all_goals
        refine sI X0 hx (B d7_2) rfl ?_
        refine sA X0 hx (B d7_3) rfl rfl ?_
        refine st1 _ ?_
        refine XS.icmpNo X1.here hx rfl (B d7_7) rfl (tlt c9).2.1 ?_
        refine sA X1 hx (B d7_10) rfl rfl ?_
        refine sI X1 hx (B d7_11) rfl ?_
        refine st2 _ ?_
        refine XS.istoreN X2.here hx rfl (B d7_15) rfl (l' := #[vr a1, vi i2, vi (own_gc i14 i18)]) rfl ?_
        refine sI X2 hx (B d7_16) rfl ?_
        refine X2.ldcInt hx hown (mvT hZ (w_117 hw)) (g := (mkF m 17 #[vr a1, vi i2, vi (own_gc i14 i18)] [(.int (own_gc i14 i18))])) rfl (B d7_17) _ ?_
        refine XS.icmpNo X2.here hx rfl (B d7_19) rfl (flt cc1).1 ?_
        refine sI X2 hx (B d7_22) rfl ?_
        refine X2.ldcInt hx hown (mvT hZ (w_125 hw)) (g := (mkF m 23 #[vr a1, vi i2, vi (own_gc i14 i18)] [(.int (own_gc i14 i18))])) rfl (B d7_23) _ ?_
        refine XS.icmpNo X2.here hx rfl (B d7_25) rfl (flt cc2).2.2.1 ?_
        exact hr
theorem d7_28 : decode Kc7 28 = .ok (.iload_n 1, 1) := by decide +kernel
theorem d7_29 : decode Kc7 29 = .ok (.ireturn, 1) := by decide +kernel
def own_un (v0 v1 : Int32) : Int32 := (if (own_tc v0 v1) = 0 then (-1 : Int32) else (0 : Int32))
abbrev Rm48 : Room := rmk 8 0 0 150
def Q48 (Z : State) (a1 a2 : Addr) (i3 i4 : Int32) (ck5 : ClassId) (i6 : Int32) (r8 : Value) (h0 : Heap) (n0 : Nat) (v : Option Value) (h : Heap) (L : List Loc) : Prop := v = some (.int (own_un i3 i4)) ∧ Fr n0 L ∧ h = h0
theorem rm48 (l : Launch) (Z : State) {a0 : Array Value} (hw : OW a0 Z) (a1 a2 : Addr) (i3 i4 : Int32) (ck5 : ClassId) (i6 : Int32) (r8 : Value) (h0 : Heap) (n0 : Nat) (Z0 : n0 ≤ h0.size) (E_a1 : Exa Z h0 a1 jS) (F_value_a1 : Fld Z h0 a1 jS "value" "[B" (.ref a2)) (V_a2 : Arv Z h0 a2 ck5 .byte 2 [(.int i3), (.int i4)] (.int 0)) (S_COMPACT_STRINGS : Sta Z Z.heap "java/lang/String" "COMPACT_STRINGS" "Z" (.int i6)) (Od0 : Old Z n0 h0) (c7 : ¬ (i6 = 0)) (F_coder_a1 : Fld Z h0 a1 jS "coder" "B" (.int 1)) (R_r8 : r8.isRef = true) (S_SIOOBE_FORMATTER : Sta Z Z.heap "jdk/internal/util/Preconditions" "SIOOBE_FORMATTER" "Ljava/util/function/BiFunction;" r8) (S__assertionsDisabled : Sta Z Z.heap "java/lang/StringUTF16" "$assertionsDisabled" "Z" (.int 1)) (S_HI_BYTE_SHIFT : Sta Z Z.heap "java/lang/StringUTF16" "HI_BYTE_SHIFT" "I" (.int 0)) (S_LO_BYTE_SHIFT : Sta Z Z.heap "java/lang/StringUTF16" "LO_BYTE_SHIFT" "I" (.int 8)) :
    OwnMet l Z y_8 prog_10_method_10_code 3 (some .int) [] Rm48 #[(.ref a1)] h0 (Q48 Z a1 a2 i3 i4 ck5 i6 r8 h0 n0) := by
  refine own_body (plainFor_of_name pn_2) (ef_aae876 a1) ?_
  intro p e s m below meth c s₁ hx hby hml hown hnm hret hZ X0 e0
  have N0 := Fr.nil n0
  have B := hbx hby
  by_cases cc1 : (own_tc i3 i4) = 0
  · obtain ⟨T1, L1, X1, e1, N1, st1⟩ := tn45 l Z hw a1 (0 : Int32) .unset a2 [(.int i3), (.int i4)] ck5 (2 : Int32) i6 r8 i3 i4 h0 n0 Z0 (Or.inl rfl) E_a1 F_value_a1 V_a2 S_COMPACT_STRINGS Od0 c7 F_coder_a1 (by decide) R_r8 S_SIOOBE_FORMATTER (by decide) S__assertionsDisabled (by decide) (by decide) rfl S_HI_BYTE_SHIFT (by decide) (by decide) rfl S_LO_BYTE_SHIFT (by decide) cc1 hx hby hml hown hZ X0 e0 N0 (by decide) (by decide)
    obtain ⟨T2, L2, X2, e2, N2, st2⟩ := tn46 l Z hw a1 (1 : Int32) (vi (own_gc i3 i4)) a2 [(.int i3), (.int i4)] ck5 (2 : Int32) i6 h0 n0 Z0 (Or.inr ⟨_, rfl⟩) E_a1 F_value_a1 V_a2 S_COMPACT_STRINGS Od0 c7 F_coder_a1 (by decide) hx hby hml hown hZ X1 e1 N1 (by decide) (by decide)
    refine ⟨T2, _, _, _, (some (.int (-1))), X2, nofun, by decide, by decide, ?_, fun fs hr => ?_⟩
    · rw [e2]
      unfold Q48
      rw [show (own_un i3 i4) = (-1 : Int32) from by unfold own_un; rw [if_pos cc1]]
      exact ⟨rfl, N2, rfl⟩
    · refine sC X0 hx (B d7_0) ?_
      refine XS.istoreN X0.here hx rfl (B d7_1) rfl (l' := #[vr a1, vi 0, un]) rfl ?_
      refine st1 _ ?_
      refine st2 _ ?_
      refine sC X2 hx (B d7_40) ?_
      exact retI X2 hx hret (B d7_41) hr
  · obtain ⟨T1, L1, X1, e1, N1, st1⟩ := tn47 l Z hw a1 (0 : Int32) .unset a2 [(.int i3), (.int i4)] ck5 (2 : Int32) i6 r8 i3 i4 h0 n0 Z0 (Or.inl rfl) E_a1 F_value_a1 V_a2 S_COMPACT_STRINGS Od0 c7 F_coder_a1 (by decide) R_r8 S_SIOOBE_FORMATTER (by decide) S__assertionsDisabled (by decide) (by decide) rfl S_HI_BYTE_SHIFT (by decide) (by decide) rfl S_LO_BYTE_SHIFT (by decide) cc1 hx hby hml hown hZ X0 e0 N0 (by decide) (by decide)
    refine ⟨T1, _, _, _, (some (.int 0)), X1, nofun, by decide, by decide, ?_, fun fs hr => ?_⟩
    · rw [e1]
      unfold Q48
      rw [show (own_un i3 i4) = (0 : Int32) from by unfold own_un; rw [if_neg cc1]]
      exact ⟨rfl, N1, rfl⟩
    · refine sC X0 hx (B d7_0) ?_
      refine XS.istoreN X0.here hx rfl (B d7_1) rfl (l' := #[vr a1, vi 0, un]) rfl ?_
      refine st1 _ ?_
      refine sI X1 hx (B d7_28) rfl ?_
      exact retI X1 hx hret (B d7_29) hr
def own_kk (a : Int32) : Int32 := if a < 55296 then 0 else if a < 56320 then 1 else if a < 57344 then 2 else 0
theorem own_kk3 (a : Int32) : own_kk a = 0 ∨ own_kk a = 1 ∨ own_kk a = 2 := by
  unfold own_kk
  by_cases h1 : a < 55296
  · rw [if_pos h1]; exact Or.inl rfl
  · rw [if_neg h1]
    by_cases h2 : a < 56320
    · rw [if_pos h2]; exact Or.inr (Or.inl rfl)
    · rw [if_neg h2]
      by_cases h3 : a < 57344
      · rw [if_pos h3]; exact Or.inr (Or.inr rfl)
      · rw [if_neg h3]; exact Or.inl rfl
theorem own_kk1 (a : Int32) : own_kk a = 1 ↔ 55296 ≤ a.toInt ∧ a.toInt < 56320 := by
  unfold own_kk
  simp only [Int32.lt_iff_toInt_lt, show (55296 : Int32).toInt = 55296 from by decide, show (56320 : Int32).toInt = 56320 from by decide, show (57344 : Int32).toInt = 57344 from by decide]
  by_cases h1 : a.toInt < 55296
  · rw [if_pos h1]; exact ⟨fun q => absurd q (by decide), fun q => absurd h1 (by omega)⟩
  · rw [if_neg h1]
    by_cases h2 : a.toInt < 56320
    · rw [if_pos h2]; exact ⟨fun _ => by omega, fun _ => rfl⟩
    · rw [if_neg h2]
      by_cases h3 : a.toInt < 57344
      · rw [if_pos h3]; exact ⟨fun q => absurd q (by decide), fun q => absurd q.2 h2⟩
      · rw [if_neg h3]; exact ⟨fun q => absurd q (by decide), fun q => absurd q.2 h2⟩
theorem own_kk2 (a : Int32) : own_kk a = 2 ↔ 56320 ≤ a.toInt ∧ a.toInt < 57344 := by
  unfold own_kk
  simp only [Int32.lt_iff_toInt_lt, show (55296 : Int32).toInt = 55296 from by decide, show (56320 : Int32).toInt = 56320 from by decide, show (57344 : Int32).toInt = 57344 from by decide]
  by_cases h1 : a.toInt < 55296
  · rw [if_pos h1]; exact ⟨fun q => absurd q (by decide), fun q => absurd h1 (by omega)⟩
  · rw [if_neg h1]
    by_cases h2 : a.toInt < 56320
    · rw [if_pos h2]; exact ⟨fun q => absurd q (by decide), fun q => absurd q.1 (by omega)⟩
    · rw [if_neg h2]
      by_cases h3 : a.toInt < 57344
      · rw [if_pos h3]; exact ⟨fun _ => by omega, fun _ => rfl⟩
      · rw [if_neg h3]; exact ⟨fun q => absurd q (by decide), fun q => absurd q.2 h3⟩
theorem own_i (x n : Int32) (k : Int) (h : n.toInt = k) : (x < n ↔ x.toInt < k) ∧ (n < x ↔ k < x.toInt) := by
  rw [← h]; exact ⟨Int32.lt_iff_toInt_lt, Int32.lt_iff_toInt_lt⟩
theorem own_hi_k (a : Int32) : own_hi a = if own_kk a = 1 then 1 else 0 := by
  unfold own_hi
  simp only [(own_i a 55296 55296 (by decide)).1, (own_i a 56319 56319 (by decide)).2]
  by_cases h : own_kk a = 1
  · have q := (own_kk1 a).mp h
    rw [if_pos h, if_neg (by omega), if_neg (by omega)]
  · have q : ¬ (55296 ≤ a.toInt ∧ a.toInt < 56320) := fun z => h ((own_kk1 a).mpr z)
    rw [if_neg h]
    by_cases h1 : a.toInt < 55296
    · rw [if_pos h1]
    · rw [if_neg h1, if_pos (by omega)]
theorem own_lw_k (a : Int32) : own_lw a = if own_kk a = 2 then 1 else 0 := by
  unfold own_lw
  simp only [(own_i a 56320 56320 (by decide)).1, (own_i a 57343 57343 (by decide)).2]
  by_cases h : own_kk a = 2
  · have q := (own_kk2 a).mp h
    rw [if_pos h, if_neg (by omega), if_neg (by omega)]
  · have q : ¬ (56320 ≤ a.toInt ∧ a.toInt < 57344) := fun z => h ((own_kk2 a).mpr z)
    rw [if_neg h]
    by_cases h1 : a.toInt < 56320
    · rw [if_pos h1]
    · rw [if_neg h1, if_pos (by omega)]
theorem own_tc_k (a : Int32) (h0 : ¬ a < 0) (h1 : ¬ 65535 < a) : own_tc (nar .byte ((a >>> ((0 : Int32) &&& 31)).toInt8.toInt32)) (nar .byte ((a >>> ((8 : Int32) &&& 31)).toInt8.toInt32)) = if own_kk a = 0 then 0 else 1 := by
  unfold own_tc
  rw [own_gcN a h0 h1]
  have e1 := own_kk1 a
  have e2 := own_kk2 a
  rw [(own_i a 0 0 (by decide)).1] at h0
  rw [(own_i a 65535 65535 (by decide)).2] at h1
  simp only [(own_i a 55296 55296 (by decide)).1, (own_i a 57343 57343 (by decide)).2]
  rcases own_kk3 a with h | h | h
  · have q1 : ¬ own_kk a = 1 := by rw [h]; decide
    have q2 : ¬ own_kk a = 2 := by rw [h]; decide
    rw [e1] at q1; rw [e2] at q2; rw [if_pos h]
    by_cases k : a.toInt < 55296
    · rw [if_pos k]
    · rw [if_neg k, if_pos (by omega)]
  · have q := e1.mp h
    rw [if_neg (show ¬ own_kk a = 0 from by rw [h]; decide), if_neg (by omega), if_neg (by omega)]
  · have q := e2.mp h
    rw [if_neg (show ¬ own_kk a = 0 from by rw [h]; decide), if_neg (by omega), if_neg (by omega)]
theorem own_finU_1 (c0 : Int32) (l0 : ¬ c0 < 0) (g0 : ¬ 65535 < c0) : own_un (nar .byte ((c0 >>> ((0 : Int32) &&& 31)).toInt8.toInt32)) (nar .byte ((c0 >>> ((8 : Int32) &&& 31)).toInt8.toInt32)) = own_ex c0 := by
  unfold own_un own_ex own_ln
  simp only [own_tc_k c0 l0 g0, own_hi_k, own_lw_k]
  rcases own_kk3 c0 with k0 | k0 | k0 <;> simp only [k0] <;> decide
abbrev Rm49 : Room := rmk 1 1 1 18
def Q49 (Z : State) (a1 : Addr) (i2 : Int32) (ck3 : ClassId) (h0 : Heap) (n0 : Nat) (v : Option Value) (h : Heap) (L : List Loc) : Prop := ∃ m0 : Addr, ∃ kk1 : ClassId, v = some (.ref m0) ∧ Fr n0 L ∧ Keep h0 h [] ∧ h0.size ≤ m0 ∧ Exa Z h m0 "[B" ∧ Arv Z h m0 kk1 .byte 1 [(.int (nar .byte (i2.toInt8.toInt32)))] (.int 0)
theorem rm49 (l : Launch) (Z : State) {a0 : Array Value} (hw : OW a0 Z) (a1 : Addr) (i2 : Int32) (ck3 : ClassId) (h0 : Heap) (n0 : Nat) (Z0 : n0 ≤ h0.size) (V_a1 : Arv Z h0 a1 ck3 .char 1 [(.int i2)] (.int 0)) (S__assertionsDisabled : Sta Z Z.heap "java/lang/StringUTF16" "$assertionsDisabled" "Z" (.int 1)) (Od0 : Old Z n0 h0) (S_HI_BYTE_SHIFT : Sta Z Z.heap "java/lang/StringUTF16" "HI_BYTE_SHIFT" "I" (.int 0)) (S_LO_BYTE_SHIFT : Sta Z Z.heap "java/lang/StringUTF16" "LO_BYTE_SHIFT" "I" (.int 8)) (c4 : ¬ (65535 < i2)) (c5 : ¬ ((own_cc i2) = 0)) :
    OwnMet l Z y_15 jdk_52_method_16_code 6 (some (.array .byte)) [] Rm49 #[(.ref a1), (.int 0), (.int 1)] h0 (Q49 Z a1 i2 ck3 h0 n0) := by
  refine own_body (plainFor_of_name pn_3) (ef_1b50a4 a1) ?_
  intro p e s m below meth c s₁ hx hby hml hown hnm hret hZ X0 e0
  have N0 := Fr.nil n0
  have B := hbx hby
  obtain ⟨T1, h1, k1, X1, e1, E1, A1, B1, st1⟩ := newPE (aty := .byte) X0 hx hZ (w_27 hw) e0 (g := (mkF m 1 #[vr a1, vi 0, vi 1, un, un, un] [(.int 1)])) rfl (B d10_1) rfl (by decide) (cap := 1) (by decide) (by decide) (by decide) (by decide) (ad := "[B") (by decide)
  obtain ⟨b1, g1⟩ : ∃ z, z = h0.size := ⟨_, rfl⟩
  rw [← g1] at A1 B1 st1
  have s0 := E1.1
  have Vn1 : Arv Z h1 b1 k1 .byte 1 [(.int 0)] (.int 0) := (Arv.new A1 (by decide)).pad (pad_rep [] (.int 0) 1)
  have Va2 := (V_a1.ext E1)
  have g_b1 : n0 ≤ b1 := Nat.le_trans Z0 (Nat.le_of_eq g1.symm)
  have z1 := Nat.le_trans Z0 s0
  by_cases cc1 : 255 < i2
  · exact absurd (by unfold own_cc; rw [if_pos cc1]) c5
  · obtain ⟨_, T3, L3, X3, hQ3, st3⟩ := own_callS X1 hx hZ hown (y := y_9) (w_57 hw) (w_58 hw) (w_55 hw) (w_59 hw) (rm17 l Z hw a1 b1 i2 ck3 k1 h1 n0 z1 Va2 cc1 Vn1 g_b1 B1) e1 (Ls := #[vr a1, vi 0, vi 1, vr b1, un, un]) hml.symm (argsL := [(.ref a1), (.int 0), (.ref b1), (.int 0), (.int 1)]) (rest := []) (lenOf pd_8 rfl) (B d10_9) (W := 0)
    obtain ⟨rfl, Nq3, K3, o3_0, o3_1⟩ := hQ3
    have N3 := Fr.app N0 Nq3
    have s1 := K3.1
    have sz_b1 : h0.size ≤ b1 := (Nat.le_of_eq g1.symm)
    have Kp0 := (Keep.refl h0 []).ext E1
    have Kp1 := Kp0.trans K3 (allS (Or.inr sz_b1) all0)
    refine ⟨T3, _, _, _, (some (.ref b1)), X3, nofun, by decide, by decide, ?_, fun fs hr => ?_⟩
    · exact ⟨b1, k1, rfl, N3, Kp1, sz_b1, o3_0, o3_1⟩
    · refine sI X0 hx (B d10_0) rfl ?_
      refine st1 _ ?_
      refine XS.astoreN X1.here hx rfl (B d10_3) rfl rfl (l' := #[vr a1, vi 0, vi 1, vr b1, un, un]) rfl ?_
      refine sA X1 hx (B d10_4) rfl rfl ?_
      refine sI X1 hx (B d10_5) rfl ?_
      refine sA X1 hx (B d10_6) rfl rfl ?_
      refine sC X1 hx (B d10_7) ?_
      refine sI X1 hx (B d10_8) rfl ?_
      refine st3 _ ?_
      refine XS.istore X3.here hx rfl (B d10_12) rfl (l' := #[vr a1, vi 0, vi 1, vr b1, vi 1, un]) rfl ?_
      refine sJ X3 hx (B d10_14) rfl ?_
      refine sI X3 hx (B d10_16) rfl ?_
      refine XS.icmpYes X3.here hx rfl (pc0 := 17) (pc' := 57) rfl (B d10_17) rfl (teq (by decide : (1 : Int32) = (1 : Int32))).1 (by decide) (by decide) ?_
      refine sA X3 hx (B d10_57) rfl rfl ?_
      exact retOut X3 hx hret rfl (Or.inr (Or.inr (Or.inr (Or.inr ⟨rfl, rfl, rfl⟩)))) (B d10_58) hr
abbrev Rm50 : Room := rmk 2 1 1 35
def Q50 (Z : State) (a1 a2 : Addr) (i3 i5 : Int32) (ck6 : ClassId) (h0 : Heap) (n0 : Nat) (v : Option Value) (h : Heap) (L : List Loc) : Prop := ∃ b3_0 : Addr, ∃ k3_1 : ClassId, v = none ∧ Fr n0 L ∧ Keep h0 h [a1] ∧ Exa Z h a1 jS ∧ Fld Z h a1 jS "coder" "B" (.int 0) ∧ Fld Z h a1 jS "value" "[B" (.ref b3_0) ∧ h0.size ≤ b3_0 ∧ Exa Z h b3_0 "[B" ∧ Arv Z h b3_0 k3_1 .byte 1 [(.int (nar .byte (i5.toInt8.toInt32)))] (.int 0)
theorem rm50 (l : Launch) (Z : State) {a0 : Array Value} (hw : OW a0 Z) (a1 a2 : Addr) (i3 i5 : Int32) (ck6 : ClassId) (h0 : Heap) (n0 : Nat) (Z0 : n0 ≤ h0.size) (S_COMPACT_STRINGS : Sta Z Z.heap "java/lang/String" "COMPACT_STRINGS" "Z" (.int i3)) (Od0 : Old Z n0 h0) (c4 : ¬ (i3 = 0)) (V_a2 : Arv Z h0 a2 ck6 .char 1 [(.int i5)] (.int 0)) (S__assertionsDisabled : Sta Z Z.heap "java/lang/StringUTF16" "$assertionsDisabled" "Z" (.int 1)) (S_HI_BYTE_SHIFT : Sta Z Z.heap "java/lang/StringUTF16" "HI_BYTE_SHIFT" "I" (.int 0)) (S_LO_BYTE_SHIFT : Sta Z Z.heap "java/lang/StringUTF16" "LO_BYTE_SHIFT" "I" (.int 8)) (c7 : ¬ (65535 < i5)) (c8 : ¬ ((own_cc i5) = 0)) (F_coder_a1 : Fld Z h0 a1 jS "coder" "B" (.int 0)) (E_a1 : Exa Z h0 a1 jS) (g_a1 : n0 ≤ a1) (F_value_a1 : Fld Z h0 a1 jS "value" "[B" .null) :
    OwnMet l Z y_2 jdk_42_method_149_code 6 none [] Rm50 #[(.ref a1), (.ref a2), (.int 0), (.int 1), .null] h0 (Q50 Z a1 a2 i3 i5 ck6 h0 n0) := by
  refine own_body (plainFor_of_name pn_1) (ef_83ffd8 a1 a2) ?_
  intro p e s m below meth c s₁ hx hby hml hown hnm hret hZ X0 e0
  have N0 := Fr.nil n0
  have B := hbx hby
  obtain ⟨T1, X1, e1, st1⟩ := initO X0 hx hZ hown (w_23 hw) (w_24 hw) (w_25 hw) e0 (g := (mkF m 1 #[vr a1, vr a2, vi 0, vi 1, .val .null, un] [(.ref a1)])) rfl hml.symm rfl (B d4_1) (by decide) (W := 0) (by show 2 * 0 + _ ≤ _; exact Nat.le_of_eq rfl) (by decide)
  obtain ⟨T2, X2, e2, st2⟩ := getS2 X1 hx hZ hown (host := "") (Or.inl (w_51 hw)) Via.refl e1 (S_COMPACT_STRINGS.ext Od0.2) (g := (mkF m 27 #[vr a1, vr a2, vi 0, vi 1, .val .null, un] [])) rfl (B d4_27)
  obtain ⟨_, T3, L3, X3, hQ3, st3⟩ := own_callS X2 hx hZ hown (y := y_15) (w_53 hw) (w_54 hw) (w_55 hw) (w_56 hw) (rm49 l Z hw a2 i5 ck6 h0 n0 Z0 V_a2 S__assertionsDisabled Od0 S_HI_BYTE_SHIFT S_LO_BYTE_SHIFT c7 c8) e2 (Ls := #[vr a1, vr a2, vi 0, vi 1, .val .null, un]) hml.symm (argsL := [(.ref a2), (.int 0), (.int 1)]) (rest := []) (lenOf pd_12 rfl) (B d4_36) (W := 0)
  obtain ⟨b3_0, k3_1, rfl, Nq3, K3, o3_0, o3_1, o3_2⟩ := hQ3
  have N3 := Fr.app N0 Nq3
  have s0 := K3.1
  have z1 := Nat.le_trans Z0 s0
  obtain ⟨_, T4, L4, X4, hQ4, st4⟩ := own_callS X3 hx hZ hown (y := y_16) (w_79 hw) (w_80 hw) (w_55 hw) (w_81 hw) (rm19 l Z hw b3_0 (1 : Int32) [(.int (nar .byte (i5.toInt8.toInt32)))] k3_1 (1 : Int32) T3.heap n0 z1 o3_2) rfl (Ls := #[vr a1, vr a2, vi 0, vi 1, .val .null, vr b3_0]) hml.symm (argsL := [(.ref b3_0), (.int 1)]) (rest := [(.ref a1)]) (lenOf pd_14 rfl) (B d4_45) (W := 1)
  obtain ⟨rfl, Nq4, e4⟩ := hQ4
  have N4 := Fr.app N3 Nq4
  have Fl5 := (F_coder_a1.keep K3 nin0)
  have Ex6 := (E_a1.keep K3)
  obtain ⟨T7, h7, X7, e7, W7, st7⟩ := putFN X4 hx hZ hown (w_33 hw) Via.refl e4 Fl5 Ex6 (Or.inr ⟨(w_29 hw), rfl, hnm⟩) (w_13 hw) (ty := .byte) (v' := (.int (nar .byte (0 : Int32)))) (by decide) rfl (fits_nar_byte _) (g := (mkF m 48 #[vr a1, vr a2, vi 0, vi 1, .val .null, vr b3_0] [(.int 0), (.ref a1)])) rfl rfl (B d4_48)
  have s1 := (Keep.of_wr W7).1
  have N7 := Fr.snoc X7 N4 g_a1
  have Fw7 : Fld Z h7 a1 jS "coder" "B" (.int 0) := Fl5.same W7
  have Ex8 := (Ex6.wr W7)
  have Fl9 := ((F_value_a1.keep K3 nin0).other W7 (Or.inr (slot_ne (Or.inr (w_28 hw)) (Or.inr (w_29 hw)) (by decide) (t := (.array .byte)) (t' := .byte) (by decide) (by decide))))
  obtain ⟨T10, h10, X10, e10, W10, st10⟩ := putF X7 hx hZ hown (host := "") (Or.inl (w_32 hw)) Via.refl e7 Fl9 Ex8 (Or.inr ⟨(w_28 hw), rfl, hnm⟩) (w_13 hw) (ty := (.array .byte)) (by decide) rfl rfl (g := (mkF m 54 #[vr a1, vr a2, vi 0, vi 1, .val .null, vr b3_0] [(.ref b3_0), (.ref a1)])) rfl rfl (B d4_54)
  have s2 := (Keep.of_wr W10).1
  have N10 := Fr.snoc X10 N7 g_a1
  have Fw10 : Fld Z h10 a1 jS "value" "[B" (.ref b3_0) := Fl9.same W10
  have Ex11 := (Ex8.wr W10)
  have Fl12 := (Fw7.other W10 (Or.inr (slot_ne (Or.inr (w_29 hw)) (Or.inr (w_28 hw)) (by decide) (t := .byte) (t' := (.array .byte)) (by decide) (by decide))))
  have sz_b3_0 : h0.size ≤ b3_0 := o3_0
  have Ex13 := ((o3_1.wr W7).wr W10)
  have ne_a1_b3_0 := Nat.ne_of_lt (Nat.lt_of_lt_of_le F_value_a1.lt o3_0)
  have Va14 := ((o3_2.other W7 (Ne.symm ne_a1_b3_0)).other W10 (Ne.symm ne_a1_b3_0))
  have Kp0 := (Keep.refl h0 [a1]).trans K3 all0
  have Kp1 := Kp0.wr W7 own_m0
  have Kp2 := Kp1.wr W10 own_m0
  refine ⟨T10, _, _, _, none, X10, (fun _ => rfl), by decide, by decide, ?_, fun fs hr => ?_⟩
  · rw [e10]
    exact ⟨b3_0, k3_1, rfl, N10, Kp2, Ex11, Fl12, Fw10, sz_b3_0, Ex13, Va14⟩
  · refine sA X0 hx (B d4_0) rfl rfl ?_
    refine st1 _ ?_
    refine sI X1 hx (B d4_4) rfl ?_
    refine XS.ifYes X1.here hx rfl (pc0 := 5) (pc' := 27) rfl (B d4_5) rfl ((if0 _ _).trans (feq (by decide : ¬ ((1 : Int32) = (0 : Int32)))).2) (by decide) (by decide) ?_
    refine st2 _ ?_
    refine XS.ifNo X2.here hx rfl (B d4_30) rfl ((if0 _ _).trans (feq c4).1) ?_
    refine sA X2 hx (B d4_33) rfl rfl ?_
    refine sI X2 hx (B d4_34) rfl ?_
    refine sI X2 hx (B d4_35) rfl ?_
    refine st3 _ ?_
    refine XS.astore X3.here hx rfl (B d4_39) rfl rfl (l' := #[vr a1, vr a2, vi 0, vi 1, .val .null, vr b3_0]) rfl ?_
    refine sA X3 hx (B d4_41) rfl rfl ?_
    refine sB X3 hx (B d4_42) rfl rfl ?_
    refine sI X3 hx (B d4_44) rfl ?_
    refine st4 _ ?_
    refine st7 _ ?_
    refine sA X7 hx (B d4_51) rfl rfl ?_
    refine sB X7 hx (B d4_52) rfl rfl ?_
    refine st10 _ ?_
    exact X10.returnOut hx hret (B d4_57) hr
abbrev Rm51 : Room := rmk 3 1 1 52
def Q51 (Z : State) (a1 a2 : Addr) (i3 : Int32) (ck4 : ClassId) (i5 : Int32) (h0 : Heap) (n0 : Nat) (v : Option Value) (h : Heap) (L : List Loc) : Prop := ∃ b2_0 : Addr, ∃ k2_1 : ClassId, v = none ∧ Fr n0 L ∧ Keep h0 h [a1] ∧ Exa Z h a1 jS ∧ Fld Z h a1 jS "coder" "B" (.int 0) ∧ Fld Z h a1 jS "value" "[B" (.ref b2_0) ∧ h0.size ≤ b2_0 ∧ Exa Z h b2_0 "[B" ∧ Arv Z h b2_0 k2_1 .byte 1 [(.int (nar .byte (i3.toInt8.toInt32)))] (.int 0)
theorem rm51 (l : Launch) (Z : State) {a0 : Array Value} (hw : OW a0 Z) (a1 a2 : Addr) (i3 : Int32) (ck4 : ClassId) (i5 : Int32) (h0 : Heap) (n0 : Nat) (Z0 : n0 ≤ h0.size) (V_a2 : Arv Z h0 a2 ck4 .char 1 [(.int i3)] (.int 0)) (S_COMPACT_STRINGS : Sta Z Z.heap "java/lang/String" "COMPACT_STRINGS" "Z" (.int i5)) (Od0 : Old Z n0 h0) (c6 : ¬ (i5 = 0)) (S__assertionsDisabled : Sta Z Z.heap "java/lang/StringUTF16" "$assertionsDisabled" "Z" (.int 1)) (S_HI_BYTE_SHIFT : Sta Z Z.heap "java/lang/StringUTF16" "HI_BYTE_SHIFT" "I" (.int 0)) (S_LO_BYTE_SHIFT : Sta Z Z.heap "java/lang/StringUTF16" "LO_BYTE_SHIFT" "I" (.int 8)) (c7 : ¬ (65535 < i3)) (c8 : ¬ ((own_cc i3) = 0)) (F_coder_a1 : Fld Z h0 a1 jS "coder" "B" (.int 0)) (E_a1 : Exa Z h0 a1 jS) (g_a1 : n0 ≤ a1) (F_value_a1 : Fld Z h0 a1 jS "value" "[B" .null) :
    OwnMet l Z y_3 jdk_42_method_3_code 2 none [] Rm51 #[(.ref a1), (.ref a2)] h0 (Q51 Z a1 a2 i3 ck4 i5 h0 n0) := by
  refine own_body (plainFor_of_name pn_1) (ef_463e93 a1 a2) ?_
  intro p e s m below meth c s₁ hx hby hml hown hnm hret hZ X0 e0
  have N0 := Fr.nil n0
  have B := hbx hby
  obtain ⟨cl1, Ar1, q1, S1, M1, Hs1, G1⟩ := id V_a2
  obtain ⟨_, T2, L2, X2, hQ2, st2⟩ := own_special X0 hx hZ hown (y := y_2) (a := a1) (w_19 hw) (w_20 hw) (w_14 hw) (w_22 hw) (rm50 l Z hw a1 a2 i5 i3 ck4 h0 n0 Z0 S_COMPACT_STRINGS Od0 c6 V_a2 S__assertionsDisabled S_HI_BYTE_SHIFT S_LO_BYTE_SHIFT c7 c8 F_coder_a1 E_a1 g_a1 F_value_a1) e0 (Ls := #[vr a1, vr a2]) hml.symm (argsL := [(.ref a2), (.int 0), (.int 1), .null]) (rest := []) (lenOf pd_1 rfl) (B d3_6) (W := 0)
  obtain ⟨b2_0, k2_1, rfl, Nq2, K2, o2_0, o2_1, o2_2, o2_3, o2_4, o2_5⟩ := hQ2
  have N2 := Fr.app N0 Nq2
  have s0 := K2.1
  have sz_b2_0 : h0.size ≤ b2_0 := o2_3
  have Kp0 := (Keep.refl h0 [a1]).trans K2 (allS own_m0 all0)
  refine ⟨T2, _, _, _, none, X2, (fun _ => rfl), by decide, by decide, ?_, fun fs hr => ?_⟩
  · exact ⟨b2_0, k2_1, rfl, N2, Kp0, o2_0, o2_1, o2_2, sz_b2_0, o2_4, o2_5⟩
  · refine sA X0 hx (B d3_0) rfl rfl ?_
    refine sA X0 hx (B d3_1) rfl rfl ?_
    refine sC X0 hx (B d3_2) ?_
    refine sA X0 hx (B d3_3) rfl rfl ?_
    refine X0.arraylength hx (by rw [e0]; exact Ar1.1) (State.isArrayOf_alike hZ.alike Ar1.2.1) (g := (mkF m 4 #[vr a1, vr a2] [(.ref a2), (.int 0), (.ref a2), (.ref a1)])) rfl rfl (B d3_4) _ ?_
    show Steps p.tables e below (s₁.setTop (mkF m 5 #[vr a1, vr a2] [(.int cl1.slots.size.toInt32), (.int 0), (.ref a2), (.ref a1)])) _
    rw [len_of S1 M1]
    refine XS.aconstNull X0.here hx rfl (B d3_5) ?_
    refine st2 _ ?_
    exact X2.returnOut hx hret (B d3_9) hr
abbrev Rm52 : Room := rmk 4 3 6 66
def Q52 (Z : State) (i1 i2 i3 i4 i5 : Int32) (h0 : Heap) (n0 : Nat) (v : Option Value) (h : Heap) (L : List Loc) : Prop := ∃ b1 : Addr, ∃ b10_0 : Addr, ∃ k10_1 : ClassId, v = some (.ref b1) ∧ Fr n0 L ∧ Keep h0 h [] ∧ h0.size ≤ b1 ∧ Exa Z h b1 jS ∧ Fld Z h b1 jS "coder" "B" (.int 0) ∧ Fld Z h b1 jS "value" "[B" (.ref b10_0) ∧ h0.size ≤ b10_0 ∧ Exa Z h b10_0 "[B" ∧ Arv Z h b10_0 k10_1 .byte 1 [(.int (nar .byte ((nar .char i1).toInt8.toInt32)))] (.int 0) ∧ b1 ≠ b10_0
theorem rm52 (l : Launch) (Z : State) {a0 : Array Value} (hw : OW a0 Z) (i1 i2 i3 i4 i5 : Int32) (h0 : Heap) (n0 : Nat) (Z0 : n0 ≤ h0.size) (S_COMPACT_STRINGS : Sta Z Z.heap "java/lang/String" "COMPACT_STRINGS" "Z" (.int i5)) (Od0 : Old Z n0 h0) (c6 : ¬ (i5 = 0)) (S__assertionsDisabled : Sta Z Z.heap "java/lang/StringUTF16" "$assertionsDisabled" "Z" (.int 1)) (S_HI_BYTE_SHIFT : Sta Z Z.heap "java/lang/StringUTF16" "HI_BYTE_SHIFT" "I" (.int 0)) (S_LO_BYTE_SHIFT : Sta Z Z.heap "java/lang/StringUTF16" "LO_BYTE_SHIFT" "I" (.int 8)) (c7 : ¬ ((own_cc (nar .char i1)) = 0)) :
    OwnMet l Z y_4 method_4_code 5 (some (.object "java/lang/String")) [] Rm52 #[(.int 1), (.int i1), (.int i2), (.int i3), (.int i4)] h0 (Q52 Z i1 i2 i3 i4 i5 h0 n0) := by
  refine own_body (plainFor_of_name pn_0) (ef_783491 i1 i2 i3 i4) ?_
  intro p e s m below meth c s₁ hx hby hml hown hnm hret hZ X0 e0
  have N0 := Fr.nil n0
  have B := hbx hby
  obtain ⟨T1, h1, X1, e1, E1, A1, D1, -, st1⟩ := newO X0 hx hZ hown (w_12 hw) (w_13 hw) (w_14 hw) e0 (g := (mkF m 20 #[vi 1, vi i1, vi i2, vi i3, vi i4] [])) rfl (B d2_20) (by decide) (by decide)
  obtain ⟨b1, g1⟩ : ∃ z, z = h0.size := ⟨_, rfl⟩
  rw [← g1] at A1 D1 st1
  have s0 := E1.1
  have Fn1_value : Fld Z h1 b1 jS "value" "[B" .null := D1 (Or.inr (w_28 hw)) (ty := (.array .byte)) (by decide)
  have Fn1_coder : Fld Z h1 b1 jS "coder" "B" (.int 0) := D1 (Or.inr (w_29 hw)) (ty := .byte) (by decide)
  obtain ⟨T2, h2, k2, X2, e2, E2, A2, B2, st2⟩ := newPE (aty := .char) X1 hx hZ (w_15 hw) e1 (g := (mkF m 25 #[vi 1, vi i1, vi i2, vi i3, vi i4] [(.int 1), (.ref b1), (.ref b1)])) rfl (B d2_25) rfl (by decide) (cap := 1) (by decide) (by decide) (by decide) (by decide) (ad := "[C") (by decide)
  obtain ⟨b2, g2⟩ : ∃ z, z = h1.size := ⟨_, rfl⟩
  rw [← g2] at A2 B2 st2
  have s1 := E2.1
  have Vn2 : Arv Z h2 b2 k2 .char 1 [(.int 0)] (.int 0) := (Arv.new A2 (by decide)).pad (pad_rep [] (.int 0) 1)
  obtain ⟨cl3, Ar3, q3, S3, M3, Hs3, G3⟩ := id Vn2
  have hin4 := inb_of (j := 0) S3 ⟨by decide, by decide⟩
  obtain ⟨T5, h5, X5, e5, W5, st5⟩ := stC X2 hx hZ e2 Ar3 (j := 0) hin4 (g := (mkF m 30 #[vi 1, vi i1, vi i2, vi i3, vi i4] [(.int i1), (.int 0), (.ref b2), (.ref b2), (.ref b1), (.ref b1)])) rfl rfl (B d2_30)
  have s2 := (Keep.of_wr W5).1
  have z1 := Nat.le_trans Z0 s0
  have g_b2 : n0 ≤ b2 := Nat.le_trans z1 (Nat.le_of_eq g2.symm)
  have N5 := Fr.snoc X5 N0 g_b2
  have Vs5 : Arv Z h5 b2 k2 .char 1 [(.int (nar .char i1))] (.int 0) := Arv.set Ar3 q3 S3 M3 Hs3 G3 (fits_nar_char _) W5 0 rfl (nl rfl)
  have Od1 := Od0.ext E1
  have Od2 := Od1.ext E2
  have Od3 := Od2.wr W5 g_b2
  have cd6 : ¬ (65535 < (nar .char i1)) := (by rw [Int32.lt_iff_toInt_lt]; have : ((65535 : Int32)).toInt = 65535 := (by decide); have := rng32 (nar .char i1); have := rng32 i1; have := own_c_nar_char i1; omega)
  have ne_b1_b2 := Nat.ne_of_lt (Nat.lt_of_lt_of_le Fn1_value.lt (Nat.le_of_eq g2.symm))
  have Fl7 := ((Fn1_coder.ext E2).other W5 (Or.inl ne_b1_b2))
  have Ex8 := ((A1.ext E2).wr W5)
  have g_b1 : n0 ≤ b1 := Nat.le_trans Z0 (Nat.le_of_eq g1.symm)
  have Fl9 := ((Fn1_value.ext E2).other W5 (Or.inl ne_b1_b2))
  have z3 := Nat.le_trans Z0 (Nat.le_trans (Nat.le_trans s0 s1) s2)
  obtain ⟨_, T10, L10, X10, hQ10, st10⟩ := own_special X5 hx hZ hown (y := y_3) (a := b1) (w_16 hw) (w_17 hw) (w_14 hw) (w_18 hw) (rm51 l Z hw b1 b2 (nar .char i1) k2 i5 h5 n0 z3 Vs5 S_COMPACT_STRINGS Od3 c6 S__assertionsDisabled S_HI_BYTE_SHIFT S_LO_BYTE_SHIFT cd6 c7 Fl7 Ex8 g_b1 Fl9) e5 (Ls := #[vi 1, vi i1, vi i2, vi i3, vi i4]) hml.symm (argsL := [(.ref b2)]) (rest := [(.ref b1)]) (lenOf pd_2 rfl) (B d2_31) (W := 1)
  obtain ⟨b10_0, k10_1, rfl, Nq10, K10, o10_0, o10_1, o10_2, o10_3, o10_4, o10_5⟩ := hQ10
  have N10 := Fr.app N5 Nq10
  have s3 := K10.1
  have sz_b1 : h0.size ≤ b1 := (Nat.le_of_eq g1.symm)
  have sz_b10_0 : h0.size ≤ b10_0 := Nat.le_trans (Nat.le_trans (Nat.le_trans s0 s1) s2) o10_3
  have ne_b1_b10_0 := Nat.ne_of_lt (Nat.lt_of_lt_of_le Fl9.lt o10_3)
  have Kp0 := (Keep.refl h0 []).ext E1
  have Kp1 := Kp0.ext E2
  have sz_b2 : h0.size ≤ b2 := Nat.le_trans s0 (Nat.le_of_eq g2.symm)
  have Kp2 := Kp1.wr W5 (Or.inr sz_b2)
  have Kp3 := Kp2.trans K10 (allS (Or.inr sz_b1) all0)
  refine ⟨T10, _, _, _, (some (.ref b1)), X10, nofun, by decide, by decide, ?_, fun fs hr => ?_⟩
  · exact ⟨b1, b10_0, k10_1, rfl, N10, Kp3, sz_b1, o10_0, o10_1, o10_2, sz_b10_0, o10_4, o10_5, ne_b1_b10_0⟩
  · refine sI X0 hx (B d2_0) rfl ?_
    refine XS.ifYes X0.here hx rfl (pc0 := 1) (pc' := 15) rfl (B d2_1) rfl ((if0 _ _).trans (feq (by decide : ¬ ((1 : Int32) = (0 : Int32)))).2) (by decide) (by decide) ?_
    refine sI X0 hx (B d2_15) rfl ?_
    refine sC X0 hx (B d2_16) ?_
    refine XS.icmpNo X0.here hx rfl (B d2_17) rfl (teq (by decide : (1 : Int32) = (1 : Int32))).2 ?_
    refine st1 _ ?_
    refine XS.dup X1.here hx rfl (B d2_23) rfl rfl ?_
    refine sC X1 hx (B d2_24) ?_
    refine st2 _ ?_
    refine XS.dup X2.here hx rfl (B d2_27) rfl rfl ?_
    refine sC X2 hx (B d2_28) ?_
    refine sI X2 hx (B d2_29) rfl ?_
    refine st5 _ ?_
    refine st10 _ ?_
    exact retOut X10 hx hret rfl (Or.inr (Or.inr (Or.inr (Or.inr ⟨rfl, rfl, rfl⟩)))) (B d2_34) hr
theorem d21_13 : decode Kc21 13 = .ok (.iconst 1, 1) := by decide +kernel
theorem d21_14 : decode Kc21 14 = .ok (.goto 4, 3) := by decide +kernel
abbrev Rm53 : Room := rmk 0 0 0 0
def Q53 (Z : State) (a1 : Addr) (i2 : Int32) (h0 : Heap) (n0 : Nat) (v : Option Value) (h : Heap) (L : List Loc) : Prop := v = some (.int 1) ∧ Fr n0 L ∧ h = h0
theorem rm53 (l : Launch) (Z : State) {a0 : Array Value} (hw : OW a0 Z) (a1 : Addr) (i2 : Int32) (h0 : Heap) (n0 : Nat) (Z0 : n0 ≤ h0.size) (S_COMPACT_STRINGS : Sta Z Z.heap "java/lang/String" "COMPACT_STRINGS" "Z" (.int i2)) (Od0 : Old Z n0 h0) (c3 : ¬ (i2 = 0)) (F_coder_a1 : Fld Z h0 a1 jS "coder" "B" (.int 0)) :
    OwnMet l Z y_19 jdk_42_method_154_code 1 (some .boolean) [] Rm53 #[(.ref a1)] h0 (Q53 Z a1 i2 h0 n0) := by
  refine own_body (plainFor_of_name pn_1) (ef_26f21a a1) ?_
  intro p e s m below meth c s₁ hx hby hml hown hnm hret hZ X0 e0
  have N0 := Fr.nil n0
  have B := hbx hby
  obtain ⟨T1, X1, e1, st1⟩ := getS2 X0 hx hZ hown (host := "") (Or.inl (w_51 hw)) Via.refl e0 (S_COMPACT_STRINGS.ext Od0.2) (g := (mkF m 0 #[vr a1] [])) rfl (B d21_0)
  obtain ⟨T2, X2, e2, st2⟩ := getF X1 hx hZ hown (host := "") (Or.inl (w_33 hw)) Via.refl e1 F_coder_a1 (g := (mkF m 7 #[vr a1] [(.ref a1)])) rfl rfl (B d21_7)
  refine ⟨T2, _, _, _, (some (.int 1)), X2, nofun, by decide, by decide, ?_, fun fs hr => ?_⟩
  · rw [e2]
    exact ⟨rfl, N0, rfl⟩
  · refine st1 _ ?_
    refine XS.ifNo X1.here hx rfl (B d21_3) rfl ((if0 _ _).trans (feq c3).1) ?_
    refine sA X1 hx (B d21_6) rfl rfl ?_
    refine st2 _ ?_
    refine XS.ifNo X2.here hx rfl (B d21_10) rfl ((if0 _ _).trans (teq (by decide : (0 : Int32) = (0 : Int32))).2) ?_
    refine sC X2 hx (B d21_13) ?_
    refine XS.goto X2.here hx rfl (pc0 := 14) (pc' := 18) rfl (B d21_14) (by decide) (by decide) ?_
    exact retN X2 hx (t := .boolean) hret (by simp) (B d21_18) hr
theorem d20_7 : decode Kc20 7 = .ok (.iload_n 1, 1) := by decide +kernel
theorem d20_8 : decode Kc20 8 = .ok (.aload_n 0, 1) := by decide +kernel
theorem d20_9 : decode Kc20 9 = .ok (.getfield 9, 3) := by decide +kernel
theorem d20_12 : decode Kc20 12 = .ok (.arraylength, 1) := by decide +kernel
theorem d20_13 : decode Kc20 13 = .ok (.invokestatic 499, 3) := by decide +kernel
theorem d20_16 : decode Kc20 16 = .ok (.aload_n 0, 1) := by decide +kernel
theorem d20_17 : decode Kc20 17 = .ok (.getfield 9, 3) := by decide +kernel
theorem d20_20 : decode Kc20 20 = .ok (.iload_n 1, 1) := by decide +kernel
theorem d20_21 : decode Kc20 21 = .ok (.baload, 1) := by decide +kernel
theorem d20_22 : decode Kc20 22 = .ok (.sipush 255, 3) := by decide +kernel
theorem d20_25 : decode Kc20 25 = .ok (.iand, 1) := by decide +kernel
theorem d20_26 : decode Kc20 26 = .ok (.ireturn, 1) := by decide +kernel
abbrev Rm54 : Room := rmk 2 0 0 27
def Q54 (Z : State) (a1 : Addr) (i2 i3 : Int32) (a5 : Addr) (u6 : List Value) (ck7 : ClassId) (i8 : Int32) (r9 : Value) (i12 : Int32) (h0 : Heap) (n0 : Nat) (v : Option Value) (h : Heap) (L : List Loc) : Prop := v = some (.int (i12 &&& (255 : Int32))) ∧ Fr n0 L ∧ h = h0
theorem rm54 (l : Launch) (Z : State) {a0 : Array Value} (hw : OW a0 Z) (a1 : Addr) (i2 i3 : Int32) (a5 : Addr) (u6 : List Value) (ck7 : ClassId) (i8 : Int32) (r9 : Value) (i12 : Int32) (h0 : Heap) (n0 : Nat) (Z0 : n0 ≤ h0.size) (E_a1 : Exa Z h0 a1 jS) (S_COMPACT_STRINGS : Sta Z Z.heap "java/lang/String" "COMPACT_STRINGS" "Z" (.int i3)) (Od0 : Old Z n0 h0) (c4 : ¬ (i3 = 0)) (F_coder_a1 : Fld Z h0 a1 jS "coder" "B" (.int 0)) (F_value_a1 : Fld Z h0 a1 jS "value" "[B" (.ref a5)) (V_a5 : Arv Z h0 a5 ck7 .byte i8 u6 (.int 0)) (R_r9 : r9.isRef = true) (S_SIOOBE_FORMATTER : Sta Z Z.heap "jdk/internal/util/Preconditions" "SIOOBE_FORMATTER" "Ljava/util/function/BiFunction;" r9) (c10 : ¬ (i2 < 0)) (c11 : i2 < i8) (rd13 : u6.getD (i2).toNatClampNeg (.int 0) = (.int i12)) :
    OwnMet l Z y_25 jdk_42_method_57_code 3 (some .int) [] Rm54 #[(.ref a1), (.int i2)] h0 (Q54 Z a1 i2 i3 a5 u6 ck7 i8 r9 i12 h0 n0) := by
  refine own_body (plainFor_of_name pn_1) (ef_3faa85 a1 i2) ?_
  intro p e s m below meth c s₁ hx hby hml hown hnm hret hZ X0 e0
  have N0 := Fr.nil n0
  have B := hbx hby
  obtain ⟨_, T1, L1, X1, hQ1, st1⟩ := own_virtual X0 hx hZ hown (y := y_19) (z := y_19) E_a1 (w_93 hw) (w_94 hw) (own_nf hZ (w_96 hw)) (w_96 hw) (w_95 hw) (w_14 hw) (w_97 hw) (rm53 l Z hw a1 i3 h0 n0 Z0 S_COMPACT_STRINGS Od0 c4 F_coder_a1) e0 (Ls := #[vr a1, vi i2, un]) hml.symm (argsL := []) (rest := []) (lenOf pd_16 rfl) (B d20_1) (W := 0)
  obtain ⟨rfl, Nq1, e1⟩ := hQ1
  have N1 := Fr.app N0 Nq1
  obtain ⟨T2, X2, e2, st2⟩ := getF X1 hx hZ hown (host := "") (Or.inl (w_32 hw)) Via.refl e1 F_value_a1 (g := (mkF m 9 #[vr a1, vi i2, un] [(.ref a1), (.int i2)])) rfl rfl (B d20_9)
  obtain ⟨cl3, Ar3, q3, S3, M3, Hs3, G3⟩ := id V_a5
  obtain ⟨_, T4, L4, X4, hQ4, st4⟩ := own_callS X2 hx hZ hown (y := y_21) (w_98 hw) (w_99 hw) (w_14 hw) (w_100 hw) (rm31 l Z hw i2 i8 r9 h0 n0 Z0 R_r9 S_SIOOBE_FORMATTER Od0 c10 c11) e2 (Ls := #[vr a1, vi i2, un]) hml.symm (argsL := [(.int i2), (.int i8)]) (rest := []) (lenOf pd_18 rfl) (B d20_13) (W := 0)
  obtain ⟨rfl, Nq4, e4⟩ := hQ4
  have N4 := Fr.app N1 Nq4
  obtain ⟨T5, X5, e5, st5⟩ := getF X4 hx hZ hown (host := "") (Or.inl (w_32 hw)) Via.refl e4 F_value_a1 (g := (mkF m 17 #[vr a1, vi i2, un] [(.ref a1)])) rfl rfl (B d20_17)
  have hin6 := inb_of (j := i2) S3 ⟨c10, c11⟩
  refine ⟨T5, _, _, _, (some (.int (i12 &&& (255 : Int32)))), X5, nofun, by decide, by decide, ?_, fun fs hr => ?_⟩
  · rw [e5]
    exact ⟨rfl, N4, rfl⟩
  · refine sA X0 hx (B d20_0) rfl rfl ?_
    refine st1 _ ?_
    refine XS.ifNo X1.here hx rfl (B d20_4) rfl ((if0 _ _).trans (feq (by decide : ¬ ((1 : Int32) = (0 : Int32)))).1) ?_
    refine sI X1 hx (B d20_7) rfl ?_
    refine sA X1 hx (B d20_8) rfl rfl ?_
    refine st2 _ ?_
    refine X2.arraylength hx (by rw [e2]; exact Ar3.1) (State.isArrayOf_alike hZ.alike Ar3.2.1) (g := (mkF m 12 #[vr a1, vi i2, un] [(.ref a5), (.int i2)])) rfl rfl (B d20_12) _ ?_
    show Steps p.tables e below (T2.setTop (mkF m 13 #[vr a1, vi i2, un] [(.int cl3.slots.size.toInt32), (.int i2)])) _
    rw [len_of S3 M3]
    refine st4 _ ?_
    refine sA X4 hx (B d20_16) rfl rfl ?_
    refine st5 _ ?_
    refine sI X5 hx (B d20_20) rfl ?_
    refine X5.baloadBytes hx (j := i2) (v := (.int i12)) (by rw [e5]; exact Ar3.1) (State.isArrayOf_alike hZ.alike Ar3.2.1) Ar3.2.2 hin6 (Has.at Hs3 hin6 rd13) (g := (mkF m 21 #[vr a1, vi i2, un] [(.int i2), (.ref a5)])) rfl rfl (B d20_21) _ ?_
    refine XS.sipush X5.here hx rfl (B d20_22) ?_
    refine XS.iand X5.here hx rfl (B d20_25) rfl ?_
    exact retI X5 hx hret (B d20_26) hr
theorem tn55 (l : Launch) (Z : State) {a0 : Array Value} (hw : OW a0 Z) (a1 : Addr) (i2 : Int32) (o2 : Slot) (a3 : Addr) (u4 : List Value) (ck5 : ClassId) (i6 i7 : Int32) (r10 : Value) (i13 : Int32) (h0 : Heap) (n0 : Nat) (Z0 : n0 ≤ h0.size) (ho2 : o2 = .unset ∨ ∃ x, o2 = .val (.int x)) (E_a1 : Exa Z h0 a1 jS) (F_value_a1 : Fld Z h0 a1 jS "value" "[B" (.ref a3)) (V_a3 : Arv Z h0 a3 ck5 .byte i6 u4 (.int 0)) (S_COMPACT_STRINGS : Sta Z Z.heap "java/lang/String" "COMPACT_STRINGS" "Z" (.int i7)) (Od0 : Old Z n0 h0) (c8 : ¬ (i7 = 0)) (F_coder_a1 : Fld Z h0 a1 jS "coder" "B" (.int 0)) (c9 : i2 < (i6 >>> ((0 : Int32) &&& 31))) (R_r10 : r10.isRef = true) (S_SIOOBE_FORMATTER : Sta Z Z.heap "jdk/internal/util/Preconditions" "SIOOBE_FORMATTER" "Ljava/util/function/BiFunction;" r10) (c11 : ¬ (i2 < 0)) (c12 : i2 < i6) (rd14 : u4.getD (i2).toNatClampNeg (.int 0) = (.int i13)) {p : Program} {e : Env} {s : State} {m : MethodId} {args : Array Value} {below : List Frame} {meth : Method} {c : Code} {s₁ : State} {L0 : List Loc} {ce sl : Nat} (hx : p.tables.exec = Jvm.exec) (hby : c.code = prog_10_method_10_code) (hml : c.maxLocals = 3) (hown : s.vm.findClass "com/example/sidwire/sidwire/cbor/CborWriter" = some m.cls) (hZ : Z.Warmed39 s.vm) (X0 : Stand p l e RmT7 s m args below meth c s₁ L0 ce sl) (e0 : s₁.heap = h0) (N0 : Fr n0 L0) (hce : ce ≤ RmT7.cells) (hsl : sl ≤ RmT7.slots) :
    ∃ (T : State) (L : List Loc), Stand p l e RmT7 s m args below meth c T L ce sl ∧ T.heap = h0 ∧ Fr n0 L ∧ ∀ target, Steps p.tables e below (T.setTop (mkF m 2 #[vr a1, vi (i2 + (1 : Int32)), vi (i13 &&& (255 : Int32))] [])) target → Steps p.tables e below (s₁.setTop (mkF m 2 #[vr a1, vi i2, o2] [])) target := by
  have B := hbx hby
  obtain ⟨_, T1, L1, X1, hQ1, st1⟩ := own_virtual X0 hx hZ hown (y := y_7) (z := y_7) E_a1 (w_41 hw) (w_42 hw) (own_nf hZ (w_44 hw)) (w_44 hw) (w_43 hw) (w_14 hw) (w_45 hw) (rm8 l Z hw a1 a3 u4 ck5 i6 i7 h0 n0 Z0 F_value_a1 V_a3 E_a1 S_COMPACT_STRINGS Od0 c8 F_coder_a1) e0 (Ls := #[vr a1, vi i2, o2]) hml.symm (argsL := []) (rest := [(.int i2)]) (lenOf pd_6 rfl) (B d7_4) (W := 1) (hc := hce) (hs := hsl)
  obtain ⟨rfl, Nq1, e1⟩ := hQ1
  have N1 := Fr.app N0 Nq1
  obtain ⟨_, T2, L2, X2, hQ2, st2⟩ := own_virtual X1 hx hZ hown (y := y_25) (z := y_25) E_a1 (w_88 hw) (w_89 hw) (own_nf hZ (w_91 hw)) (w_91 hw) (w_90 hw) (w_14 hw) (w_92 hw) (rm54 l Z hw a1 i2 i7 a3 u4 ck5 i6 r10 i13 h0 n0 Z0 E_a1 S_COMPACT_STRINGS Od0 c8 F_coder_a1 F_value_a1 V_a3 R_r10 S_SIOOBE_FORMATTER c11 c12 rd14) e1 (Ls := #[vr a1, vi i2, o2]) hml.symm (argsL := [(.int i2)]) (rest := []) (lenOf pd_9 rfl) (B d7_12) (W := 0) (hc := hce) (hs := hsl)
  obtain ⟨rfl, Nq2, e2⟩ := hQ2
  have N2 := Fr.app N1 Nq2
  have cd3 : (i13 &&& (255 : Int32)) < 55296 := (by rw [Int32.lt_iff_toInt_lt]; have := rng32 (i13 &&& (255 : Int32)); have := rng32 i13; have := own_mask i13 (255 : Int32) 8 (by decide) (by decide) 256 (by decide); have : ((55296 : Int32)).toInt = 55296 := (by decide); omega)
  have cd4 : (i13 &&& (255 : Int32)) < 65536 := (by rw [Int32.lt_iff_toInt_lt]; have := rng32 (i13 &&& (255 : Int32)); have := rng32 i13; have := own_mask i13 (255 : Int32) 8 (by decide) (by decide) 256 (by decide); have : ((65536 : Int32)).toInt = 65536 := (by decide); omega)
  obtain ⟨_, T5, L5, X5, hQ5, st5⟩ := own_callS X2 hx hZ hown (y := y_26) (w_118 hw) (w_119 hw) (w_114 hw) (w_120 hw) (rm40 l Z hw (i13 &&& (255 : Int32)) h0 n0 Z0 cd4) e2 (Ls := #[vr a1, vi i2, vi (i13 &&& (255 : Int32))]) hml.symm (argsL := [(.int (i13 &&& (255 : Int32)))]) (rest := [(.int i2)]) (lenOf pd_9 rfl) (B d7_32) (W := 1) (hc := hce) (hs := hsl)
  obtain ⟨rfl, Nq5, e5⟩ := hQ5
  have N5 := Fr.app N2 Nq5
  refine ⟨T5, _, X5, e5, N5, fun target hr => ?_⟩
  rcases ho2 with rfl | ⟨_, rfl⟩
  all_goals
    refine sI X0 hx (B d7_2) rfl ?_
    refine sA X0 hx (B d7_3) rfl rfl ?_
    refine st1 _ ?_
    refine XS.icmpNo X1.here hx rfl (B d7_7) rfl (tlt c9).2.1 ?_
    refine sA X1 hx (B d7_10) rfl rfl ?_
    refine sI X1 hx (B d7_11) rfl ?_
    refine st2 _ ?_
    refine XS.istoreN X2.here hx rfl (B d7_15) rfl (l' := #[vr a1, vi i2, vi (i13 &&& (255 : Int32))]) rfl ?_
    refine sI X2 hx (B d7_16) rfl ?_
    refine X2.ldcInt hx hown (mvT hZ (w_117 hw)) (g := (mkF m 17 #[vr a1, vi i2, vi (i13 &&& (255 : Int32))] [(.int (i13 &&& (255 : Int32)))])) rfl (B d7_17) _ ?_
    refine XS.icmpYes X2.here hx rfl (pc0 := 19) (pc' := 30) rfl (B d7_19) rfl (tlt cd3).1 (by decide) (by decide) ?_
    refine sI X2 hx (B d7_30) rfl ?_
    refine sI X2 hx (B d7_31) rfl ?_
    refine st5 _ ?_
    refine XS.iadd X5.here hx rfl (B d7_35) rfl ?_
    refine XS.istoreN X5.here hx rfl (B d7_36) rfl (l' := #[vr a1, vi (i2 + (1 : Int32)), vi (i13 &&& (255 : Int32))]) rfl ?_
    refine XS.goto X5.here hx rfl (pc0 := 37) (pc' := 2) rfl (B d7_37) (by decide) (by decide) ?_
    exact hr
abbrev Rm56 : Room := rmk 8 0 0 150
def Q56 (Z : State) (a1 a2 : Addr) (i3 : Int32) (ck4 : ClassId) (i5 : Int32) (r7 : Value) (h0 : Heap) (n0 : Nat) (v : Option Value) (h : Heap) (L : List Loc) : Prop := v = some (.int (-1)) ∧ Fr n0 L ∧ h = h0
theorem rm56 (l : Launch) (Z : State) {a0 : Array Value} (hw : OW a0 Z) (a1 a2 : Addr) (i3 : Int32) (ck4 : ClassId) (i5 : Int32) (r7 : Value) (h0 : Heap) (n0 : Nat) (Z0 : n0 ≤ h0.size) (E_a1 : Exa Z h0 a1 jS) (F_value_a1 : Fld Z h0 a1 jS "value" "[B" (.ref a2)) (V_a2 : Arv Z h0 a2 ck4 .byte 1 [(.int i3)] (.int 0)) (S_COMPACT_STRINGS : Sta Z Z.heap "java/lang/String" "COMPACT_STRINGS" "Z" (.int i5)) (Od0 : Old Z n0 h0) (c6 : ¬ (i5 = 0)) (F_coder_a1 : Fld Z h0 a1 jS "coder" "B" (.int 0)) (R_r7 : r7.isRef = true) (S_SIOOBE_FORMATTER : Sta Z Z.heap "jdk/internal/util/Preconditions" "SIOOBE_FORMATTER" "Ljava/util/function/BiFunction;" r7) :
    OwnMet l Z y_8 prog_10_method_10_code 3 (some .int) [] Rm56 #[(.ref a1)] h0 (Q56 Z a1 a2 i3 ck4 i5 r7 h0 n0) := by
  refine own_body (plainFor_of_name pn_2) (ef_aae876 a1) ?_
  intro p e s m below meth c s₁ hx hby hml hown hnm hret hZ X0 e0
  have N0 := Fr.nil n0
  have B := hbx hby
  obtain ⟨T1, L1, X1, e1, N1, st1⟩ := tn55 l Z hw a1 (0 : Int32) .unset a2 [(.int i3)] ck4 (1 : Int32) i5 r7 i3 h0 n0 Z0 (Or.inl rfl) E_a1 F_value_a1 V_a2 S_COMPACT_STRINGS Od0 c6 F_coder_a1 (by decide) R_r7 S_SIOOBE_FORMATTER (by decide) (by decide) rfl hx hby hml hown hZ X0 e0 N0 (by decide) (by decide)
  obtain ⟨T2, L2, X2, e2, N2, st2⟩ := tn9 l Z hw a1 (1 : Int32) (vi (i3 &&& (255 : Int32))) a2 [(.int i3)] ck4 (1 : Int32) i5 h0 n0 Z0 (Or.inr ⟨_, rfl⟩) E_a1 F_value_a1 V_a2 S_COMPACT_STRINGS Od0 c6 F_coder_a1 (by decide) hx hby hml hown hZ X1 e1 N1 (by decide) (by decide)
  refine ⟨T2, _, _, _, (some (.int (-1))), X2, nofun, by decide, by decide, ?_, fun fs hr => ?_⟩
  · rw [e2]
    exact ⟨rfl, N2, rfl⟩
  · refine sC X0 hx (B d7_0) ?_
    refine XS.istoreN X0.here hx rfl (B d7_1) rfl (l' := #[vr a1, vi 0, un]) rfl ?_
    refine st1 _ ?_
    refine st2 _ ?_
    refine sC X2 hx (B d7_40) ?_
    exact retI X2 hx hret (B d7_41) hr
theorem own_finL_1 (c0 : Int32) (h : ¬ own_cc c0 = 0) : (-1 : Int32) = own_ex c0 := by
  have q0 : ¬ 255 < c0 := fun q => h (by unfold own_cc; simp only [if_pos q, ite_self])
  have k0 : own_kk c0 = 0 := by unfold own_kk; rw [if_pos]; rw [(own_i c0 255 255 (by decide)).2] at q0; rw [(own_i c0 55296 55296 (by decide)).1]; omega
  unfold own_ex own_ln
  simp only [own_hi_k, own_lw_k, k0] <;> decide
theorem rm0_1 (l : Launch) (Z : State) {a0 : Array Value} (hw : OW a0 Z) (ws : List Jvm.Cond) (p1 p2 p3 p4 p5 : Int32) (sr1 : Value) (si2 : Int32) (h0 : Heap) (n0 : Nat) (Z0 : n0 ≤ h0.size) (Od0 : Old Z n0 h0) (R_sr1 : sr1.isRef = true) (nc6 : ¬ (si2 = 0)) (S7_SIOOBE_FORMATTER : Sta Z Z.heap "jdk/internal/util/Preconditions" "SIOOBE_FORMATTER" "Ljava/util/function/BiFunction;" sr1) (S8_COMPACT_STRINGS : Sta Z Z.heap "java/lang/String" "COMPACT_STRINGS" "Z" (.int si2)) (S9__assertionsDisabled : Sta Z Z.heap "java/lang/StringUTF16" "$assertionsDisabled" "Z" (.int 1)) (S10_HI_BYTE_SHIFT : Sta Z Z.heap "java/lang/StringUTF16" "HI_BYTE_SHIFT" "I" (.int 0)) (S11_LO_BYTE_SHIFT : Sta Z Z.heap "java/lang/StringUTF16" "LO_BYTE_SHIFT" "I" (.int 8)) (hk : ((p5 &&& (2147483647 : Int32)) - ((p5 &&& (2147483647 : Int32)) / (5 : Int32)) * (5 : Int32)) = (1 : Int32)) :
    OwnMet l Z x code maxLocals ret ws room_1 #[(.int p1), (.int p2), (.int p3), (.int p4), (.int p5)] h0 (Q0 n0) := by
  refine own_body (plainFor_of_name pn_0) (ef0 p1 p2 p3 p4 p5) ?_
  intro p e s m below meth c s₁ hx hby hml hown hnm hret hZ X0 e0
  have N0 := Fr.nil n0
  have B := hbx hby
  obtain ⟨_, T1, L1, X1, hQ1, st1⟩ := own_callS X0 hx hZ hown (y := y_0) (w_1 hw) (w_2 hw) (w_3 hw) (w_4 hw) (rm1 l Z hw p1 h0 n0 Z0) e0 (Ls := #[vi p1, vi p2, vi p3, vi p4, vi p5, vi 1, un, un, un, un, un, un, un]) hml.symm (argsL := [(.int p1)]) (rest := []) (lenOf pd_0 rfl) (B at_10) (W := 0)
  obtain ⟨rfl, Nq1, e1⟩ := hQ1
  have N1 := Fr.app N0 Nq1
  obtain ⟨_, T2, L2, X2, hQ2, st2⟩ := own_callS X1 hx hZ hown (y := y_0) (w_1 hw) (w_2 hw) (w_3 hw) (w_4 hw) (rm1 l Z hw p2 h0 n0 Z0) e1 (Ls := #[vi p1, vi p2, vi p3, vi p4, vi p5, vi 1, vi (own_ch p1), un, un, un, un, un, un]) hml.symm (argsL := [(.int p2)]) (rest := []) (lenOf pd_0 rfl) (B at_16) (W := 0)
  obtain ⟨rfl, Nq2, e2⟩ := hQ2
  have N2 := Fr.app N1 Nq2
  obtain ⟨_, T3, L3, X3, hQ3, st3⟩ := own_callS X2 hx hZ hown (y := y_0) (w_1 hw) (w_2 hw) (w_3 hw) (w_4 hw) (rm1 l Z hw p3 h0 n0 Z0) e2 (Ls := #[vi p1, vi p2, vi p3, vi p4, vi p5, vi 1, vi (own_ch p1), vi (own_ch p2), un, un, un, un, un]) hml.symm (argsL := [(.int p3)]) (rest := []) (lenOf pd_0 rfl) (B at_22) (W := 0)
  obtain ⟨rfl, Nq3, e3⟩ := hQ3
  have N3 := Fr.app N2 Nq3
  obtain ⟨_, T4, L4, X4, hQ4, st4⟩ := own_callS X3 hx hZ hown (y := y_0) (w_1 hw) (w_2 hw) (w_3 hw) (w_4 hw) (rm1 l Z hw p4 h0 n0 Z0) e3 (Ls := #[vi p1, vi p2, vi p3, vi p4, vi p5, vi 1, vi (own_ch p1), vi (own_ch p2), vi (own_ch p3), un, un, un, un]) hml.symm (argsL := [(.int p4)]) (rest := []) (lenOf pd_0 rfl) (B at_28) (W := 0)
  obtain ⟨rfl, Nq4, e4⟩ := hQ4
  have N4 := Fr.app N3 Nq4
  by_cases cc1 : (own_cc (nar .char (own_ch p1))) = 0
  · obtain ⟨_, T5, L5, X5, hQ5, st5⟩ := own_callS X4 hx hZ hown (y := y_4) (w_9 hw) (w_10 hw) (w_3 hw) (w_11 hw) (rm22 l Z hw (own_ch p1) (own_ch p2) (own_ch p3) (own_ch p4) si2 h0 n0 Z0 S8_COMPACT_STRINGS Od0 nc6 S9__assertionsDisabled S10_HI_BYTE_SHIFT S11_LO_BYTE_SHIFT cc1) e4 (Ls := #[vi p1, vi p2, vi p3, vi p4, vi p5, vi 1, vi (own_ch p1), vi (own_ch p2), vi (own_ch p3), vi (own_ch p4), un, un, un]) hml.symm (argsL := [(.int 1), (.int (own_ch p1)), (.int (own_ch p2)), (.int (own_ch p3)), (.int (own_ch p4))]) (rest := []) (lenOf pd_3 rfl) (B at_43) (W := 0)
    obtain ⟨b5_0, b5_1, k5_2, rfl, Nq5, K5, o5_0, o5_1, o5_2, o5_3, o5_4, o5_5, o5_6, o5_7⟩ := hQ5
    have N5 := Fr.app N4 Nq5
    have s0 := K5.1
    obtain ⟨T6, h6, k6, X6, e6, E6, A6, B6, st6⟩ := newPE (aty := .char) X5 hx hZ (w_15 hw) rfl (g := (mkF m 49 #[vi p1, vi p2, vi p3, vi p4, vi p5, vi 1, vi (own_ch p1), vi (own_ch p2), vi (own_ch p3), vi (own_ch p4), vr b5_0, un, un] [(.int 4)])) rfl (B at_49) rfl (by decide) (cap := 4) (by decide) (by decide) (by decide) (by decide) (ad := "[C") (by decide)
    obtain ⟨b6, g6⟩ : ∃ z, z = T5.heap.size := ⟨_, rfl⟩
    rw [← g6] at A6 B6 st6
    have s1 := E6.1
    have Vn6 : Arv Z h6 b6 k6 .char 4 [(.int 0), (.int 0), (.int 0), (.int 0)] (.int 0) := (Arv.new A6 (by decide)).pad (pad_rep [] (.int 0) 4)
    obtain ⟨cl7, Ar7, q7, S7, M7, Hs7, G7⟩ := id Vn6
    have hin8 := inb_of (j := 0) S7 ⟨by decide, by decide⟩
    obtain ⟨T9, h9, X9, e9, W9, st9⟩ := stC X6 hx hZ e6 Ar7 (j := 0) hin8 (g := (mkF m 55 #[vi p1, vi p2, vi p3, vi p4, vi p5, vi 1, vi (own_ch p1), vi (own_ch p2), vi (own_ch p3), vi (own_ch p4), vr b5_0, un, un] [(.int (own_ch p1)), (.int 0), (.ref b6), (.ref b6)])) rfl rfl (B at_55)
    have s2 := (Keep.of_wr W9).1
    have z1 := Nat.le_trans Z0 s0
    have g_b6 : n0 ≤ b6 := Nat.le_trans z1 (Nat.le_of_eq g6.symm)
    have N9 := Fr.snoc X9 N5 g_b6
    have Vs9 : Arv Z h9 b6 k6 .char 4 [(.int (nar .char (own_ch p1))), (.int 0), (.int 0), (.int 0)] (.int 0) := Arv.set Ar7 q7 S7 M7 Hs7 G7 (fits_nar_char _) W9 0 rfl (nl rfl)
    obtain ⟨cl10, Ar10, q10, S10, M10, Hs10, G10⟩ := id Vs9
    have hin11 := inb_of (j := 1) S10 ⟨by decide, by decide⟩
    obtain ⟨T12, h12, X12, e12, W12, st12⟩ := stC X9 hx hZ e9 Ar10 (j := 1) hin11 (g := (mkF m 60 #[vi p1, vi p2, vi p3, vi p4, vi p5, vi 1, vi (own_ch p1), vi (own_ch p2), vi (own_ch p3), vi (own_ch p4), vr b5_0, un, un] [(.int (own_ch p2)), (.int 1), (.ref b6), (.ref b6)])) rfl rfl (B at_60)
    have s3 := (Keep.of_wr W12).1
    have N12 := Fr.snoc X12 N9 g_b6
    have Vs12 : Arv Z h12 b6 k6 .char 4 [(.int (nar .char (own_ch p1))), (.int (nar .char (own_ch p2))), (.int 0), (.int 0)] (.int 0) := Arv.set Ar10 q10 S10 M10 Hs10 G10 (fits_nar_char _) W12 1 rfl (nl rfl)
    obtain ⟨cl13, Ar13, q13, S13, M13, Hs13, G13⟩ := id Vs12
    have hin14 := inb_of (j := 2) S13 ⟨by decide, by decide⟩
    obtain ⟨T15, h15, X15, e15, W15, st15⟩ := stC X12 hx hZ e12 Ar13 (j := 2) hin14 (g := (mkF m 65 #[vi p1, vi p2, vi p3, vi p4, vi p5, vi 1, vi (own_ch p1), vi (own_ch p2), vi (own_ch p3), vi (own_ch p4), vr b5_0, un, un] [(.int (own_ch p3)), (.int 2), (.ref b6), (.ref b6)])) rfl rfl (B at_65)
    have s4 := (Keep.of_wr W15).1
    have N15 := Fr.snoc X15 N12 g_b6
    have Vs15 : Arv Z h15 b6 k6 .char 4 [(.int (nar .char (own_ch p1))), (.int (nar .char (own_ch p2))), (.int (nar .char (own_ch p3))), (.int 0)] (.int 0) := Arv.set Ar13 q13 S13 M13 Hs13 G13 (fits_nar_char _) W15 2 rfl (nl rfl)
    obtain ⟨cl16, Ar16, q16, S16, M16, Hs16, G16⟩ := id Vs15
    have hin17 := inb_of (j := 3) S16 ⟨by decide, by decide⟩
    obtain ⟨T18, h18, X18, e18, W18, st18⟩ := stC X15 hx hZ e15 Ar16 (j := 3) hin17 (g := (mkF m 70 #[vi p1, vi p2, vi p3, vi p4, vi p5, vi 1, vi (own_ch p1), vi (own_ch p2), vi (own_ch p3), vi (own_ch p4), vr b5_0, un, un] [(.int (own_ch p4)), (.int 3), (.ref b6), (.ref b6)])) rfl rfl (B at_70)
    have s5 := (Keep.of_wr W18).1
    have N18 := Fr.snoc X18 N15 g_b6
    have Vs18 : Arv Z h18 b6 k6 .char 4 [(.int (nar .char (own_ch p1))), (.int (nar .char (own_ch p2))), (.int (nar .char (own_ch p3))), (.int (nar .char (own_ch p4)))] (.int 0) := Arv.set Ar16 q16 S16 M16 Hs16 G16 (fits_nar_char _) W18 3 rfl (nl rfl)
    have z6 := Nat.le_trans Z0 (Nat.le_trans (Nat.le_trans (Nat.le_trans (Nat.le_trans (Nat.le_trans s0 s1) s2) s3) s4) s5)
    obtain ⟨T19, L19, X19, e19, N19, st19⟩ := tn26 l Z hw p1 p2 p3 p4 p5 (own_ch p1) (own_ch p2) (own_ch p3) (own_ch p4) b5_0 b6 (nar .char (own_ch p1)) (nar .char (own_ch p2)) (nar .char (own_ch p3)) (nar .char (own_ch p4)) k6 h18 n0 z6 Vs18 hx hby hml hown hZ X18 e18 N18 (by decide) (by decide)
    have Ex20 := (((((o5_1.ext E6).wr W9).wr W12).wr W15).wr W18)
    have ne_b5_0_b6 := Nat.ne_of_lt (Nat.lt_of_lt_of_le o5_3.lt (Nat.le_of_eq g6.symm))
    have Fl21 := (((((o5_3.ext E6).other W9 (Or.inl ne_b5_0_b6)).other W12 (Or.inl ne_b5_0_b6)).other W15 (Or.inl ne_b5_0_b6)).other W18 (Or.inl ne_b5_0_b6))
    have ne_b5_1_b6 := Nat.ne_of_lt (Nat.lt_of_lt_of_le o5_6.lt (Nat.le_of_eq g6.symm))
    have Va22 := (((((o5_6.ext E6).other W9 ne_b5_1_b6).other W12 ne_b5_1_b6).other W15 ne_b5_1_b6).other W18 ne_b5_1_b6)
    have Od1 := Od0.keep K5 all0
    have Od2 := Od1.ext E6
    have Od3 := Od2.wr W9 g_b6
    have Od4 := Od3.wr W12 g_b6
    have Od5 := Od4.wr W15 g_b6
    have Od6 := Od5.wr W18 g_b6
    have Fl23 := (((((o5_2.ext E6).other W9 (Or.inl ne_b5_0_b6)).other W12 (Or.inl ne_b5_0_b6)).other W15 (Or.inl ne_b5_0_b6)).other W18 (Or.inl ne_b5_0_b6))
    have cd24 : ¬ ((nar .char (own_ch p1)) < 0) := (by rw [Int32.lt_iff_toInt_lt]; have := rng32 (nar .char (own_ch p1)); have := rng32 (own_ch p1); have := own_ch_b p1; have := own_c_nar_char (own_ch p1); have : ((0 : Int32)).toInt = 0 := (by decide); omega)
    have cd25 : ¬ (65535 < (nar .char (own_ch p1))) := (by rw [Int32.lt_iff_toInt_lt]; have : ((65535 : Int32)).toInt = 65535 := (by decide); have := rng32 (nar .char (own_ch p1)); have := rng32 (own_ch p1); have := own_ch_b p1; have := own_c_nar_char (own_ch p1); omega)
    obtain ⟨_, T26, L26, X26, hQ26, st26⟩ := own_callS X19 hx hZ hown (y := y_8) (w_37 hw) (w_38 hw) (w_39 hw) (w_40 hw) (rm48 l Z hw b5_0 b5_1 (nar .byte (((nar .char (own_ch p1)) >>> ((0 : Int32) &&& 31)).toInt8.toInt32)) (nar .byte (((nar .char (own_ch p1)) >>> ((8 : Int32) &&& 31)).toInt8.toInt32)) k5_2 si2 sr1 h18 n0 z6 Ex20 Fl21 Va22 S8_COMPACT_STRINGS Od6 nc6 Fl23 R_sr1 S7_SIOOBE_FORMATTER S9__assertionsDisabled S10_HI_BYTE_SHIFT S11_LO_BYTE_SHIFT) e19 (Ls := #[vi p1, vi p2, vi p3, vi p4, vi p5, vi 1, vi (own_ch p1), vi (own_ch p2), vi (own_ch p3), vi (own_ch p4), vr b5_0, vr b6, vi (own_ex (nar .char (own_ch p1)))]) hml.symm (argsL := [(.ref b5_0)]) (rest := []) (lenOf pd_7 rfl) (B at_146) (W := 0)
    obtain ⟨rfl, Nq26, e26⟩ := hQ26
    have N26 := Fr.app N19 Nq26
    have cd27 : (own_un (nar .byte (((nar .char (own_ch p1)) >>> ((0 : Int32) &&& 31)).toInt8.toInt32)) (nar .byte (((nar .char (own_ch p1)) >>> ((8 : Int32) &&& 31)).toInt8.toInt32))) = (own_ex (nar .char (own_ch p1))) := (own_finU_1 (nar .char (own_ch p1)) cd24 cd25)
    refine ⟨T26, _, _, _, (some (.int 1)), X26, nofun, by decide, by decide, ?_, fun fs hr => ?_⟩
    · show Q0 n0 _ T26.heap _
      rw [e26]
      exact ⟨rfl, N26⟩
    · refine sJ X0 hx (B at_0) rfl ?_
      refine X0.ldcInt hx hown (mvT hZ (w_0 hw)) (g := (mkF m 2 #[vi p1, vi p2, vi p3, vi p4, vi p5, un, un, un, un, un, un, un, un] [(.int p5)])) rfl (B at_2) _ ?_
      refine XS.iand X0.here hx rfl (B at_4) rfl ?_
      refine sC X0 hx (B at_5) ?_
      refine XS.irem X0.here hx rfl (B at_6) rfl (by decide : ¬ ((5 : Int32) = (0 : Int32))) ?_
      show Steps p.tables e below (s₁.setTop (mkF m 7 #[vi p1, vi p2, vi p3, vi p4, vi p5, un, un, un, un, un, un, un, un] [(.int ((p5 &&& (2147483647 : Int32)) - ((p5 &&& (2147483647 : Int32)) / (5 : Int32)) * (5 : Int32)))])) _
      rw [hk]
      refine XS.istore X0.here hx rfl (B at_7) rfl (l' := #[vi p1, vi p2, vi p3, vi p4, vi p5, vi 1, un, un, un, un, un, un, un]) rfl ?_
      refine sI X0 hx (B at_9) rfl ?_
      refine st1 _ ?_
      refine XS.istore X1.here hx rfl (B at_13) rfl (l' := #[vi p1, vi p2, vi p3, vi p4, vi p5, vi 1, vi (own_ch p1), un, un, un, un, un, un]) rfl ?_
      refine sI X1 hx (B at_15) rfl ?_
      refine st2 _ ?_
      refine XS.istore X2.here hx rfl (B at_19) rfl (l' := #[vi p1, vi p2, vi p3, vi p4, vi p5, vi 1, vi (own_ch p1), vi (own_ch p2), un, un, un, un, un]) rfl ?_
      refine sI X2 hx (B at_21) rfl ?_
      refine st3 _ ?_
      refine XS.istore X3.here hx rfl (B at_25) rfl (l' := #[vi p1, vi p2, vi p3, vi p4, vi p5, vi 1, vi (own_ch p1), vi (own_ch p2), vi (own_ch p3), un, un, un, un]) rfl ?_
      refine sI X3 hx (B at_27) rfl ?_
      refine st4 _ ?_
      refine XS.istore X4.here hx rfl (B at_31) rfl (l' := #[vi p1, vi p2, vi p3, vi p4, vi p5, vi 1, vi (own_ch p1), vi (own_ch p2), vi (own_ch p3), vi (own_ch p4), un, un, un]) rfl ?_
      refine sJ X4 hx (B at_33) rfl ?_
      refine sJ X4 hx (B at_35) rfl ?_
      refine sJ X4 hx (B at_37) rfl ?_
      refine sJ X4 hx (B at_39) rfl ?_
      refine sJ X4 hx (B at_41) rfl ?_
      refine st5 _ ?_
      refine XS.astore X5.here hx rfl (B at_46) rfl rfl (l' := #[vi p1, vi p2, vi p3, vi p4, vi p5, vi 1, vi (own_ch p1), vi (own_ch p2), vi (own_ch p3), vi (own_ch p4), vr b5_0, un, un]) rfl ?_
      refine sC X5 hx (B at_48) ?_
      refine st6 _ ?_
      refine XS.dup X6.here hx rfl (B at_51) rfl rfl ?_
      refine sC X6 hx (B at_52) ?_
      refine sJ X6 hx (B at_53) rfl ?_
      refine st9 _ ?_
      refine XS.dup X9.here hx rfl (B at_56) rfl rfl ?_
      refine sC X9 hx (B at_57) ?_
      refine sJ X9 hx (B at_58) rfl ?_
      refine st12 _ ?_
      refine XS.dup X12.here hx rfl (B at_61) rfl rfl ?_
      refine sC X12 hx (B at_62) ?_
      refine sJ X12 hx (B at_63) rfl ?_
      refine st15 _ ?_
      refine XS.dup X15.here hx rfl (B at_66) rfl rfl ?_
      refine sC X15 hx (B at_67) ?_
      refine sJ X15 hx (B at_68) rfl ?_
      refine st18 _ ?_
      refine XS.astore X18.here hx rfl (B at_71) rfl rfl (l' := #[vi p1, vi p2, vi p3, vi p4, vi p5, vi 1, vi (own_ch p1), vi (own_ch p2), vi (own_ch p3), vi (own_ch p4), vr b5_0, vr b6, un]) rfl ?_
      refine st19 _ ?_
      refine sB X19 hx (B at_144) rfl rfl ?_
      refine st26 _ ?_
      refine sJ X26 hx (B at_149) rfl ?_
      refine XS.icmpNo X26.here hx rfl (B at_151) rfl (teq cd27).2 ?_
      refine sC X26 hx (B at_154) ?_
      refine XS.goto X26.here hx rfl (pc0 := 155) (pc' := 159) rfl (B at_155) (by decide) (by decide) ?_
      exact retN X26 hx (t := .boolean) hret (by simp) (B at_159) hr
  · obtain ⟨_, T5, L5, X5, hQ5, st5⟩ := own_callS X4 hx hZ hown (y := y_4) (w_9 hw) (w_10 hw) (w_3 hw) (w_11 hw) (rm52 l Z hw (own_ch p1) (own_ch p2) (own_ch p3) (own_ch p4) si2 h0 n0 Z0 S8_COMPACT_STRINGS Od0 nc6 S9__assertionsDisabled S10_HI_BYTE_SHIFT S11_LO_BYTE_SHIFT cc1) e4 (Ls := #[vi p1, vi p2, vi p3, vi p4, vi p5, vi 1, vi (own_ch p1), vi (own_ch p2), vi (own_ch p3), vi (own_ch p4), un, un, un]) hml.symm (argsL := [(.int 1), (.int (own_ch p1)), (.int (own_ch p2)), (.int (own_ch p3)), (.int (own_ch p4))]) (rest := []) (lenOf pd_3 rfl) (B at_43) (W := 0)
    obtain ⟨b5_0, b5_1, k5_2, rfl, Nq5, K5, o5_0, o5_1, o5_2, o5_3, o5_4, o5_5, o5_6, o5_7⟩ := hQ5
    have N5 := Fr.app N4 Nq5
    have s0 := K5.1
    obtain ⟨T6, h6, k6, X6, e6, E6, A6, B6, st6⟩ := newPE (aty := .char) X5 hx hZ (w_15 hw) rfl (g := (mkF m 49 #[vi p1, vi p2, vi p3, vi p4, vi p5, vi 1, vi (own_ch p1), vi (own_ch p2), vi (own_ch p3), vi (own_ch p4), vr b5_0, un, un] [(.int 4)])) rfl (B at_49) rfl (by decide) (cap := 4) (by decide) (by decide) (by decide) (by decide) (ad := "[C") (by decide)
    obtain ⟨b6, g6⟩ : ∃ z, z = T5.heap.size := ⟨_, rfl⟩
    rw [← g6] at A6 B6 st6
    have s1 := E6.1
    have Vn6 : Arv Z h6 b6 k6 .char 4 [(.int 0), (.int 0), (.int 0), (.int 0)] (.int 0) := (Arv.new A6 (by decide)).pad (pad_rep [] (.int 0) 4)
    obtain ⟨cl7, Ar7, q7, S7, M7, Hs7, G7⟩ := id Vn6
    have hin8 := inb_of (j := 0) S7 ⟨by decide, by decide⟩
    obtain ⟨T9, h9, X9, e9, W9, st9⟩ := stC X6 hx hZ e6 Ar7 (j := 0) hin8 (g := (mkF m 55 #[vi p1, vi p2, vi p3, vi p4, vi p5, vi 1, vi (own_ch p1), vi (own_ch p2), vi (own_ch p3), vi (own_ch p4), vr b5_0, un, un] [(.int (own_ch p1)), (.int 0), (.ref b6), (.ref b6)])) rfl rfl (B at_55)
    have s2 := (Keep.of_wr W9).1
    have z1 := Nat.le_trans Z0 s0
    have g_b6 : n0 ≤ b6 := Nat.le_trans z1 (Nat.le_of_eq g6.symm)
    have N9 := Fr.snoc X9 N5 g_b6
    have Vs9 : Arv Z h9 b6 k6 .char 4 [(.int (nar .char (own_ch p1))), (.int 0), (.int 0), (.int 0)] (.int 0) := Arv.set Ar7 q7 S7 M7 Hs7 G7 (fits_nar_char _) W9 0 rfl (nl rfl)
    obtain ⟨cl10, Ar10, q10, S10, M10, Hs10, G10⟩ := id Vs9
    have hin11 := inb_of (j := 1) S10 ⟨by decide, by decide⟩
    obtain ⟨T12, h12, X12, e12, W12, st12⟩ := stC X9 hx hZ e9 Ar10 (j := 1) hin11 (g := (mkF m 60 #[vi p1, vi p2, vi p3, vi p4, vi p5, vi 1, vi (own_ch p1), vi (own_ch p2), vi (own_ch p3), vi (own_ch p4), vr b5_0, un, un] [(.int (own_ch p2)), (.int 1), (.ref b6), (.ref b6)])) rfl rfl (B at_60)
    have s3 := (Keep.of_wr W12).1
    have N12 := Fr.snoc X12 N9 g_b6
    have Vs12 : Arv Z h12 b6 k6 .char 4 [(.int (nar .char (own_ch p1))), (.int (nar .char (own_ch p2))), (.int 0), (.int 0)] (.int 0) := Arv.set Ar10 q10 S10 M10 Hs10 G10 (fits_nar_char _) W12 1 rfl (nl rfl)
    obtain ⟨cl13, Ar13, q13, S13, M13, Hs13, G13⟩ := id Vs12
    have hin14 := inb_of (j := 2) S13 ⟨by decide, by decide⟩
    obtain ⟨T15, h15, X15, e15, W15, st15⟩ := stC X12 hx hZ e12 Ar13 (j := 2) hin14 (g := (mkF m 65 #[vi p1, vi p2, vi p3, vi p4, vi p5, vi 1, vi (own_ch p1), vi (own_ch p2), vi (own_ch p3), vi (own_ch p4), vr b5_0, un, un] [(.int (own_ch p3)), (.int 2), (.ref b6), (.ref b6)])) rfl rfl (B at_65)
    have s4 := (Keep.of_wr W15).1
    have N15 := Fr.snoc X15 N12 g_b6
    have Vs15 : Arv Z h15 b6 k6 .char 4 [(.int (nar .char (own_ch p1))), (.int (nar .char (own_ch p2))), (.int (nar .char (own_ch p3))), (.int 0)] (.int 0) := Arv.set Ar13 q13 S13 M13 Hs13 G13 (fits_nar_char _) W15 2 rfl (nl rfl)
    obtain ⟨cl16, Ar16, q16, S16, M16, Hs16, G16⟩ := id Vs15
    have hin17 := inb_of (j := 3) S16 ⟨by decide, by decide⟩
    obtain ⟨T18, h18, X18, e18, W18, st18⟩ := stC X15 hx hZ e15 Ar16 (j := 3) hin17 (g := (mkF m 70 #[vi p1, vi p2, vi p3, vi p4, vi p5, vi 1, vi (own_ch p1), vi (own_ch p2), vi (own_ch p3), vi (own_ch p4), vr b5_0, un, un] [(.int (own_ch p4)), (.int 3), (.ref b6), (.ref b6)])) rfl rfl (B at_70)
    have s5 := (Keep.of_wr W18).1
    have N18 := Fr.snoc X18 N15 g_b6
    have Vs18 : Arv Z h18 b6 k6 .char 4 [(.int (nar .char (own_ch p1))), (.int (nar .char (own_ch p2))), (.int (nar .char (own_ch p3))), (.int (nar .char (own_ch p4)))] (.int 0) := Arv.set Ar16 q16 S16 M16 Hs16 G16 (fits_nar_char _) W18 3 rfl (nl rfl)
    have z6 := Nat.le_trans Z0 (Nat.le_trans (Nat.le_trans (Nat.le_trans (Nat.le_trans (Nat.le_trans s0 s1) s2) s3) s4) s5)
    obtain ⟨T19, L19, X19, e19, N19, st19⟩ := tn26 l Z hw p1 p2 p3 p4 p5 (own_ch p1) (own_ch p2) (own_ch p3) (own_ch p4) b5_0 b6 (nar .char (own_ch p1)) (nar .char (own_ch p2)) (nar .char (own_ch p3)) (nar .char (own_ch p4)) k6 h18 n0 z6 Vs18 hx hby hml hown hZ X18 e18 N18 (by decide) (by decide)
    have Ex20 := (((((o5_1.ext E6).wr W9).wr W12).wr W15).wr W18)
    have ne_b5_0_b6 := Nat.ne_of_lt (Nat.lt_of_lt_of_le o5_3.lt (Nat.le_of_eq g6.symm))
    have Fl21 := (((((o5_3.ext E6).other W9 (Or.inl ne_b5_0_b6)).other W12 (Or.inl ne_b5_0_b6)).other W15 (Or.inl ne_b5_0_b6)).other W18 (Or.inl ne_b5_0_b6))
    have ne_b5_1_b6 := Nat.ne_of_lt (Nat.lt_of_lt_of_le o5_6.lt (Nat.le_of_eq g6.symm))
    have Va22 := (((((o5_6.ext E6).other W9 ne_b5_1_b6).other W12 ne_b5_1_b6).other W15 ne_b5_1_b6).other W18 ne_b5_1_b6)
    have Od1 := Od0.keep K5 all0
    have Od2 := Od1.ext E6
    have Od3 := Od2.wr W9 g_b6
    have Od4 := Od3.wr W12 g_b6
    have Od5 := Od4.wr W15 g_b6
    have Od6 := Od5.wr W18 g_b6
    have Fl23 := (((((o5_2.ext E6).other W9 (Or.inl ne_b5_0_b6)).other W12 (Or.inl ne_b5_0_b6)).other W15 (Or.inl ne_b5_0_b6)).other W18 (Or.inl ne_b5_0_b6))
    obtain ⟨_, T24, L24, X24, hQ24, st24⟩ := own_callS X19 hx hZ hown (y := y_8) (w_37 hw) (w_38 hw) (w_39 hw) (w_40 hw) (rm56 l Z hw b5_0 b5_1 (nar .byte ((nar .char (own_ch p1)).toInt8.toInt32)) k5_2 si2 sr1 h18 n0 z6 Ex20 Fl21 Va22 S8_COMPACT_STRINGS Od6 nc6 Fl23 R_sr1 S7_SIOOBE_FORMATTER) e19 (Ls := #[vi p1, vi p2, vi p3, vi p4, vi p5, vi 1, vi (own_ch p1), vi (own_ch p2), vi (own_ch p3), vi (own_ch p4), vr b5_0, vr b6, vi (own_ex (nar .char (own_ch p1)))]) hml.symm (argsL := [(.ref b5_0)]) (rest := []) (lenOf pd_7 rfl) (B at_146) (W := 0)
    obtain ⟨rfl, Nq24, e24⟩ := hQ24
    have N24 := Fr.app N19 Nq24
    have cd25 : ¬ ((nar .char (own_ch p1)) < 0) := (by rw [Int32.lt_iff_toInt_lt]; have := rng32 (nar .char (own_ch p1)); have := rng32 (own_ch p1); have := own_ch_b p1; have := own_c_nar_char (own_ch p1); have : ((0 : Int32)).toInt = 0 := (by decide); omega)
    have cd26 : ¬ (65535 < (nar .char (own_ch p1))) := (by rw [Int32.lt_iff_toInt_lt]; have : ((65535 : Int32)).toInt = 65535 := (by decide); have := rng32 (nar .char (own_ch p1)); have := rng32 (own_ch p1); have := own_ch_b p1; have := own_c_nar_char (own_ch p1); omega)
    have cd27 : (-1) = (own_ex (nar .char (own_ch p1))) := (own_finL_1 (nar .char (own_ch p1)) cc1)
    refine ⟨T24, _, _, _, (some (.int 1)), X24, nofun, by decide, by decide, ?_, fun fs hr => ?_⟩
    · show Q0 n0 _ T24.heap _
      rw [e24]
      exact ⟨rfl, N24⟩
    · refine sJ X0 hx (B at_0) rfl ?_
      refine X0.ldcInt hx hown (mvT hZ (w_0 hw)) (g := (mkF m 2 #[vi p1, vi p2, vi p3, vi p4, vi p5, un, un, un, un, un, un, un, un] [(.int p5)])) rfl (B at_2) _ ?_
      refine XS.iand X0.here hx rfl (B at_4) rfl ?_
      refine sC X0 hx (B at_5) ?_
      refine XS.irem X0.here hx rfl (B at_6) rfl (by decide : ¬ ((5 : Int32) = (0 : Int32))) ?_
      show Steps p.tables e below (s₁.setTop (mkF m 7 #[vi p1, vi p2, vi p3, vi p4, vi p5, un, un, un, un, un, un, un, un] [(.int ((p5 &&& (2147483647 : Int32)) - ((p5 &&& (2147483647 : Int32)) / (5 : Int32)) * (5 : Int32)))])) _
      rw [hk]
      refine XS.istore X0.here hx rfl (B at_7) rfl (l' := #[vi p1, vi p2, vi p3, vi p4, vi p5, vi 1, un, un, un, un, un, un, un]) rfl ?_
      refine sI X0 hx (B at_9) rfl ?_
      refine st1 _ ?_
      refine XS.istore X1.here hx rfl (B at_13) rfl (l' := #[vi p1, vi p2, vi p3, vi p4, vi p5, vi 1, vi (own_ch p1), un, un, un, un, un, un]) rfl ?_
      refine sI X1 hx (B at_15) rfl ?_
      refine st2 _ ?_
      refine XS.istore X2.here hx rfl (B at_19) rfl (l' := #[vi p1, vi p2, vi p3, vi p4, vi p5, vi 1, vi (own_ch p1), vi (own_ch p2), un, un, un, un, un]) rfl ?_
      refine sI X2 hx (B at_21) rfl ?_
      refine st3 _ ?_
      refine XS.istore X3.here hx rfl (B at_25) rfl (l' := #[vi p1, vi p2, vi p3, vi p4, vi p5, vi 1, vi (own_ch p1), vi (own_ch p2), vi (own_ch p3), un, un, un, un]) rfl ?_
      refine sI X3 hx (B at_27) rfl ?_
      refine st4 _ ?_
      refine XS.istore X4.here hx rfl (B at_31) rfl (l' := #[vi p1, vi p2, vi p3, vi p4, vi p5, vi 1, vi (own_ch p1), vi (own_ch p2), vi (own_ch p3), vi (own_ch p4), un, un, un]) rfl ?_
      refine sJ X4 hx (B at_33) rfl ?_
      refine sJ X4 hx (B at_35) rfl ?_
      refine sJ X4 hx (B at_37) rfl ?_
      refine sJ X4 hx (B at_39) rfl ?_
      refine sJ X4 hx (B at_41) rfl ?_
      refine st5 _ ?_
      refine XS.astore X5.here hx rfl (B at_46) rfl rfl (l' := #[vi p1, vi p2, vi p3, vi p4, vi p5, vi 1, vi (own_ch p1), vi (own_ch p2), vi (own_ch p3), vi (own_ch p4), vr b5_0, un, un]) rfl ?_
      refine sC X5 hx (B at_48) ?_
      refine st6 _ ?_
      refine XS.dup X6.here hx rfl (B at_51) rfl rfl ?_
      refine sC X6 hx (B at_52) ?_
      refine sJ X6 hx (B at_53) rfl ?_
      refine st9 _ ?_
      refine XS.dup X9.here hx rfl (B at_56) rfl rfl ?_
      refine sC X9 hx (B at_57) ?_
      refine sJ X9 hx (B at_58) rfl ?_
      refine st12 _ ?_
      refine XS.dup X12.here hx rfl (B at_61) rfl rfl ?_
      refine sC X12 hx (B at_62) ?_
      refine sJ X12 hx (B at_63) rfl ?_
      refine st15 _ ?_
      refine XS.dup X15.here hx rfl (B at_66) rfl rfl ?_
      refine sC X15 hx (B at_67) ?_
      refine sJ X15 hx (B at_68) rfl ?_
      refine st18 _ ?_
      refine XS.astore X18.here hx rfl (B at_71) rfl rfl (l' := #[vi p1, vi p2, vi p3, vi p4, vi p5, vi 1, vi (own_ch p1), vi (own_ch p2), vi (own_ch p3), vi (own_ch p4), vr b5_0, vr b6, un]) rfl ?_
      refine st19 _ ?_
      refine sB X19 hx (B at_144) rfl rfl ?_
      refine st24 _ ?_
      refine sJ X24 hx (B at_149) rfl ?_
      refine XS.icmpNo X24.here hx rfl (B at_151) rfl (teq cd27).2 ?_
      refine sC X24 hx (B at_154) ?_
      refine XS.goto X24.here hx rfl (pc0 := 155) (pc' := 159) rfl (B at_155) (by decide) (by decide) ?_
      exact retN X24 hx (t := .boolean) hret (by simp) (B at_159) hr
theorem d2_35 : decode Kc2 35 = .ok (.iload_n 0, 1) := by decide +kernel
theorem d2_36 : decode Kc2 36 = .ok (.iconst 2, 1) := by decide +kernel
theorem d2_37 : decode Kc2 37 = .ok (.if_icmp .ne 22, 3) := by decide +kernel
theorem d2_40 : decode Kc2 40 = .ok (.new 33, 3) := by decide +kernel
theorem d2_43 : decode Kc2 43 = .ok (.dup, 1) := by decide +kernel
theorem d2_44 : decode Kc2 44 = .ok (.iconst 2, 1) := by decide +kernel
theorem d2_45 : decode Kc2 45 = .ok (.newarray .char, 2) := by decide +kernel
theorem d2_47 : decode Kc2 47 = .ok (.dup, 1) := by decide +kernel
theorem d2_48 : decode Kc2 48 = .ok (.iconst 0, 1) := by decide +kernel
theorem d2_49 : decode Kc2 49 = .ok (.iload_n 1, 1) := by decide +kernel
theorem d2_50 : decode Kc2 50 = .ok (.castore, 1) := by decide +kernel
theorem d2_51 : decode Kc2 51 = .ok (.dup, 1) := by decide +kernel
theorem d2_52 : decode Kc2 52 = .ok (.iconst 1, 1) := by decide +kernel
theorem d2_53 : decode Kc2 53 = .ok (.iload_n 2, 1) := by decide +kernel
theorem d2_54 : decode Kc2 54 = .ok (.castore, 1) := by decide +kernel
theorem d2_55 : decode Kc2 55 = .ok (.invokespecial 35, 3) := by decide +kernel
theorem ef_28bd7f (a1 : Addr) (a2 : Addr) (m : MethodId) : entryFrame m #[(.ref a1), (.int 0), (.ref a2), (.int 0), (.int 2)] 7 = mkF m 0 #[.val (.ref a1), .val (.int 0), .val (.ref a2), .val (.int 0), .val (.int 2), .unset, .unset] [] := by first | (simp [entryFrame, mkF, argsToLocals, Value.category]; done) | rfl
abbrev Rm57 : Room := rmk 0 0 0 0
def Q57 (Z : State) (a1 a2 : Addr) (i3 i4 : Int32) (ck5 : ClassId) (h0 : Heap) (n0 : Nat) (v : Option Value) (h : Heap) (L : List Loc) : Prop := v = some (.int 0) ∧ Fr n0 L ∧ h = h0
theorem rm57 (l : Launch) (Z : State) {a0 : Array Value} (hw : OW a0 Z) (a1 a2 : Addr) (i3 i4 : Int32) (ck5 : ClassId) (h0 : Heap) (n0 : Nat) (Z0 : n0 ≤ h0.size) (V_a1 : Arv Z h0 a1 ck5 .char 2 [(.int i3), (.int i4)] (.int 0)) (c6 : 255 < i3) :
    OwnMet l Z y_9 jdk_52_method_21_code 7 (some .int) [] Rm57 #[(.ref a1), (.int 0), (.ref a2), (.int 0), (.int 2)] h0 (Q57 Z a1 a2 i3 i4 ck5 h0 n0) := by
  refine own_body (plainFor_of_name pn_3) (ef_28bd7f a1 a2) ?_
  intro p e s m below meth c s₁ hx hby hml hown hnm hret hZ X0 e0
  have N0 := Fr.nil n0
  have B := hbx hby
  obtain ⟨cl1, Ar1, q1, S1, M1, Hs1, G1⟩ := id V_a1
  have hin2 := inb_of (j := 0) S1 ⟨by decide, by decide⟩
  refine ⟨s₁, _, _, _, (some (.int 0)), X0, nofun, by decide, by decide, ?_, fun fs hr => ?_⟩
  · rw [e0]
    exact ⟨rfl, N0, rfl⟩
  · refine sC X0 hx (B d11_0) ?_
    refine XS.istore X0.here hx rfl (B d11_1) rfl (l' := #[vr a1, vi 0, vr a2, vi 0, vi 2, vi 0, un]) rfl ?_
    refine sJ X0 hx (B d11_3) rfl ?_
    refine sJ X0 hx (B d11_5) rfl ?_
    refine XS.icmpNo X0.here hx rfl (B d11_7) rfl (tlt (by decide : (0 : Int32) < (2 : Int32))).2.1 ?_
    refine sA X0 hx (B d11_10) rfl rfl ?_
    refine sI X0 hx (B d11_11) rfl ?_
    refine X0.caload hx (j := 0) (v := (.int i3)) (by rw [e0]; exact Ar1.1) (State.isArrayOf_alike hZ.alike Ar1.2.1) Ar1.2.2 hin2 (Has.at Hs1 hin2 rfl) (g := (mkF m 12 #[vr a1, vi 0, vr a2, vi 0, vi 2, vi 0, un] [(.int 0), (.ref a1)])) rfl rfl (B d11_12) _ ?_
    refine XS.istore X0.here hx rfl (B d11_13) rfl (l' := #[vr a1, vi 0, vr a2, vi 0, vi 2, vi 0, vi i3]) rfl ?_
    refine sJ X0 hx (B d11_15) rfl ?_
    refine XS.sipush X0.here hx rfl (B d11_17) ?_
    refine XS.icmpNo X0.here hx rfl (B d11_20) rfl (tlt c6).2.2.2 ?_
    refine sJ X0 hx (B d11_23) rfl ?_
    exact retI X0 hx hret (B d11_25) hr
theorem ef_b8c495  (m : MethodId) : entryFrame m #[(.int 2)] 1 = mkF m 0 #[.val (.int 2)] [] := by first | (simp [entryFrame, mkF, argsToLocals, Value.category]; done) | rfl
abbrev Rm58 : Room := rmk 0 0 0 0
def Q58 (Z : State)  (h0 : Heap) (n0 : Nat) (v : Option Value) (h : Heap) (L : List Loc) : Prop := v = some (.int 4) ∧ Fr n0 L ∧ h = h0
theorem rm58 (l : Launch) (Z : State) {a0 : Array Value} (hw : OW a0 Z)  (h0 : Heap) (n0 : Nat) (Z0 : n0 ≤ h0.size) :
    OwnMet l Z y_10 jdk_52_method_3_code 1 (some .int) [] Rm58 #[(.int 2)] h0 (Q58 Z  h0 n0) := by
  refine own_body (plainFor_of_name pn_3) (ef_b8c495) ?_
  intro p e s m below meth c s₁ hx hby hml hown hnm hret hZ X0 e0
  have N0 := Fr.nil n0
  have B := hbx hby
  refine ⟨s₁, _, _, _, (some (.int 4)), X0, nofun, by decide, by decide, ?_, fun fs hr => ?_⟩
  · rw [e0]
    exact ⟨rfl, N0, rfl⟩
  · refine sI X0 hx (B d14_0) rfl ?_
    refine XS.ifYes X0.here hx rfl (pc0 := 1) (pc' := 12) rfl (B d14_1) rfl ((if0 _ _).trans (flt (by decide : ¬ ((2 : Int32) < (0 : Int32)))).2.1) (by decide) (by decide) ?_
    refine sI X0 hx (B d14_12) rfl ?_
    refine X0.ldcInt hx hown (mvT hZ (w_69 hw)) (g := (mkF m 13 #[vi 2] [(.int 2)])) rfl (B d14_13) _ ?_
    refine XS.icmpYes X0.here hx rfl (pc0 := 15) (pc' := 55) rfl (B d14_15) rfl (tlt (by decide : (2 : Int32) < (1073741823 : Int32))).1 (by decide) (by decide) ?_
    refine sI X0 hx (B d14_55) rfl ?_
    refine sC X0 hx (B d14_56) ?_
    refine XS.ishl X0.here hx rfl (B d14_57) rfl ?_
    exact retI X0 hx hret (B d14_58) hr
abbrev Rm59 : Room := rmk 1 1 4 12
def Q59 (Z : State)  (h0 : Heap) (n0 : Nat) (v : Option Value) (h : Heap) (L : List Loc) : Prop := ∃ b2 : Addr, ∃ k2 : ClassId, v = some (.ref b2) ∧ Fr n0 L ∧ Keep h0 h [] ∧ h0.size ≤ b2 ∧ Exa Z h b2 "[B" ∧ Arv Z h b2 k2 .byte 4 [(.int 0), (.int 0), (.int 0), (.int 0)] (.int 0)
theorem rm59 (l : Launch) (Z : State) {a0 : Array Value} (hw : OW a0 Z)  (h0 : Heap) (n0 : Nat) (Z0 : n0 ≤ h0.size) :
    OwnMet l Z y_11 jdk_52_method_2_code 1 (some (.array .byte)) [] Rm59 #[(.int 2)] h0 (Q59 Z  h0 n0) := by
  refine own_body (plainFor_of_name pn_3) (ef_b8c495) ?_
  intro p e s m below meth c s₁ hx hby hml hown hnm hret hZ X0 e0
  have N0 := Fr.nil n0
  have B := hbx hby
  obtain ⟨_, T1, L1, X1, hQ1, st1⟩ := own_callS X0 hx hZ hown (y := y_10) (w_66 hw) (w_67 hw) (w_55 hw) (w_68 hw) (rm58 l Z hw  h0 n0 Z0) e0 (Ls := #[vi 2]) hml.symm (argsL := [(.int 2)]) (rest := []) (lenOf pd_9 rfl) (B d13_1) (W := 0)
  obtain ⟨rfl, Nq1, e1⟩ := hQ1
  have N1 := Fr.app N0 Nq1
  obtain ⟨T2, h2, k2, X2, e2, E2, A2, B2, st2⟩ := newPE (aty := .byte) X1 hx hZ (w_27 hw) e1 (g := (mkF m 4 #[vi 2] [(.int 4)])) rfl (B d13_4) rfl (by decide) (cap := 4) (by decide) (by decide) (by decide) (by decide) (ad := "[B") (by decide)
  obtain ⟨b2, g2⟩ : ∃ z, z = h0.size := ⟨_, rfl⟩
  rw [← g2] at A2 B2 st2
  have s0 := E2.1
  have Vn2 : Arv Z h2 b2 k2 .byte 4 [(.int 0), (.int 0), (.int 0), (.int 0)] (.int 0) := (Arv.new A2 (by decide)).pad (pad_rep [] (.int 0) 4)
  have sz_b2 : h0.size ≤ b2 := (Nat.le_of_eq g2.symm)
  have Kp0 := (Keep.refl h0 []).ext E2
  refine ⟨T2, _, _, _, (some (.ref b2)), X2, nofun, by decide, by decide, ?_, fun fs hr => ?_⟩
  · rw [e2]
    exact ⟨b2, k2, rfl, N1, Kp0, sz_b2, B2, Vn2⟩
  · refine sI X0 hx (B d13_0) rfl ?_
    refine st1 _ ?_
    refine st2 _ ?_
    exact retOut X2 hx hret rfl (Or.inr (Or.inr (Or.inr (Or.inr ⟨rfl, rfl, rfl⟩)))) (B d13_6) hr
abbrev Rm60 : Room := rmk 0 0 0 0
def Q60 (Z : State) (a1 : Addr) (i2 : Int32) (ck3 : ClassId) (h0 : Heap) (n0 : Nat) (v : Option Value) (h : Heap) (L : List Loc) : Prop := v = none ∧ Fr n0 L ∧ Keep h0 h [a1] ∧ Exa Z h a1 "[B" ∧ Arv Z h a1 ck3 .byte 4 [(.int (nar .byte ((i2 >>> ((0 : Int32) &&& 31)).toInt8.toInt32))), (.int (nar .byte ((i2 >>> ((8 : Int32) &&& 31)).toInt8.toInt32))), (.int 0), (.int 0)] (.int 0)
theorem rm60 (l : Launch) (Z : State) {a0 : Array Value} (hw : OW a0 Z) (a1 : Addr) (i2 : Int32) (ck3 : ClassId) (h0 : Heap) (n0 : Nat) (Z0 : n0 ≤ h0.size) (S__assertionsDisabled : Sta Z Z.heap "java/lang/StringUTF16" "$assertionsDisabled" "Z" (.int 1)) (Od0 : Old Z n0 h0) (S_HI_BYTE_SHIFT : Sta Z Z.heap "java/lang/StringUTF16" "HI_BYTE_SHIFT" "I" (.int 0)) (V_a1 : Arv Z h0 a1 ck3 .byte 4 [(.int 0), (.int 0), (.int 0), (.int 0)] (.int 0)) (g_a1 : n0 ≤ a1) (S_LO_BYTE_SHIFT : Sta Z Z.heap "java/lang/StringUTF16" "LO_BYTE_SHIFT" "I" (.int 8)) (E_a1 : Exa Z h0 a1 "[B") :
    OwnMet l Z y_12 jdk_52_method_4_code 3 none [] Rm60 #[(.ref a1), (.int 0), (.int i2)] h0 (Q60 Z a1 i2 ck3 h0 n0) := by
  refine own_body (plainFor_of_name pn_3) (ef_3f9849 a1 i2) ?_
  intro p e s m below meth c s₁ hx hby hml hown hnm hret hZ X0 e0
  have N0 := Fr.nil n0
  have B := hbx hby
  obtain ⟨T1, X1, e1, st1⟩ := getS2 X0 hx hZ hown (host := "") (Or.inl (w_73 hw)) Via.refl e0 (S__assertionsDisabled.ext Od0.2) (g := (mkF m 0 #[vr a1, vi 0, vi i2] [])) rfl (B d15_0)
  obtain ⟨T2, X2, e2, st2⟩ := getS2 X1 hx hZ hown (host := "") (Or.inl (w_74 hw)) Via.refl e1 (S_HI_BYTE_SHIFT.ext Od0.2) (g := (mkF m 38 #[vr a1, vi 1, vi i2] [(.int i2), (.int 0), (.ref a1)])) rfl (B d15_38)
  obtain ⟨cl3, Ar3, q3, S3, M3, Hs3, G3⟩ := id V_a1
  have hin4 := inb_of (j := 0) S3 ⟨by decide, by decide⟩
  obtain ⟨T5, h5, X5, e5, W5, st5⟩ := stB X2 hx hZ e2 Ar3 (j := 0) hin4 (g := (mkF m 43 #[vr a1, vi 1, vi i2] [(.int ((i2 >>> ((0 : Int32) &&& 31)).toInt8.toInt32)), (.int 0), (.ref a1)])) rfl rfl (B d15_43)
  have s0 := (Keep.of_wr W5).1
  have N5 := Fr.snoc X5 N0 g_a1
  have Vs5 : Arv Z h5 a1 ck3 .byte 4 [(.int (nar .byte ((i2 >>> ((0 : Int32) &&& 31)).toInt8.toInt32))), (.int 0), (.int 0), (.int 0)] (.int 0) := Arv.set Ar3 q3 S3 M3 Hs3 G3 (fits_nar_byte _) W5 0 rfl (nl rfl)
  have Od1 := Od0.wr W5 g_a1
  obtain ⟨T6, X6, e6, st6⟩ := getS2 X5 hx hZ hown (host := "") (Or.inl (w_75 hw)) Via.refl e5 (S_LO_BYTE_SHIFT.ext Od1.2) (g := (mkF m 47 #[vr a1, vi 1, vi i2] [(.int i2), (.int 1), (.ref a1)])) rfl (B d15_47)
  obtain ⟨cl7, Ar7, q7, S7, M7, Hs7, G7⟩ := id Vs5
  have hin8 := inb_of (j := 1) S7 ⟨by decide, by decide⟩
  obtain ⟨T9, h9, X9, e9, W9, st9⟩ := stB X6 hx hZ e6 Ar7 (j := 1) hin8 (g := (mkF m 52 #[vr a1, vi 1, vi i2] [(.int ((i2 >>> ((8 : Int32) &&& 31)).toInt8.toInt32)), (.int 1), (.ref a1)])) rfl rfl (B d15_52)
  have s1 := (Keep.of_wr W9).1
  have N9 := Fr.snoc X9 N5 g_a1
  have Vs9 : Arv Z h9 a1 ck3 .byte 4 [(.int (nar .byte ((i2 >>> ((0 : Int32) &&& 31)).toInt8.toInt32))), (.int (nar .byte ((i2 >>> ((8 : Int32) &&& 31)).toInt8.toInt32))), (.int 0), (.int 0)] (.int 0) := Arv.set Ar7 q7 S7 M7 Hs7 G7 (fits_nar_byte _) W9 1 rfl (nl rfl)
  have Ex10 := ((E_a1.wr W5).wr W9)
  have Kp0 := (Keep.refl h0 [a1]).wr W5 own_m0
  have Kp1 := Kp0.wr W9 own_m0
  refine ⟨T9, _, _, _, none, X9, (fun _ => rfl), by decide, by decide, ?_, fun fs hr => ?_⟩
  · rw [e9]
    exact ⟨rfl, N9, Kp1, Ex10, Vs9⟩
  · refine st1 _ ?_
    refine XS.ifYes X1.here hx rfl (pc0 := 3) (pc' := 28) rfl (B d15_3) rfl ((if0 _ _).trans (feq (by decide : ¬ ((1 : Int32) = (0 : Int32)))).2) (by decide) (by decide) ?_
    refine sI X1 hx (B d15_28) rfl ?_
    refine sC X1 hx (B d15_29) ?_
    refine XS.ishl X1.here hx rfl (B d15_30) rfl ?_
    refine XS.istoreN X1.here hx rfl (B d15_31) rfl (l' := #[vr a1, vi 0, vi i2]) rfl ?_
    refine sA X1 hx (B d15_32) rfl rfl ?_
    refine sI X1 hx (B d15_33) rfl ?_
    refine XS.iinc X1.here hx rfl (B d15_34) rfl (l' := #[vr a1, vi 1, vi i2]) rfl ?_
    refine sI X1 hx (B d15_37) rfl ?_
    refine st2 _ ?_
    refine XS.ishr X2.here hx rfl (B d15_41) rfl ?_
    refine XS.i2b X2.here hx rfl (B d15_42) rfl ?_
    refine st5 _ ?_
    refine sA X5 hx (B d15_44) rfl rfl ?_
    refine sI X5 hx (B d15_45) rfl ?_
    refine sI X5 hx (B d15_46) rfl ?_
    refine st6 _ ?_
    refine XS.ishr X6.here hx rfl (B d15_50) rfl ?_
    refine XS.i2b X6.here hx rfl (B d15_51) rfl ?_
    refine st9 _ ?_
    exact X9.returnOut hx hret (B d15_53) hr
theorem ef_6ab81b (a1 : Addr) (i2 : Int32) (m : MethodId) : entryFrame m #[(.ref a1), (.int 1), (.int i2)] 3 = mkF m 0 #[.val (.ref a1), .val (.int 1), .val (.int i2)] [] := by first | (simp [entryFrame, mkF, argsToLocals, Value.category]; done) | rfl
abbrev Rm61 : Room := rmk 0 0 0 0
def Q61 (Z : State) (a1 : Addr) (i2 i3 i4 : Int32) (ck5 : ClassId) (h0 : Heap) (n0 : Nat) (v : Option Value) (h : Heap) (L : List Loc) : Prop := v = none ∧ Fr n0 L ∧ Keep h0 h [a1] ∧ Exa Z h a1 "[B" ∧ Arv Z h a1 ck5 .byte 4 [(.int i3), (.int i4), (.int (nar .byte ((i2 >>> ((0 : Int32) &&& 31)).toInt8.toInt32))), (.int (nar .byte ((i2 >>> ((8 : Int32) &&& 31)).toInt8.toInt32)))] (.int 0)
theorem rm61 (l : Launch) (Z : State) {a0 : Array Value} (hw : OW a0 Z) (a1 : Addr) (i2 i3 i4 : Int32) (ck5 : ClassId) (h0 : Heap) (n0 : Nat) (Z0 : n0 ≤ h0.size) (S__assertionsDisabled : Sta Z Z.heap "java/lang/StringUTF16" "$assertionsDisabled" "Z" (.int 1)) (Od0 : Old Z n0 h0) (S_HI_BYTE_SHIFT : Sta Z Z.heap "java/lang/StringUTF16" "HI_BYTE_SHIFT" "I" (.int 0)) (V_a1 : Arv Z h0 a1 ck5 .byte 4 [(.int i3), (.int i4), (.int 0), (.int 0)] (.int 0)) (g_a1 : n0 ≤ a1) (S_LO_BYTE_SHIFT : Sta Z Z.heap "java/lang/StringUTF16" "LO_BYTE_SHIFT" "I" (.int 8)) (E_a1 : Exa Z h0 a1 "[B") :
    OwnMet l Z y_12 jdk_52_method_4_code 3 none [] Rm61 #[(.ref a1), (.int 1), (.int i2)] h0 (Q61 Z a1 i2 i3 i4 ck5 h0 n0) := by
  refine own_body (plainFor_of_name pn_3) (ef_6ab81b a1 i2) ?_
  intro p e s m below meth c s₁ hx hby hml hown hnm hret hZ X0 e0
  have N0 := Fr.nil n0
  have B := hbx hby
  obtain ⟨T1, X1, e1, st1⟩ := getS2 X0 hx hZ hown (host := "") (Or.inl (w_73 hw)) Via.refl e0 (S__assertionsDisabled.ext Od0.2) (g := (mkF m 0 #[vr a1, vi 1, vi i2] [])) rfl (B d15_0)
  obtain ⟨T2, X2, e2, st2⟩ := getS2 X1 hx hZ hown (host := "") (Or.inl (w_74 hw)) Via.refl e1 (S_HI_BYTE_SHIFT.ext Od0.2) (g := (mkF m 38 #[vr a1, vi 3, vi i2] [(.int i2), (.int 2), (.ref a1)])) rfl (B d15_38)
  obtain ⟨cl3, Ar3, q3, S3, M3, Hs3, G3⟩ := id V_a1
  have hin4 := inb_of (j := 2) S3 ⟨by decide, by decide⟩
  obtain ⟨T5, h5, X5, e5, W5, st5⟩ := stB X2 hx hZ e2 Ar3 (j := 2) hin4 (g := (mkF m 43 #[vr a1, vi 3, vi i2] [(.int ((i2 >>> ((0 : Int32) &&& 31)).toInt8.toInt32)), (.int 2), (.ref a1)])) rfl rfl (B d15_43)
  have s0 := (Keep.of_wr W5).1
  have N5 := Fr.snoc X5 N0 g_a1
  have Vs5 : Arv Z h5 a1 ck5 .byte 4 [(.int i3), (.int i4), (.int (nar .byte ((i2 >>> ((0 : Int32) &&& 31)).toInt8.toInt32))), (.int 0)] (.int 0) := Arv.set Ar3 q3 S3 M3 Hs3 G3 (fits_nar_byte _) W5 2 rfl (nl rfl)
  have Od1 := Od0.wr W5 g_a1
  obtain ⟨T6, X6, e6, st6⟩ := getS2 X5 hx hZ hown (host := "") (Or.inl (w_75 hw)) Via.refl e5 (S_LO_BYTE_SHIFT.ext Od1.2) (g := (mkF m 47 #[vr a1, vi 3, vi i2] [(.int i2), (.int 3), (.ref a1)])) rfl (B d15_47)
  obtain ⟨cl7, Ar7, q7, S7, M7, Hs7, G7⟩ := id Vs5
  have hin8 := inb_of (j := 3) S7 ⟨by decide, by decide⟩
  obtain ⟨T9, h9, X9, e9, W9, st9⟩ := stB X6 hx hZ e6 Ar7 (j := 3) hin8 (g := (mkF m 52 #[vr a1, vi 3, vi i2] [(.int ((i2 >>> ((8 : Int32) &&& 31)).toInt8.toInt32)), (.int 3), (.ref a1)])) rfl rfl (B d15_52)
  have s1 := (Keep.of_wr W9).1
  have N9 := Fr.snoc X9 N5 g_a1
  have Vs9 : Arv Z h9 a1 ck5 .byte 4 [(.int i3), (.int i4), (.int (nar .byte ((i2 >>> ((0 : Int32) &&& 31)).toInt8.toInt32))), (.int (nar .byte ((i2 >>> ((8 : Int32) &&& 31)).toInt8.toInt32)))] (.int 0) := Arv.set Ar7 q7 S7 M7 Hs7 G7 (fits_nar_byte _) W9 3 rfl (nl rfl)
  have Ex10 := ((E_a1.wr W5).wr W9)
  have Kp0 := (Keep.refl h0 [a1]).wr W5 own_m0
  have Kp1 := Kp0.wr W9 own_m0
  refine ⟨T9, _, _, _, none, X9, (fun _ => rfl), by decide, by decide, ?_, fun fs hr => ?_⟩
  · rw [e9]
    exact ⟨rfl, N9, Kp1, Ex10, Vs9⟩
  · refine st1 _ ?_
    refine XS.ifYes X1.here hx rfl (pc0 := 3) (pc' := 28) rfl (B d15_3) rfl ((if0 _ _).trans (feq (by decide : ¬ ((1 : Int32) = (0 : Int32)))).2) (by decide) (by decide) ?_
    refine sI X1 hx (B d15_28) rfl ?_
    refine sC X1 hx (B d15_29) ?_
    refine XS.ishl X1.here hx rfl (B d15_30) rfl ?_
    refine XS.istoreN X1.here hx rfl (B d15_31) rfl (l' := #[vr a1, vi 2, vi i2]) rfl ?_
    refine sA X1 hx (B d15_32) rfl rfl ?_
    refine sI X1 hx (B d15_33) rfl ?_
    refine XS.iinc X1.here hx rfl (B d15_34) rfl (l' := #[vr a1, vi 3, vi i2]) rfl ?_
    refine sI X1 hx (B d15_37) rfl ?_
    refine st2 _ ?_
    refine XS.ishr X2.here hx rfl (B d15_41) rfl ?_
    refine XS.i2b X2.here hx rfl (B d15_42) rfl ?_
    refine st5 _ ?_
    refine sA X5 hx (B d15_44) rfl rfl ?_
    refine sI X5 hx (B d15_45) rfl ?_
    refine sI X5 hx (B d15_46) rfl ?_
    refine st6 _ ?_
    refine XS.ishr X6.here hx rfl (B d15_50) rfl ?_
    refine XS.i2b X6.here hx rfl (B d15_51) rfl ?_
    refine st9 _ ?_
    exact X9.returnOut hx hret (B d15_53) hr
theorem ef_e494bf (a1 : Addr) (m : MethodId) : entryFrame m #[(.ref a1), (.int 0), (.int 2)] 5 = mkF m 0 #[.val (.ref a1), .val (.int 0), .val (.int 2), .unset, .unset] [] := by first | (simp [entryFrame, mkF, argsToLocals, Value.category]; done) | rfl
abbrev Rm62 : Room := rmk 2 1 4 24
def Q62 (Z : State) (a1 : Addr) (i2 i3 : Int32) (ck4 : ClassId) (h0 : Heap) (n0 : Nat) (v : Option Value) (h : Heap) (L : List Loc) : Prop := ∃ b1_0 : Addr, ∃ k1_1 : ClassId, v = some (.ref b1_0) ∧ Fr n0 L ∧ Keep h0 h [] ∧ h0.size ≤ b1_0 ∧ Exa Z h b1_0 "[B" ∧ Arv Z h b1_0 k1_1 .byte 4 [(.int (nar .byte ((i2 >>> ((0 : Int32) &&& 31)).toInt8.toInt32))), (.int (nar .byte ((i2 >>> ((8 : Int32) &&& 31)).toInt8.toInt32))), (.int (nar .byte ((i3 >>> ((0 : Int32) &&& 31)).toInt8.toInt32))), (.int (nar .byte ((i3 >>> ((8 : Int32) &&& 31)).toInt8.toInt32)))] (.int 0)
theorem rm62 (l : Launch) (Z : State) {a0 : Array Value} (hw : OW a0 Z) (a1 : Addr) (i2 i3 : Int32) (ck4 : ClassId) (h0 : Heap) (n0 : Nat) (Z0 : n0 ≤ h0.size) (V_a1 : Arv Z h0 a1 ck4 .char 2 [(.int i2), (.int i3)] (.int 0)) (S__assertionsDisabled : Sta Z Z.heap "java/lang/StringUTF16" "$assertionsDisabled" "Z" (.int 1)) (Od0 : Old Z n0 h0) (S_HI_BYTE_SHIFT : Sta Z Z.heap "java/lang/StringUTF16" "HI_BYTE_SHIFT" "I" (.int 0)) (S_LO_BYTE_SHIFT : Sta Z Z.heap "java/lang/StringUTF16" "LO_BYTE_SHIFT" "I" (.int 8)) :
    OwnMet l Z y_13 jdk_52_method_14_code 5 (some (.array .byte)) [] Rm62 #[(.ref a1), (.int 0), (.int 2)] h0 (Q62 Z a1 i2 i3 ck4 h0 n0) := by
  refine own_body (plainFor_of_name pn_3) (ef_e494bf a1) ?_
  intro p e s m below meth c s₁ hx hby hml hown hnm hret hZ X0 e0
  have N0 := Fr.nil n0
  have B := hbx hby
  obtain ⟨_, T1, L1, X1, hQ1, st1⟩ := own_callS X0 hx hZ hown (y := y_11) (w_63 hw) (w_64 hw) (w_55 hw) (w_65 hw) (rm59 l Z hw  h0 n0 Z0) e0 (Ls := #[vr a1, vi 0, vi 2, un, un]) hml.symm (argsL := [(.int 2)]) (rest := []) (lenOf pd_10 rfl) (B d12_1) (W := 0)
  obtain ⟨b1_0, k1_1, rfl, Nq1, K1, o1_0, o1_1, o1_2⟩ := hQ1
  have N1 := Fr.app N0 Nq1
  have s0 := K1.1
  have Va2 := (V_a1.keep K1 nin0)
  obtain ⟨cl3, Ar3, q3, S3, M3, Hs3, G3⟩ := id Va2
  have hin4 := inb_of (j := 0) S3 ⟨by decide, by decide⟩
  have Od1 := Od0.keep K1 all0
  have g_b1_0 : n0 ≤ b1_0 := Nat.le_trans Z0 o1_0
  have z1 := Nat.le_trans Z0 s0
  obtain ⟨_, T5, L5, X5, hQ5, st5⟩ := own_callS X1 hx hZ hown (y := y_12) (w_70 hw) (w_71 hw) (w_55 hw) (w_72 hw) (rm60 l Z hw b1_0 i2 k1_1 T1.heap n0 z1 S__assertionsDisabled Od1 S_HI_BYTE_SHIFT o1_2 g_b1_0 S_LO_BYTE_SHIFT o1_1) rfl (Ls := #[vr a1, vi 0, vi 2, vr b1_0, vi 0]) hml.symm (argsL := [(.ref b1_0), (.int 0), (.int i2)]) (rest := []) (lenOf pd_11 rfl) (B d12_20) (W := 0)
  obtain ⟨rfl, Nq5, K5, o5_0, o5_1⟩ := hQ5
  have N5 := Fr.app N1 Nq5
  have s1 := K5.1
  have ne_a1_b1_0 := Nat.ne_of_lt (Nat.lt_of_lt_of_le V_a1.lt o1_0)
  have Va6 := (Va2.keep K5 (ninS ne_a1_b1_0 nin0))
  obtain ⟨cl7, Ar7, q7, S7, M7, Hs7, G7⟩ := id Va6
  have hin8 := inb_of (j := 1) S7 ⟨by decide, by decide⟩
  have Od2 := Od1.keep K5 (allS g_b1_0 all0)
  have z2 := Nat.le_trans Z0 (Nat.le_trans s0 s1)
  obtain ⟨_, T9, L9, X9, hQ9, st9⟩ := own_callS X5 hx hZ hown (y := y_12) (w_70 hw) (w_71 hw) (w_55 hw) (w_72 hw) (rm61 l Z hw b1_0 i3 (nar .byte ((i2 >>> ((0 : Int32) &&& 31)).toInt8.toInt32)) (nar .byte ((i2 >>> ((8 : Int32) &&& 31)).toInt8.toInt32)) k1_1 T5.heap n0 z2 S__assertionsDisabled Od2 S_HI_BYTE_SHIFT o5_1 g_b1_0 S_LO_BYTE_SHIFT o5_0) rfl (Ls := #[vr a1, vi 1, vi 2, vr b1_0, vi 1]) hml.symm (argsL := [(.ref b1_0), (.int 1), (.int i3)]) (rest := []) (lenOf pd_11 rfl) (B d12_20) (W := 0)
  obtain ⟨rfl, Nq9, K9, o9_0, o9_1⟩ := hQ9
  have N9 := Fr.app N5 Nq9
  have s2 := K9.1
  have sz_b1_0 : h0.size ≤ b1_0 := o1_0
  have Kp0 := (Keep.refl h0 []).trans K1 all0
  have Kp1 := Kp0.trans K5 (allS (Or.inr sz_b1_0) all0)
  have Kp2 := Kp1.trans K9 (allS (Or.inr sz_b1_0) all0)
  refine ⟨T9, _, _, _, (some (.ref b1_0)), X9, nofun, by decide, by decide, ?_, fun fs hr => ?_⟩
  · exact ⟨b1_0, k1_1, rfl, N9, Kp2, sz_b1_0, o9_0, o9_1⟩
  · refine sI X0 hx (B d12_0) rfl ?_
    refine st1 _ ?_
    refine XS.astoreN X1.here hx rfl (B d12_4) rfl rfl (l' := #[vr a1, vi 0, vi 2, vr b1_0, un]) rfl ?_
    refine sC X1 hx (B d12_5) ?_
    refine XS.istore X1.here hx rfl (B d12_6) rfl (l' := #[vr a1, vi 0, vi 2, vr b1_0, vi 0]) rfl ?_
    refine sJ X1 hx (B d12_8) rfl ?_
    refine sI X1 hx (B d12_10) rfl ?_
    refine XS.icmpNo X1.here hx rfl (B d12_11) rfl (tlt (by decide : (0 : Int32) < (2 : Int32))).2.1 ?_
    refine sA X1 hx (B d12_14) rfl rfl ?_
    refine sJ X1 hx (B d12_15) rfl ?_
    refine sA X1 hx (B d12_17) rfl rfl ?_
    refine sI X1 hx (B d12_18) rfl ?_
    refine X1.caload hx (j := 0) (v := (.int i2)) (Ar3.1) (State.isArrayOf_alike hZ.alike Ar3.2.1) Ar3.2.2 hin4 (Has.at Hs3 hin4 rfl) (g := (mkF m 19 #[vr a1, vi 0, vi 2, vr b1_0, vi 0] [(.int 0), (.ref a1), (.int 0), (.ref b1_0)])) rfl rfl (B d12_19) _ ?_
    refine st5 _ ?_
    refine XS.iinc X5.here hx rfl (B d12_23) rfl (l' := #[vr a1, vi 1, vi 2, vr b1_0, vi 0]) rfl ?_
    refine XS.iinc X5.here hx rfl (B d12_26) rfl (l' := #[vr a1, vi 1, vi 2, vr b1_0, vi 1]) rfl ?_
    refine XS.goto X5.here hx rfl (pc0 := 29) (pc' := 8) rfl (B d12_29) (by decide) (by decide) ?_
    refine sJ X5 hx (B d12_8) rfl ?_
    refine sI X5 hx (B d12_10) rfl ?_
    refine XS.icmpNo X5.here hx rfl (B d12_11) rfl (tlt (by decide : (1 : Int32) < (2 : Int32))).2.1 ?_
    refine sA X5 hx (B d12_14) rfl rfl ?_
    refine sJ X5 hx (B d12_15) rfl ?_
    refine sA X5 hx (B d12_17) rfl rfl ?_
    refine sI X5 hx (B d12_18) rfl ?_
    refine X5.caload hx (j := 1) (v := (.int i3)) (Ar7.1) (State.isArrayOf_alike hZ.alike Ar7.2.1) Ar7.2.2 hin8 (Has.at Hs7 hin8 rfl) (g := (mkF m 19 #[vr a1, vi 1, vi 2, vr b1_0, vi 1] [(.int 1), (.ref a1), (.int 1), (.ref b1_0)])) rfl rfl (B d12_19) _ ?_
    refine st9 _ ?_
    refine XS.iinc X9.here hx rfl (B d12_23) rfl (l' := #[vr a1, vi 2, vi 2, vr b1_0, vi 1]) rfl ?_
    refine XS.iinc X9.here hx rfl (B d12_26) rfl (l' := #[vr a1, vi 2, vi 2, vr b1_0, vi 2]) rfl ?_
    refine XS.goto X9.here hx rfl (pc0 := 29) (pc' := 8) rfl (B d12_29) (by decide) (by decide) ?_
    refine sJ X9 hx (B d12_8) rfl ?_
    refine sI X9 hx (B d12_10) rfl ?_
    refine XS.icmpYes X9.here hx rfl (pc0 := 11) (pc' := 32) rfl (B d12_11) rfl (flt (by decide : ¬ ((2 : Int32) < (2 : Int32)))).2.1 (by decide) (by decide) ?_
    refine sA X9 hx (B d12_32) rfl rfl ?_
    exact retOut X9 hx hret rfl (Or.inr (Or.inr (Or.inr (Or.inr ⟨rfl, rfl, rfl⟩)))) (B d12_33) hr
abbrev Rm63 : Room := rmk 0 0 0 0
def Q63 (Z : State) (a1 a2 : Addr) (i3 i4 : Int32) (ck5 ck7 : ClassId) (h0 : Heap) (n0 : Nat) (v : Option Value) (h : Heap) (L : List Loc) : Prop := v = some (.int 1) ∧ Fr n0 L ∧ Keep h0 h [a2] ∧ Exa Z h a2 "[B" ∧ Arv Z h a2 ck7 .byte 2 [(.int (nar .byte (i3.toInt8.toInt32))), (.int 0)] (.int 0)
theorem rm63 (l : Launch) (Z : State) {a0 : Array Value} (hw : OW a0 Z) (a1 a2 : Addr) (i3 i4 : Int32) (ck5 ck7 : ClassId) (h0 : Heap) (n0 : Nat) (Z0 : n0 ≤ h0.size) (V_a1 : Arv Z h0 a1 ck5 .char 2 [(.int i3), (.int i4)] (.int 0)) (c6 : ¬ (255 < i3)) (V_a2 : Arv Z h0 a2 ck7 .byte 2 [(.int 0), (.int 0)] (.int 0)) (g_a2 : n0 ≤ a2) (ne_a1_a2 : a1 ≠ a2) (c8 : 255 < i4) (E_a2 : Exa Z h0 a2 "[B") :
    OwnMet l Z y_9 jdk_52_method_21_code 7 (some .int) [] Rm63 #[(.ref a1), (.int 0), (.ref a2), (.int 0), (.int 2)] h0 (Q63 Z a1 a2 i3 i4 ck5 ck7 h0 n0) := by
  refine own_body (plainFor_of_name pn_3) (ef_28bd7f a1 a2) ?_
  intro p e s m below meth c s₁ hx hby hml hown hnm hret hZ X0 e0
  have N0 := Fr.nil n0
  have B := hbx hby
  obtain ⟨cl1, Ar1, q1, S1, M1, Hs1, G1⟩ := id V_a1
  have hin2 := inb_of (j := 0) S1 ⟨by decide, by decide⟩
  obtain ⟨cl3, Ar3, q3, S3, M3, Hs3, G3⟩ := id V_a2
  have hin4 := inb_of (j := 0) S3 ⟨by decide, by decide⟩
  obtain ⟨T5, h5, X5, e5, W5, st5⟩ := stB X0 hx hZ e0 Ar3 (j := 0) hin4 (g := (mkF m 31 #[vr a1, vi 0, vr a2, vi 0, vi 2, vi 0, vi i3] [(.int (i3.toInt8.toInt32)), (.int 0), (.ref a2)])) rfl rfl (B d11_31)
  have s0 := (Keep.of_wr W5).1
  have N5 := Fr.snoc X5 N0 g_a2
  have Vs5 : Arv Z h5 a2 ck7 .byte 2 [(.int (nar .byte (i3.toInt8.toInt32))), (.int 0)] (.int 0) := Arv.set Ar3 q3 S3 M3 Hs3 G3 (fits_nar_byte _) W5 0 rfl (nl rfl)
  have Va6 := (V_a1.other W5 ne_a1_a2)
  obtain ⟨cl7, Ar7, q7, S7, M7, Hs7, G7⟩ := id Va6
  have hin8 := inb_of (j := 1) S7 ⟨by decide, by decide⟩
  have Ex9 := (E_a2.wr W5)
  have Kp0 := (Keep.refl h0 [a2]).wr W5 own_m0
  refine ⟨T5, _, _, _, (some (.int 1)), X5, nofun, by decide, by decide, ?_, fun fs hr => ?_⟩
  · rw [e5]
    exact ⟨rfl, N5, Kp0, Ex9, Vs5⟩
  · refine sC X0 hx (B d11_0) ?_
    refine XS.istore X0.here hx rfl (B d11_1) rfl (l' := #[vr a1, vi 0, vr a2, vi 0, vi 2, vi 0, un]) rfl ?_
    refine sJ X0 hx (B d11_3) rfl ?_
    refine sJ X0 hx (B d11_5) rfl ?_
    refine XS.icmpNo X0.here hx rfl (B d11_7) rfl (tlt (by decide : (0 : Int32) < (2 : Int32))).2.1 ?_
    refine sA X0 hx (B d11_10) rfl rfl ?_
    refine sI X0 hx (B d11_11) rfl ?_
    refine X0.caload hx (j := 0) (v := (.int i3)) (by rw [e0]; exact Ar1.1) (State.isArrayOf_alike hZ.alike Ar1.2.1) Ar1.2.2 hin2 (Has.at Hs1 hin2 rfl) (g := (mkF m 12 #[vr a1, vi 0, vr a2, vi 0, vi 2, vi 0, un] [(.int 0), (.ref a1)])) rfl rfl (B d11_12) _ ?_
    refine XS.istore X0.here hx rfl (B d11_13) rfl (l' := #[vr a1, vi 0, vr a2, vi 0, vi 2, vi 0, vi i3]) rfl ?_
    refine sJ X0 hx (B d11_15) rfl ?_
    refine XS.sipush X0.here hx rfl (B d11_17) ?_
    refine XS.icmpYes X0.here hx rfl (pc0 := 20) (pc' := 26) rfl (B d11_20) rfl (flt c6).2.2.2 (by decide) (by decide) ?_
    refine sA X0 hx (B d11_26) rfl rfl ?_
    refine sI X0 hx (B d11_27) rfl ?_
    refine sJ X0 hx (B d11_28) rfl ?_
    refine XS.i2b X0.here hx rfl (B d11_30) rfl ?_
    refine st5 _ ?_
    refine XS.iinc X5.here hx rfl (B d11_32) rfl (l' := #[vr a1, vi 1, vr a2, vi 0, vi 2, vi 0, vi i3]) rfl ?_
    refine XS.iinc X5.here hx rfl (B d11_35) rfl (l' := #[vr a1, vi 1, vr a2, vi 1, vi 2, vi 0, vi i3]) rfl ?_
    refine XS.iinc X5.here hx rfl (B d11_38) rfl (l' := #[vr a1, vi 1, vr a2, vi 1, vi 2, vi 1, vi i3]) rfl ?_
    refine XS.goto X5.here hx rfl (pc0 := 41) (pc' := 3) rfl (B d11_41) (by decide) (by decide) ?_
    refine sJ X5 hx (B d11_3) rfl ?_
    refine sJ X5 hx (B d11_5) rfl ?_
    refine XS.icmpNo X5.here hx rfl (B d11_7) rfl (tlt (by decide : (1 : Int32) < (2 : Int32))).2.1 ?_
    refine sA X5 hx (B d11_10) rfl rfl ?_
    refine sI X5 hx (B d11_11) rfl ?_
    refine X5.caload hx (j := 1) (v := (.int i4)) (by rw [e5]; exact Ar7.1) (State.isArrayOf_alike hZ.alike Ar7.2.1) Ar7.2.2 hin8 (Has.at Hs7 hin8 rfl) (g := (mkF m 12 #[vr a1, vi 1, vr a2, vi 1, vi 2, vi 1, vi i3] [(.int 1), (.ref a1)])) rfl rfl (B d11_12) _ ?_
    refine XS.istore X5.here hx rfl (B d11_13) rfl (l' := #[vr a1, vi 1, vr a2, vi 1, vi 2, vi 1, vi i4]) rfl ?_
    refine sJ X5 hx (B d11_15) rfl ?_
    refine XS.sipush X5.here hx rfl (B d11_17) ?_
    refine XS.icmpNo X5.here hx rfl (B d11_20) rfl (tlt c8).2.2.2 ?_
    refine sJ X5 hx (B d11_23) rfl ?_
    exact retI X5 hx hret (B d11_25) hr
abbrev Rm64 : Room := rmk 0 0 0 0
def Q64 (Z : State) (a1 a2 : Addr) (i3 i4 : Int32) (ck5 ck7 : ClassId) (h0 : Heap) (n0 : Nat) (v : Option Value) (h : Heap) (L : List Loc) : Prop := v = some (.int 2) ∧ Fr n0 L ∧ Keep h0 h [a2] ∧ Exa Z h a2 "[B" ∧ Arv Z h a2 ck7 .byte 2 [(.int (nar .byte (i3.toInt8.toInt32))), (.int (nar .byte (i4.toInt8.toInt32)))] (.int 0)
theorem rm64 (l : Launch) (Z : State) {a0 : Array Value} (hw : OW a0 Z) (a1 a2 : Addr) (i3 i4 : Int32) (ck5 ck7 : ClassId) (h0 : Heap) (n0 : Nat) (Z0 : n0 ≤ h0.size) (V_a1 : Arv Z h0 a1 ck5 .char 2 [(.int i3), (.int i4)] (.int 0)) (c6 : ¬ (255 < i3)) (V_a2 : Arv Z h0 a2 ck7 .byte 2 [(.int 0), (.int 0)] (.int 0)) (g_a2 : n0 ≤ a2) (ne_a1_a2 : a1 ≠ a2) (c8 : ¬ (255 < i4)) (E_a2 : Exa Z h0 a2 "[B") :
    OwnMet l Z y_9 jdk_52_method_21_code 7 (some .int) [] Rm64 #[(.ref a1), (.int 0), (.ref a2), (.int 0), (.int 2)] h0 (Q64 Z a1 a2 i3 i4 ck5 ck7 h0 n0) := by
  refine own_body (plainFor_of_name pn_3) (ef_28bd7f a1 a2) ?_
  intro p e s m below meth c s₁ hx hby hml hown hnm hret hZ X0 e0
  have N0 := Fr.nil n0
  have B := hbx hby
  obtain ⟨cl1, Ar1, q1, S1, M1, Hs1, G1⟩ := id V_a1
  have hin2 := inb_of (j := 0) S1 ⟨by decide, by decide⟩
  obtain ⟨cl3, Ar3, q3, S3, M3, Hs3, G3⟩ := id V_a2
  have hin4 := inb_of (j := 0) S3 ⟨by decide, by decide⟩
  obtain ⟨T5, h5, X5, e5, W5, st5⟩ := stB X0 hx hZ e0 Ar3 (j := 0) hin4 (g := (mkF m 31 #[vr a1, vi 0, vr a2, vi 0, vi 2, vi 0, vi i3] [(.int (i3.toInt8.toInt32)), (.int 0), (.ref a2)])) rfl rfl (B d11_31)
  have s0 := (Keep.of_wr W5).1
  have N5 := Fr.snoc X5 N0 g_a2
  have Vs5 : Arv Z h5 a2 ck7 .byte 2 [(.int (nar .byte (i3.toInt8.toInt32))), (.int 0)] (.int 0) := Arv.set Ar3 q3 S3 M3 Hs3 G3 (fits_nar_byte _) W5 0 rfl (nl rfl)
  have Va6 := (V_a1.other W5 ne_a1_a2)
  obtain ⟨cl7, Ar7, q7, S7, M7, Hs7, G7⟩ := id Va6
  have hin8 := inb_of (j := 1) S7 ⟨by decide, by decide⟩
  obtain ⟨cl9, Ar9, q9, S9, M9, Hs9, G9⟩ := id Vs5
  have hin10 := inb_of (j := 1) S9 ⟨by decide, by decide⟩
  obtain ⟨T11, h11, X11, e11, W11, st11⟩ := stB X5 hx hZ e5 Ar9 (j := 1) hin10 (g := (mkF m 31 #[vr a1, vi 1, vr a2, vi 1, vi 2, vi 1, vi i4] [(.int (i4.toInt8.toInt32)), (.int 1), (.ref a2)])) rfl rfl (B d11_31)
  have s1 := (Keep.of_wr W11).1
  have N11 := Fr.snoc X11 N5 g_a2
  have Vs11 : Arv Z h11 a2 ck7 .byte 2 [(.int (nar .byte (i3.toInt8.toInt32))), (.int (nar .byte (i4.toInt8.toInt32)))] (.int 0) := Arv.set Ar9 q9 S9 M9 Hs9 G9 (fits_nar_byte _) W11 1 rfl (nl rfl)
  have Ex12 := ((E_a2.wr W5).wr W11)
  have Kp0 := (Keep.refl h0 [a2]).wr W5 own_m0
  have Kp1 := Kp0.wr W11 own_m0
  refine ⟨T11, _, _, _, (some (.int 2)), X11, nofun, by decide, by decide, ?_, fun fs hr => ?_⟩
  · rw [e11]
    exact ⟨rfl, N11, Kp1, Ex12, Vs11⟩
  · refine sC X0 hx (B d11_0) ?_
    refine XS.istore X0.here hx rfl (B d11_1) rfl (l' := #[vr a1, vi 0, vr a2, vi 0, vi 2, vi 0, un]) rfl ?_
    refine sJ X0 hx (B d11_3) rfl ?_
    refine sJ X0 hx (B d11_5) rfl ?_
    refine XS.icmpNo X0.here hx rfl (B d11_7) rfl (tlt (by decide : (0 : Int32) < (2 : Int32))).2.1 ?_
    refine sA X0 hx (B d11_10) rfl rfl ?_
    refine sI X0 hx (B d11_11) rfl ?_
    refine X0.caload hx (j := 0) (v := (.int i3)) (by rw [e0]; exact Ar1.1) (State.isArrayOf_alike hZ.alike Ar1.2.1) Ar1.2.2 hin2 (Has.at Hs1 hin2 rfl) (g := (mkF m 12 #[vr a1, vi 0, vr a2, vi 0, vi 2, vi 0, un] [(.int 0), (.ref a1)])) rfl rfl (B d11_12) _ ?_
    refine XS.istore X0.here hx rfl (B d11_13) rfl (l' := #[vr a1, vi 0, vr a2, vi 0, vi 2, vi 0, vi i3]) rfl ?_
    refine sJ X0 hx (B d11_15) rfl ?_
    refine XS.sipush X0.here hx rfl (B d11_17) ?_
    refine XS.icmpYes X0.here hx rfl (pc0 := 20) (pc' := 26) rfl (B d11_20) rfl (flt c6).2.2.2 (by decide) (by decide) ?_
    refine sA X0 hx (B d11_26) rfl rfl ?_
    refine sI X0 hx (B d11_27) rfl ?_
    refine sJ X0 hx (B d11_28) rfl ?_
    refine XS.i2b X0.here hx rfl (B d11_30) rfl ?_
    refine st5 _ ?_
    refine XS.iinc X5.here hx rfl (B d11_32) rfl (l' := #[vr a1, vi 1, vr a2, vi 0, vi 2, vi 0, vi i3]) rfl ?_
    refine XS.iinc X5.here hx rfl (B d11_35) rfl (l' := #[vr a1, vi 1, vr a2, vi 1, vi 2, vi 0, vi i3]) rfl ?_
    refine XS.iinc X5.here hx rfl (B d11_38) rfl (l' := #[vr a1, vi 1, vr a2, vi 1, vi 2, vi 1, vi i3]) rfl ?_
    refine XS.goto X5.here hx rfl (pc0 := 41) (pc' := 3) rfl (B d11_41) (by decide) (by decide) ?_
    refine sJ X5 hx (B d11_3) rfl ?_
    refine sJ X5 hx (B d11_5) rfl ?_
    refine XS.icmpNo X5.here hx rfl (B d11_7) rfl (tlt (by decide : (1 : Int32) < (2 : Int32))).2.1 ?_
    refine sA X5 hx (B d11_10) rfl rfl ?_
    refine sI X5 hx (B d11_11) rfl ?_
    refine X5.caload hx (j := 1) (v := (.int i4)) (by rw [e5]; exact Ar7.1) (State.isArrayOf_alike hZ.alike Ar7.2.1) Ar7.2.2 hin8 (Has.at Hs7 hin8 rfl) (g := (mkF m 12 #[vr a1, vi 1, vr a2, vi 1, vi 2, vi 1, vi i3] [(.int 1), (.ref a1)])) rfl rfl (B d11_12) _ ?_
    refine XS.istore X5.here hx rfl (B d11_13) rfl (l' := #[vr a1, vi 1, vr a2, vi 1, vi 2, vi 1, vi i4]) rfl ?_
    refine sJ X5 hx (B d11_15) rfl ?_
    refine XS.sipush X5.here hx rfl (B d11_17) ?_
    refine XS.icmpYes X5.here hx rfl (pc0 := 20) (pc' := 26) rfl (B d11_20) rfl (flt c8).2.2.2 (by decide) (by decide) ?_
    refine sA X5 hx (B d11_26) rfl rfl ?_
    refine sI X5 hx (B d11_27) rfl ?_
    refine sJ X5 hx (B d11_28) rfl ?_
    refine XS.i2b X5.here hx rfl (B d11_30) rfl ?_
    refine st11 _ ?_
    refine XS.iinc X11.here hx rfl (B d11_32) rfl (l' := #[vr a1, vi 2, vr a2, vi 1, vi 2, vi 1, vi i4]) rfl ?_
    refine XS.iinc X11.here hx rfl (B d11_35) rfl (l' := #[vr a1, vi 2, vr a2, vi 2, vi 2, vi 1, vi i4]) rfl ?_
    refine XS.iinc X11.here hx rfl (B d11_38) rfl (l' := #[vr a1, vi 2, vr a2, vi 2, vi 2, vi 2, vi i4]) rfl ?_
    refine XS.goto X11.here hx rfl (pc0 := 41) (pc' := 3) rfl (B d11_41) (by decide) (by decide) ?_
    refine sJ X11 hx (B d11_3) rfl ?_
    refine sJ X11 hx (B d11_5) rfl ?_
    refine XS.icmpYes X11.here hx rfl (pc0 := 7) (pc' := 44) rfl (B d11_7) rfl (flt (by decide : ¬ ((2 : Int32) < (2 : Int32)))).2.1 (by decide) (by decide) ?_
    refine sJ X11 hx (B d11_44) rfl ?_
    exact retI X11 hx hret (B d11_46) hr
def own_cc1 (v0 v1 : Int32) : Int32 := (if 255 < v0 then (0 : Int32) else (if 255 < v1 then (0 : Int32) else (1 : Int32)))
theorem ef_1ab08b (a1 : Addr) (m : MethodId) : entryFrame m #[(.ref a1), (.int 0), (.int 2)] 6 = mkF m 0 #[.val (.ref a1), .val (.int 0), .val (.int 2), .unset, .unset, .unset] [] := by first | (simp [entryFrame, mkF, argsToLocals, Value.category]; done) | rfl
abbrev Rm65 : Room := rmk 3 2 6 40
def Q65 (Z : State) (a1 : Addr) (i2 i3 : Int32) (ck4 : ClassId) (h0 : Heap) (n0 : Nat) (v : Option Value) (h : Heap) (L : List Loc) : Prop := ∃ m0 : Addr, ∃ kk1 : ClassId, v = some (.ref m0) ∧ Fr n0 L ∧ Keep h0 h [] ∧ h0.size ≤ m0 ∧ Exa Z h m0 "[B" ∧ Arv Z h m0 kk1 .byte 4 [(.int (nar .byte ((i2 >>> ((0 : Int32) &&& 31)).toInt8.toInt32))), (.int (nar .byte ((i2 >>> ((8 : Int32) &&& 31)).toInt8.toInt32))), (.int (nar .byte ((i3 >>> ((0 : Int32) &&& 31)).toInt8.toInt32))), (.int (nar .byte ((i3 >>> ((8 : Int32) &&& 31)).toInt8.toInt32)))] (.int 0)
theorem rm65 (l : Launch) (Z : State) {a0 : Array Value} (hw : OW a0 Z) (a1 : Addr) (i2 i3 : Int32) (ck4 : ClassId) (h0 : Heap) (n0 : Nat) (Z0 : n0 ≤ h0.size) (V_a1 : Arv Z h0 a1 ck4 .char 2 [(.int i2), (.int i3)] (.int 0)) (S__assertionsDisabled : Sta Z Z.heap "java/lang/StringUTF16" "$assertionsDisabled" "Z" (.int 1)) (Od0 : Old Z n0 h0) (S_HI_BYTE_SHIFT : Sta Z Z.heap "java/lang/StringUTF16" "HI_BYTE_SHIFT" "I" (.int 0)) (S_LO_BYTE_SHIFT : Sta Z Z.heap "java/lang/StringUTF16" "LO_BYTE_SHIFT" "I" (.int 8)) (c5 : ¬ (65535 < i2)) (c6 : ¬ (65535 < i3)) (c7 : (own_cc1 i2 i3) = 0) :
    OwnMet l Z y_15 jdk_52_method_16_code 6 (some (.array .byte)) [] Rm65 #[(.ref a1), (.int 0), (.int 2)] h0 (Q65 Z a1 i2 i3 ck4 h0 n0) := by
  refine own_body (plainFor_of_name pn_3) (ef_1ab08b a1) ?_
  intro p e s m below meth c s₁ hx hby hml hown hnm hret hZ X0 e0
  have N0 := Fr.nil n0
  have B := hbx hby
  obtain ⟨T1, h1, k1, X1, e1, E1, A1, B1, st1⟩ := newPE (aty := .byte) X0 hx hZ (w_27 hw) e0 (g := (mkF m 1 #[vr a1, vi 0, vi 2, un, un, un] [(.int 2)])) rfl (B d10_1) rfl (by decide) (cap := 2) (by decide) (by decide) (by decide) (by decide) (ad := "[B") (by decide)
  obtain ⟨b1, g1⟩ : ∃ z, z = h0.size := ⟨_, rfl⟩
  rw [← g1] at A1 B1 st1
  have s0 := E1.1
  have Vn1 : Arv Z h1 b1 k1 .byte 2 [(.int 0), (.int 0)] (.int 0) := (Arv.new A1 (by decide)).pad (pad_rep [] (.int 0) 2)
  have Va2 := (V_a1.ext E1)
  by_cases cc1 : 255 < i2
  · have z1 := Nat.le_trans Z0 s0
    obtain ⟨_, T3, L3, X3, hQ3, st3⟩ := own_callS X1 hx hZ hown (y := y_9) (w_57 hw) (w_58 hw) (w_55 hw) (w_59 hw) (rm57 l Z hw a1 b1 i2 i3 ck4 h1 n0 z1 Va2 cc1) e1 (Ls := #[vr a1, vi 0, vi 2, vr b1, un, un]) hml.symm (argsL := [(.ref a1), (.int 0), (.ref b1), (.int 0), (.int 2)]) (rest := []) (lenOf pd_8 rfl) (B d10_9) (W := 0)
    obtain ⟨rfl, Nq3, e3⟩ := hQ3
    have N3 := Fr.app N0 Nq3
    have Od1 := Od0.ext E1
    obtain ⟨_, T4, L4, X4, hQ4, st4⟩ := own_callS X3 hx hZ hown (y := y_13) (w_60 hw) (w_61 hw) (w_55 hw) (w_62 hw) (rm62 l Z hw a1 i2 i3 ck4 h1 n0 z1 Va2 S__assertionsDisabled Od1 S_HI_BYTE_SHIFT S_LO_BYTE_SHIFT) e3 (Ls := #[vr a1, vi 0, vi 2, vr b1, vi 0, un]) hml.symm (argsL := [(.ref a1), (.int 0), (.int 2)]) (rest := []) (lenOf pd_12 rfl) (B d10_23) (W := 0)
    obtain ⟨b4_0, k4_1, rfl, Nq4, K4, o4_0, o4_1, o4_2⟩ := hQ4
    have N4 := Fr.app N3 Nq4
    have s1 := K4.1
    have Od2 := Od1.keep K4 all0
    have z2 := Nat.le_trans Z0 (Nat.le_trans s0 s1)
    obtain ⟨_, T5, L5, X5, hQ5, st5⟩ := own_callS X4 hx hZ hown (y := y_14) (w_76 hw) (w_77 hw) (w_55 hw) (w_78 hw) (rm16 l Z hw b4_0 (0 : Int32) [(.int (nar .byte ((i2 >>> ((0 : Int32) &&& 31)).toInt8.toInt32))), (.int (nar .byte ((i2 >>> ((8 : Int32) &&& 31)).toInt8.toInt32))), (.int (nar .byte ((i3 >>> ((0 : Int32) &&& 31)).toInt8.toInt32))), (.int (nar .byte ((i3 >>> ((8 : Int32) &&& 31)).toInt8.toInt32)))] k4_1 (4 : Int32) (nar .byte ((i2 >>> ((0 : Int32) &&& 31)).toInt8.toInt32)) (nar .byte ((i2 >>> ((8 : Int32) &&& 31)).toInt8.toInt32)) T4.heap n0 z2 S__assertionsDisabled Od2 o4_2 (by decide) (by decide) rfl S_HI_BYTE_SHIFT (by decide) (by decide) rfl S_LO_BYTE_SHIFT) rfl (Ls := #[vr a1, vi 0, vi 2, vr b1, vi 0, vr b4_0]) hml.symm (argsL := [(.ref b4_0), (.int 0)]) (rest := []) (lenOf pd_13 rfl) (B d10_32) (W := 0)
    obtain ⟨rfl, Nq5, e5⟩ := hQ5
    have N5 := Fr.app N4 Nq5
    have cd6 : ¬ (i2 < 0) := (by rw [Int32.lt_iff_toInt_lt]; have := And.intro (own_lb cc1 255 (by decide)) (trivial); have := rng32 i2; have : ((0 : Int32)).toInt = 0 := (by decide); omega)
    have cd7 : 255 < (own_gc (nar .byte ((i2 >>> ((0 : Int32) &&& 31)).toInt8.toInt32)) (nar .byte ((i2 >>> ((8 : Int32) &&& 31)).toInt8.toInt32))) := (by rw [own_gcN i2 cd6 c5]; exact cc1)
    have sz_b4_0 : h0.size ≤ b4_0 := Nat.le_trans s0 o4_0
    have Kp0 := (Keep.refl h0 []).ext E1
    have Kp1 := Kp0.trans K4 all0
    refine ⟨T5, _, _, _, (some (.ref b4_0)), X5, nofun, by decide, by decide, ?_, fun fs hr => ?_⟩
    · rw [e5]
      exact ⟨b4_0, k4_1, rfl, N5, Kp1, sz_b4_0, o4_1, o4_2⟩
    · refine sI X0 hx (B d10_0) rfl ?_
      refine st1 _ ?_
      refine XS.astoreN X1.here hx rfl (B d10_3) rfl rfl (l' := #[vr a1, vi 0, vi 2, vr b1, un, un]) rfl ?_
      refine sA X1 hx (B d10_4) rfl rfl ?_
      refine sI X1 hx (B d10_5) rfl ?_
      refine sA X1 hx (B d10_6) rfl rfl ?_
      refine sC X1 hx (B d10_7) ?_
      refine sI X1 hx (B d10_8) rfl ?_
      refine st3 _ ?_
      refine XS.istore X3.here hx rfl (B d10_12) rfl (l' := #[vr a1, vi 0, vi 2, vr b1, vi 0, un]) rfl ?_
      refine sJ X3 hx (B d10_14) rfl ?_
      refine sI X3 hx (B d10_16) rfl ?_
      refine XS.icmpNo X3.here hx rfl (B d10_17) rfl (feq (by decide : ¬ ((0 : Int32) = (2 : Int32)))).1 ?_
      refine sA X3 hx (B d10_20) rfl rfl ?_
      refine sI X3 hx (B d10_21) rfl ?_
      refine sI X3 hx (B d10_22) rfl ?_
      refine st4 _ ?_
      refine XS.astore X4.here hx rfl (B d10_26) rfl rfl (l' := #[vr a1, vi 0, vi 2, vr b1, vi 0, vr b4_0]) rfl ?_
      refine sB X4 hx (B d10_28) rfl rfl ?_
      refine sJ X4 hx (B d10_30) rfl ?_
      refine st5 _ ?_
      refine XS.sipush X5.here hx rfl (B d10_35) ?_
      refine XS.icmpYes X5.here hx rfl (pc0 := 38) (pc' := 54) rfl (B d10_38) rfl (tlt cd7).2.2.1 (by decide) (by decide) ?_
      refine sB X5 hx (B d10_54) rfl rfl ?_
      exact retOut X5 hx hret rfl (Or.inr (Or.inr (Or.inr (Or.inr ⟨rfl, rfl, rfl⟩)))) (B d10_56) hr
  · have g_b1 : n0 ≤ b1 := Nat.le_trans Z0 (Nat.le_of_eq g1.symm)
    have ne_a1_b1 := Nat.ne_of_lt (Nat.lt_of_lt_of_le V_a1.lt (Nat.le_of_eq g1.symm))
    have z1 := Nat.le_trans Z0 s0
    by_cases cc2 : 255 < i3
    · obtain ⟨_, T3, L3, X3, hQ3, st3⟩ := own_callS X1 hx hZ hown (y := y_9) (w_57 hw) (w_58 hw) (w_55 hw) (w_59 hw) (rm63 l Z hw a1 b1 i2 i3 ck4 k1 h1 n0 z1 Va2 cc1 Vn1 g_b1 ne_a1_b1 cc2 B1) e1 (Ls := #[vr a1, vi 0, vi 2, vr b1, un, un]) hml.symm (argsL := [(.ref a1), (.int 0), (.ref b1), (.int 0), (.int 2)]) (rest := []) (lenOf pd_8 rfl) (B d10_9) (W := 0)
      obtain ⟨rfl, Nq3, K3, o3_0, o3_1⟩ := hQ3
      have N3 := Fr.app N0 Nq3
      have s1 := K3.1
      have Va4 := (Va2.keep K3 (ninS ne_a1_b1 nin0))
      have Od1 := Od0.ext E1
      have Od2 := Od1.keep K3 (allS g_b1 all0)
      have z2 := Nat.le_trans Z0 (Nat.le_trans s0 s1)
      obtain ⟨_, T5, L5, X5, hQ5, st5⟩ := own_callS X3 hx hZ hown (y := y_13) (w_60 hw) (w_61 hw) (w_55 hw) (w_62 hw) (rm62 l Z hw a1 i2 i3 ck4 T3.heap n0 z2 Va4 S__assertionsDisabled Od2 S_HI_BYTE_SHIFT S_LO_BYTE_SHIFT) rfl (Ls := #[vr a1, vi 0, vi 2, vr b1, vi 1, un]) hml.symm (argsL := [(.ref a1), (.int 0), (.int 2)]) (rest := []) (lenOf pd_12 rfl) (B d10_23) (W := 0)
      obtain ⟨b5_0, k5_1, rfl, Nq5, K5, o5_0, o5_1, o5_2⟩ := hQ5
      have N5 := Fr.app N3 Nq5
      have s2 := K5.1
      have Od3 := Od2.keep K5 all0
      have z3 := Nat.le_trans Z0 (Nat.le_trans (Nat.le_trans s0 s1) s2)
      obtain ⟨_, T6, L6, X6, hQ6, st6⟩ := own_callS X5 hx hZ hown (y := y_14) (w_76 hw) (w_77 hw) (w_55 hw) (w_78 hw) (rm16 l Z hw b5_0 (1 : Int32) [(.int (nar .byte ((i2 >>> ((0 : Int32) &&& 31)).toInt8.toInt32))), (.int (nar .byte ((i2 >>> ((8 : Int32) &&& 31)).toInt8.toInt32))), (.int (nar .byte ((i3 >>> ((0 : Int32) &&& 31)).toInt8.toInt32))), (.int (nar .byte ((i3 >>> ((8 : Int32) &&& 31)).toInt8.toInt32)))] k5_1 (4 : Int32) (nar .byte ((i3 >>> ((0 : Int32) &&& 31)).toInt8.toInt32)) (nar .byte ((i3 >>> ((8 : Int32) &&& 31)).toInt8.toInt32)) T5.heap n0 z3 S__assertionsDisabled Od3 o5_2 (by decide) (by decide) rfl S_HI_BYTE_SHIFT (by decide) (by decide) rfl S_LO_BYTE_SHIFT) rfl (Ls := #[vr a1, vi 0, vi 2, vr b1, vi 1, vr b5_0]) hml.symm (argsL := [(.ref b5_0), (.int 1)]) (rest := []) (lenOf pd_13 rfl) (B d10_32) (W := 0)
      obtain ⟨rfl, Nq6, e6⟩ := hQ6
      have N6 := Fr.app N5 Nq6
      have cd7 : ¬ (i3 < 0) := (by rw [Int32.lt_iff_toInt_lt]; have := And.intro (own_lb cc2 255 (by decide)) (trivial); have := rng32 i3; have : ((0 : Int32)).toInt = 0 := (by decide); omega)
      have cd8 : 255 < (own_gc (nar .byte ((i3 >>> ((0 : Int32) &&& 31)).toInt8.toInt32)) (nar .byte ((i3 >>> ((8 : Int32) &&& 31)).toInt8.toInt32))) := (by rw [own_gcN i3 cd7 c6]; exact cc2)
      have sz_b5_0 : h0.size ≤ b5_0 := Nat.le_trans (Nat.le_trans s0 s1) o5_0
      have Kp0 := (Keep.refl h0 []).ext E1
      have sz_b1 : h0.size ≤ b1 := (Nat.le_of_eq g1.symm)
      have Kp1 := Kp0.trans K3 (allS (Or.inr sz_b1) all0)
      have Kp2 := Kp1.trans K5 all0
      refine ⟨T6, _, _, _, (some (.ref b5_0)), X6, nofun, by decide, by decide, ?_, fun fs hr => ?_⟩
      · rw [e6]
        exact ⟨b5_0, k5_1, rfl, N6, Kp2, sz_b5_0, o5_1, o5_2⟩
      · refine sI X0 hx (B d10_0) rfl ?_
        refine st1 _ ?_
        refine XS.astoreN X1.here hx rfl (B d10_3) rfl rfl (l' := #[vr a1, vi 0, vi 2, vr b1, un, un]) rfl ?_
        refine sA X1 hx (B d10_4) rfl rfl ?_
        refine sI X1 hx (B d10_5) rfl ?_
        refine sA X1 hx (B d10_6) rfl rfl ?_
        refine sC X1 hx (B d10_7) ?_
        refine sI X1 hx (B d10_8) rfl ?_
        refine st3 _ ?_
        refine XS.istore X3.here hx rfl (B d10_12) rfl (l' := #[vr a1, vi 0, vi 2, vr b1, vi 1, un]) rfl ?_
        refine sJ X3 hx (B d10_14) rfl ?_
        refine sI X3 hx (B d10_16) rfl ?_
        refine XS.icmpNo X3.here hx rfl (B d10_17) rfl (feq (by decide : ¬ ((1 : Int32) = (2 : Int32)))).1 ?_
        refine sA X3 hx (B d10_20) rfl rfl ?_
        refine sI X3 hx (B d10_21) rfl ?_
        refine sI X3 hx (B d10_22) rfl ?_
        refine st5 _ ?_
        refine XS.astore X5.here hx rfl (B d10_26) rfl rfl (l' := #[vr a1, vi 0, vi 2, vr b1, vi 1, vr b5_0]) rfl ?_
        refine sB X5 hx (B d10_28) rfl rfl ?_
        refine sJ X5 hx (B d10_30) rfl ?_
        refine st6 _ ?_
        refine XS.sipush X6.here hx rfl (B d10_35) ?_
        refine XS.icmpYes X6.here hx rfl (pc0 := 38) (pc' := 54) rfl (B d10_38) rfl (tlt cd8).2.2.1 (by decide) (by decide) ?_
        refine sB X6 hx (B d10_54) rfl rfl ?_
        exact retOut X6 hx hret rfl (Or.inr (Or.inr (Or.inr (Or.inr ⟨rfl, rfl, rfl⟩)))) (B d10_56) hr
    · exact absurd c7 (by unfold own_cc1; rw [if_neg cc1, if_neg cc2]; decide)
theorem ef_512eb5 (a1 : Addr) (a2 : Addr) (m : MethodId) : entryFrame m #[(.ref a1), (.ref a2), (.int 0), (.int 2), .null] 6 = mkF m 0 #[.val (.ref a1), .val (.ref a2), .val (.int 0), .val (.int 2), .val .null, .unset] [] := by first | (simp [entryFrame, mkF, argsToLocals, Value.category]; done) | rfl
abbrev Rm66 : Room := rmk 4 2 6 57
def Q66 (Z : State) (a1 a2 : Addr) (i3 i5 i6 : Int32) (ck7 : ClassId) (h0 : Heap) (n0 : Nat) (v : Option Value) (h : Heap) (L : List Loc) : Prop := ∃ b3_0 : Addr, ∃ k3_1 : ClassId, v = none ∧ Fr n0 L ∧ Keep h0 h [a1] ∧ Exa Z h a1 jS ∧ Fld Z h a1 jS "coder" "B" (.int 1) ∧ Fld Z h a1 jS "value" "[B" (.ref b3_0) ∧ h0.size ≤ b3_0 ∧ Exa Z h b3_0 "[B" ∧ Arv Z h b3_0 k3_1 .byte 4 [(.int (nar .byte ((i5 >>> ((0 : Int32) &&& 31)).toInt8.toInt32))), (.int (nar .byte ((i5 >>> ((8 : Int32) &&& 31)).toInt8.toInt32))), (.int (nar .byte ((i6 >>> ((0 : Int32) &&& 31)).toInt8.toInt32))), (.int (nar .byte ((i6 >>> ((8 : Int32) &&& 31)).toInt8.toInt32)))] (.int 0)
theorem rm66 (l : Launch) (Z : State) {a0 : Array Value} (hw : OW a0 Z) (a1 a2 : Addr) (i3 i5 i6 : Int32) (ck7 : ClassId) (h0 : Heap) (n0 : Nat) (Z0 : n0 ≤ h0.size) (S_COMPACT_STRINGS : Sta Z Z.heap "java/lang/String" "COMPACT_STRINGS" "Z" (.int i3)) (Od0 : Old Z n0 h0) (c4 : ¬ (i3 = 0)) (V_a2 : Arv Z h0 a2 ck7 .char 2 [(.int i5), (.int i6)] (.int 0)) (S__assertionsDisabled : Sta Z Z.heap "java/lang/StringUTF16" "$assertionsDisabled" "Z" (.int 1)) (S_HI_BYTE_SHIFT : Sta Z Z.heap "java/lang/StringUTF16" "HI_BYTE_SHIFT" "I" (.int 0)) (S_LO_BYTE_SHIFT : Sta Z Z.heap "java/lang/StringUTF16" "LO_BYTE_SHIFT" "I" (.int 8)) (c8 : ¬ (65535 < i5)) (c9 : ¬ (65535 < i6)) (c10 : (own_cc1 i5 i6) = 0) (F_coder_a1 : Fld Z h0 a1 jS "coder" "B" (.int 0)) (E_a1 : Exa Z h0 a1 jS) (g_a1 : n0 ≤ a1) (F_value_a1 : Fld Z h0 a1 jS "value" "[B" .null) :
    OwnMet l Z y_2 jdk_42_method_149_code 6 none [] Rm66 #[(.ref a1), (.ref a2), (.int 0), (.int 2), .null] h0 (Q66 Z a1 a2 i3 i5 i6 ck7 h0 n0) := by
  refine own_body (plainFor_of_name pn_1) (ef_512eb5 a1 a2) ?_
  intro p e s m below meth c s₁ hx hby hml hown hnm hret hZ X0 e0
  have N0 := Fr.nil n0
  have B := hbx hby
  obtain ⟨T1, X1, e1, st1⟩ := initO X0 hx hZ hown (w_23 hw) (w_24 hw) (w_25 hw) e0 (g := (mkF m 1 #[vr a1, vr a2, vi 0, vi 2, .val .null, un] [(.ref a1)])) rfl hml.symm rfl (B d4_1) (by decide) (W := 0) (by show 2 * 0 + _ ≤ _; exact Nat.le_of_eq rfl) (by decide)
  obtain ⟨T2, X2, e2, st2⟩ := getS2 X1 hx hZ hown (host := "") (Or.inl (w_51 hw)) Via.refl e1 (S_COMPACT_STRINGS.ext Od0.2) (g := (mkF m 27 #[vr a1, vr a2, vi 0, vi 2, .val .null, un] [])) rfl (B d4_27)
  obtain ⟨_, T3, L3, X3, hQ3, st3⟩ := own_callS X2 hx hZ hown (y := y_15) (w_53 hw) (w_54 hw) (w_55 hw) (w_56 hw) (rm65 l Z hw a2 i5 i6 ck7 h0 n0 Z0 V_a2 S__assertionsDisabled Od0 S_HI_BYTE_SHIFT S_LO_BYTE_SHIFT c8 c9 c10) e2 (Ls := #[vr a1, vr a2, vi 0, vi 2, .val .null, un]) hml.symm (argsL := [(.ref a2), (.int 0), (.int 2)]) (rest := []) (lenOf pd_12 rfl) (B d4_36) (W := 0)
  obtain ⟨b3_0, k3_1, rfl, Nq3, K3, o3_0, o3_1, o3_2⟩ := hQ3
  have N3 := Fr.app N0 Nq3
  have s0 := K3.1
  have z1 := Nat.le_trans Z0 s0
  obtain ⟨_, T4, L4, X4, hQ4, st4⟩ := own_callS X3 hx hZ hown (y := y_16) (w_79 hw) (w_80 hw) (w_55 hw) (w_81 hw) (rm19 l Z hw b3_0 (2 : Int32) [(.int (nar .byte ((i5 >>> ((0 : Int32) &&& 31)).toInt8.toInt32))), (.int (nar .byte ((i5 >>> ((8 : Int32) &&& 31)).toInt8.toInt32))), (.int (nar .byte ((i6 >>> ((0 : Int32) &&& 31)).toInt8.toInt32))), (.int (nar .byte ((i6 >>> ((8 : Int32) &&& 31)).toInt8.toInt32)))] k3_1 (4 : Int32) T3.heap n0 z1 o3_2) rfl (Ls := #[vr a1, vr a2, vi 0, vi 2, .val .null, vr b3_0]) hml.symm (argsL := [(.ref b3_0), (.int 2)]) (rest := [(.ref a1)]) (lenOf pd_14 rfl) (B d4_45) (W := 1)
  obtain ⟨rfl, Nq4, e4⟩ := hQ4
  have N4 := Fr.app N3 Nq4
  have Fl5 := (F_coder_a1.keep K3 nin0)
  have Ex6 := (E_a1.keep K3)
  obtain ⟨T7, h7, X7, e7, W7, st7⟩ := putFN X4 hx hZ hown (w_33 hw) Via.refl e4 Fl5 Ex6 (Or.inr ⟨(w_29 hw), rfl, hnm⟩) (w_13 hw) (ty := .byte) (v' := (.int (nar .byte (1 : Int32)))) (by decide) rfl (fits_nar_byte _) (g := (mkF m 48 #[vr a1, vr a2, vi 0, vi 2, .val .null, vr b3_0] [(.int 1), (.ref a1)])) rfl rfl (B d4_48)
  have s1 := (Keep.of_wr W7).1
  have N7 := Fr.snoc X7 N4 g_a1
  have Fw7 : Fld Z h7 a1 jS "coder" "B" (.int 1) := Fl5.same W7
  have Ex8 := (Ex6.wr W7)
  have Fl9 := ((F_value_a1.keep K3 nin0).other W7 (Or.inr (slot_ne (Or.inr (w_28 hw)) (Or.inr (w_29 hw)) (by decide) (t := (.array .byte)) (t' := .byte) (by decide) (by decide))))
  obtain ⟨T10, h10, X10, e10, W10, st10⟩ := putF X7 hx hZ hown (host := "") (Or.inl (w_32 hw)) Via.refl e7 Fl9 Ex8 (Or.inr ⟨(w_28 hw), rfl, hnm⟩) (w_13 hw) (ty := (.array .byte)) (by decide) rfl rfl (g := (mkF m 54 #[vr a1, vr a2, vi 0, vi 2, .val .null, vr b3_0] [(.ref b3_0), (.ref a1)])) rfl rfl (B d4_54)
  have s2 := (Keep.of_wr W10).1
  have N10 := Fr.snoc X10 N7 g_a1
  have Fw10 : Fld Z h10 a1 jS "value" "[B" (.ref b3_0) := Fl9.same W10
  have Ex11 := (Ex8.wr W10)
  have Fl12 := (Fw7.other W10 (Or.inr (slot_ne (Or.inr (w_29 hw)) (Or.inr (w_28 hw)) (by decide) (t := .byte) (t' := (.array .byte)) (by decide) (by decide))))
  have sz_b3_0 : h0.size ≤ b3_0 := o3_0
  have Ex13 := ((o3_1.wr W7).wr W10)
  have ne_a1_b3_0 := Nat.ne_of_lt (Nat.lt_of_lt_of_le F_value_a1.lt o3_0)
  have Va14 := ((o3_2.other W7 (Ne.symm ne_a1_b3_0)).other W10 (Ne.symm ne_a1_b3_0))
  have Kp0 := (Keep.refl h0 [a1]).trans K3 all0
  have Kp1 := Kp0.wr W7 own_m0
  have Kp2 := Kp1.wr W10 own_m0
  refine ⟨T10, _, _, _, none, X10, (fun _ => rfl), by decide, by decide, ?_, fun fs hr => ?_⟩
  · rw [e10]
    exact ⟨b3_0, k3_1, rfl, N10, Kp2, Ex11, Fl12, Fw10, sz_b3_0, Ex13, Va14⟩
  · refine sA X0 hx (B d4_0) rfl rfl ?_
    refine st1 _ ?_
    refine sI X1 hx (B d4_4) rfl ?_
    refine XS.ifYes X1.here hx rfl (pc0 := 5) (pc' := 27) rfl (B d4_5) rfl ((if0 _ _).trans (feq (by decide : ¬ ((2 : Int32) = (0 : Int32)))).2) (by decide) (by decide) ?_
    refine st2 _ ?_
    refine XS.ifNo X2.here hx rfl (B d4_30) rfl ((if0 _ _).trans (feq c4).1) ?_
    refine sA X2 hx (B d4_33) rfl rfl ?_
    refine sI X2 hx (B d4_34) rfl ?_
    refine sI X2 hx (B d4_35) rfl ?_
    refine st3 _ ?_
    refine XS.astore X3.here hx rfl (B d4_39) rfl rfl (l' := #[vr a1, vr a2, vi 0, vi 2, .val .null, vr b3_0]) rfl ?_
    refine sA X3 hx (B d4_41) rfl rfl ?_
    refine sB X3 hx (B d4_42) rfl rfl ?_
    refine sI X3 hx (B d4_44) rfl ?_
    refine st4 _ ?_
    refine st7 _ ?_
    refine sA X7 hx (B d4_51) rfl rfl ?_
    refine sB X7 hx (B d4_52) rfl rfl ?_
    refine st10 _ ?_
    exact X10.returnOut hx hret (B d4_57) hr
abbrev Rm67 : Room := rmk 5 2 6 74
def Q67 (Z : State) (a1 a2 : Addr) (i3 i4 : Int32) (ck5 : ClassId) (i6 : Int32) (h0 : Heap) (n0 : Nat) (v : Option Value) (h : Heap) (L : List Loc) : Prop := ∃ b2_0 : Addr, ∃ k2_1 : ClassId, v = none ∧ Fr n0 L ∧ Keep h0 h [a1] ∧ Exa Z h a1 jS ∧ Fld Z h a1 jS "coder" "B" (.int 1) ∧ Fld Z h a1 jS "value" "[B" (.ref b2_0) ∧ h0.size ≤ b2_0 ∧ Exa Z h b2_0 "[B" ∧ Arv Z h b2_0 k2_1 .byte 4 [(.int (nar .byte ((i3 >>> ((0 : Int32) &&& 31)).toInt8.toInt32))), (.int (nar .byte ((i3 >>> ((8 : Int32) &&& 31)).toInt8.toInt32))), (.int (nar .byte ((i4 >>> ((0 : Int32) &&& 31)).toInt8.toInt32))), (.int (nar .byte ((i4 >>> ((8 : Int32) &&& 31)).toInt8.toInt32)))] (.int 0)
theorem rm67 (l : Launch) (Z : State) {a0 : Array Value} (hw : OW a0 Z) (a1 a2 : Addr) (i3 i4 : Int32) (ck5 : ClassId) (i6 : Int32) (h0 : Heap) (n0 : Nat) (Z0 : n0 ≤ h0.size) (V_a2 : Arv Z h0 a2 ck5 .char 2 [(.int i3), (.int i4)] (.int 0)) (S_COMPACT_STRINGS : Sta Z Z.heap "java/lang/String" "COMPACT_STRINGS" "Z" (.int i6)) (Od0 : Old Z n0 h0) (c7 : ¬ (i6 = 0)) (S__assertionsDisabled : Sta Z Z.heap "java/lang/StringUTF16" "$assertionsDisabled" "Z" (.int 1)) (S_HI_BYTE_SHIFT : Sta Z Z.heap "java/lang/StringUTF16" "HI_BYTE_SHIFT" "I" (.int 0)) (S_LO_BYTE_SHIFT : Sta Z Z.heap "java/lang/StringUTF16" "LO_BYTE_SHIFT" "I" (.int 8)) (c8 : ¬ (65535 < i3)) (c9 : ¬ (65535 < i4)) (c10 : (own_cc1 i3 i4) = 0) (F_coder_a1 : Fld Z h0 a1 jS "coder" "B" (.int 0)) (E_a1 : Exa Z h0 a1 jS) (g_a1 : n0 ≤ a1) (F_value_a1 : Fld Z h0 a1 jS "value" "[B" .null) :
    OwnMet l Z y_3 jdk_42_method_3_code 2 none [] Rm67 #[(.ref a1), (.ref a2)] h0 (Q67 Z a1 a2 i3 i4 ck5 i6 h0 n0) := by
  refine own_body (plainFor_of_name pn_1) (ef_463e93 a1 a2) ?_
  intro p e s m below meth c s₁ hx hby hml hown hnm hret hZ X0 e0
  have N0 := Fr.nil n0
  have B := hbx hby
  obtain ⟨cl1, Ar1, q1, S1, M1, Hs1, G1⟩ := id V_a2
  obtain ⟨_, T2, L2, X2, hQ2, st2⟩ := own_special X0 hx hZ hown (y := y_2) (a := a1) (w_19 hw) (w_20 hw) (w_14 hw) (w_22 hw) (rm66 l Z hw a1 a2 i6 i3 i4 ck5 h0 n0 Z0 S_COMPACT_STRINGS Od0 c7 V_a2 S__assertionsDisabled S_HI_BYTE_SHIFT S_LO_BYTE_SHIFT c8 c9 c10 F_coder_a1 E_a1 g_a1 F_value_a1) e0 (Ls := #[vr a1, vr a2]) hml.symm (argsL := [(.ref a2), (.int 0), (.int 2), .null]) (rest := []) (lenOf pd_1 rfl) (B d3_6) (W := 0)
  obtain ⟨b2_0, k2_1, rfl, Nq2, K2, o2_0, o2_1, o2_2, o2_3, o2_4, o2_5⟩ := hQ2
  have N2 := Fr.app N0 Nq2
  have s0 := K2.1
  have sz_b2_0 : h0.size ≤ b2_0 := o2_3
  have Kp0 := (Keep.refl h0 [a1]).trans K2 (allS own_m0 all0)
  refine ⟨T2, _, _, _, none, X2, (fun _ => rfl), by decide, by decide, ?_, fun fs hr => ?_⟩
  · exact ⟨b2_0, k2_1, rfl, N2, Kp0, o2_0, o2_1, o2_2, sz_b2_0, o2_4, o2_5⟩
  · refine sA X0 hx (B d3_0) rfl rfl ?_
    refine sA X0 hx (B d3_1) rfl rfl ?_
    refine sC X0 hx (B d3_2) ?_
    refine sA X0 hx (B d3_3) rfl rfl ?_
    refine X0.arraylength hx (by rw [e0]; exact Ar1.1) (State.isArrayOf_alike hZ.alike Ar1.2.1) (g := (mkF m 4 #[vr a1, vr a2] [(.ref a2), (.int 0), (.ref a2), (.ref a1)])) rfl rfl (B d3_4) _ ?_
    show Steps p.tables e below (s₁.setTop (mkF m 5 #[vr a1, vr a2] [(.int cl1.slots.size.toInt32), (.int 0), (.ref a2), (.ref a1)])) _
    rw [len_of S1 M1]
    refine XS.aconstNull X0.here hx rfl (B d3_5) ?_
    refine st2 _ ?_
    exact X2.returnOut hx hret (B d3_9) hr
theorem d2_58 : decode Kc2 58 = .ok (.areturn, 1) := by decide +kernel
theorem ef_abda43 (i1 : Int32) (i2 : Int32) (i3 : Int32) (i4 : Int32) (m : MethodId) : entryFrame m #[(.int 2), (.int i1), (.int i2), (.int i3), (.int i4)] 5 = mkF m 0 #[.val (.int 2), .val (.int i1), .val (.int i2), .val (.int i3), .val (.int i4)] [] := by first | (simp [entryFrame, mkF, argsToLocals, Value.category]; done) | rfl
abbrev Rm68 : Room := rmk 6 4 12 88
def Q68 (Z : State) (i1 i2 i3 i4 i5 : Int32) (h0 : Heap) (n0 : Nat) (v : Option Value) (h : Heap) (L : List Loc) : Prop := ∃ b1 : Addr, ∃ b14_0 : Addr, ∃ k14_1 : ClassId, v = some (.ref b1) ∧ Fr n0 L ∧ Keep h0 h [] ∧ h0.size ≤ b1 ∧ Exa Z h b1 jS ∧ Fld Z h b1 jS "coder" "B" (.int 1) ∧ Fld Z h b1 jS "value" "[B" (.ref b14_0) ∧ h0.size ≤ b14_0 ∧ Exa Z h b14_0 "[B" ∧ Arv Z h b14_0 k14_1 .byte 4 [(.int (nar .byte (((nar .char i1) >>> ((0 : Int32) &&& 31)).toInt8.toInt32))), (.int (nar .byte (((nar .char i1) >>> ((8 : Int32) &&& 31)).toInt8.toInt32))), (.int (nar .byte (((nar .char i2) >>> ((0 : Int32) &&& 31)).toInt8.toInt32))), (.int (nar .byte (((nar .char i2) >>> ((8 : Int32) &&& 31)).toInt8.toInt32)))] (.int 0) ∧ b1 ≠ b14_0
theorem rm68 (l : Launch) (Z : State) {a0 : Array Value} (hw : OW a0 Z) (i1 i2 i3 i4 i5 : Int32) (h0 : Heap) (n0 : Nat) (Z0 : n0 ≤ h0.size) (S_COMPACT_STRINGS : Sta Z Z.heap "java/lang/String" "COMPACT_STRINGS" "Z" (.int i5)) (Od0 : Old Z n0 h0) (c6 : ¬ (i5 = 0)) (S__assertionsDisabled : Sta Z Z.heap "java/lang/StringUTF16" "$assertionsDisabled" "Z" (.int 1)) (S_HI_BYTE_SHIFT : Sta Z Z.heap "java/lang/StringUTF16" "HI_BYTE_SHIFT" "I" (.int 0)) (S_LO_BYTE_SHIFT : Sta Z Z.heap "java/lang/StringUTF16" "LO_BYTE_SHIFT" "I" (.int 8)) (c7 : (own_cc1 (nar .char i1) (nar .char i2)) = 0) :
    OwnMet l Z y_4 method_4_code 5 (some (.object "java/lang/String")) [] Rm68 #[(.int 2), (.int i1), (.int i2), (.int i3), (.int i4)] h0 (Q68 Z i1 i2 i3 i4 i5 h0 n0) := by
  refine own_body (plainFor_of_name pn_0) (ef_abda43 i1 i2 i3 i4) ?_
  intro p e s m below meth c s₁ hx hby hml hown hnm hret hZ X0 e0
  have N0 := Fr.nil n0
  have B := hbx hby
  obtain ⟨T1, h1, X1, e1, E1, A1, D1, -, st1⟩ := newO X0 hx hZ hown (w_12 hw) (w_13 hw) (w_14 hw) e0 (g := (mkF m 40 #[vi 2, vi i1, vi i2, vi i3, vi i4] [])) rfl (B d2_40) (by decide) (by decide)
  obtain ⟨b1, g1⟩ : ∃ z, z = h0.size := ⟨_, rfl⟩
  rw [← g1] at A1 D1 st1
  have s0 := E1.1
  have Fn1_value : Fld Z h1 b1 jS "value" "[B" .null := D1 (Or.inr (w_28 hw)) (ty := (.array .byte)) (by decide)
  have Fn1_coder : Fld Z h1 b1 jS "coder" "B" (.int 0) := D1 (Or.inr (w_29 hw)) (ty := .byte) (by decide)
  obtain ⟨T2, h2, k2, X2, e2, E2, A2, B2, st2⟩ := newPE (aty := .char) X1 hx hZ (w_15 hw) e1 (g := (mkF m 45 #[vi 2, vi i1, vi i2, vi i3, vi i4] [(.int 2), (.ref b1), (.ref b1)])) rfl (B d2_45) rfl (by decide) (cap := 2) (by decide) (by decide) (by decide) (by decide) (ad := "[C") (by decide)
  obtain ⟨b2, g2⟩ : ∃ z, z = h1.size := ⟨_, rfl⟩
  rw [← g2] at A2 B2 st2
  have s1 := E2.1
  have Vn2 : Arv Z h2 b2 k2 .char 2 [(.int 0), (.int 0)] (.int 0) := (Arv.new A2 (by decide)).pad (pad_rep [] (.int 0) 2)
  obtain ⟨cl3, Ar3, q3, S3, M3, Hs3, G3⟩ := id Vn2
  have hin4 := inb_of (j := 0) S3 ⟨by decide, by decide⟩
  obtain ⟨T5, h5, X5, e5, W5, st5⟩ := stC X2 hx hZ e2 Ar3 (j := 0) hin4 (g := (mkF m 50 #[vi 2, vi i1, vi i2, vi i3, vi i4] [(.int i1), (.int 0), (.ref b2), (.ref b2), (.ref b1), (.ref b1)])) rfl rfl (B d2_50)
  have s2 := (Keep.of_wr W5).1
  have z1 := Nat.le_trans Z0 s0
  have g_b2 : n0 ≤ b2 := Nat.le_trans z1 (Nat.le_of_eq g2.symm)
  have N5 := Fr.snoc X5 N0 g_b2
  have Vs5 : Arv Z h5 b2 k2 .char 2 [(.int (nar .char i1)), (.int 0)] (.int 0) := Arv.set Ar3 q3 S3 M3 Hs3 G3 (fits_nar_char _) W5 0 rfl (nl rfl)
  obtain ⟨cl6, Ar6, q6, S6, M6, Hs6, G6⟩ := id Vs5
  have hin7 := inb_of (j := 1) S6 ⟨by decide, by decide⟩
  obtain ⟨T8, h8, X8, e8, W8, st8⟩ := stC X5 hx hZ e5 Ar6 (j := 1) hin7 (g := (mkF m 54 #[vi 2, vi i1, vi i2, vi i3, vi i4] [(.int i2), (.int 1), (.ref b2), (.ref b2), (.ref b1), (.ref b1)])) rfl rfl (B d2_54)
  have s3 := (Keep.of_wr W8).1
  have N8 := Fr.snoc X8 N5 g_b2
  have Vs8 : Arv Z h8 b2 k2 .char 2 [(.int (nar .char i1)), (.int (nar .char i2))] (.int 0) := Arv.set Ar6 q6 S6 M6 Hs6 G6 (fits_nar_char _) W8 1 rfl (nl rfl)
  have Od1 := Od0.ext E1
  have Od2 := Od1.ext E2
  have Od3 := Od2.wr W5 g_b2
  have Od4 := Od3.wr W8 g_b2
  have cd9 : ¬ (65535 < (nar .char i1)) := (by rw [Int32.lt_iff_toInt_lt]; have : ((65535 : Int32)).toInt = 65535 := (by decide); have := rng32 (nar .char i1); have := rng32 i1; have := own_c_nar_char i1; omega)
  have cd10 : ¬ (65535 < (nar .char i2)) := (by rw [Int32.lt_iff_toInt_lt]; have : ((65535 : Int32)).toInt = 65535 := (by decide); have := rng32 (nar .char i2); have := rng32 i2; have := own_c_nar_char i2; omega)
  have ne_b1_b2 := Nat.ne_of_lt (Nat.lt_of_lt_of_le Fn1_value.lt (Nat.le_of_eq g2.symm))
  have Fl11 := (((Fn1_coder.ext E2).other W5 (Or.inl ne_b1_b2)).other W8 (Or.inl ne_b1_b2))
  have Ex12 := (((A1.ext E2).wr W5).wr W8)
  have g_b1 : n0 ≤ b1 := Nat.le_trans Z0 (Nat.le_of_eq g1.symm)
  have Fl13 := (((Fn1_value.ext E2).other W5 (Or.inl ne_b1_b2)).other W8 (Or.inl ne_b1_b2))
  have z4 := Nat.le_trans Z0 (Nat.le_trans (Nat.le_trans (Nat.le_trans s0 s1) s2) s3)
  obtain ⟨_, T14, L14, X14, hQ14, st14⟩ := own_special X8 hx hZ hown (y := y_3) (a := b1) (w_16 hw) (w_17 hw) (w_14 hw) (w_18 hw) (rm67 l Z hw b1 b2 (nar .char i1) (nar .char i2) k2 i5 h8 n0 z4 Vs8 S_COMPACT_STRINGS Od4 c6 S__assertionsDisabled S_HI_BYTE_SHIFT S_LO_BYTE_SHIFT cd9 cd10 c7 Fl11 Ex12 g_b1 Fl13) e8 (Ls := #[vi 2, vi i1, vi i2, vi i3, vi i4]) hml.symm (argsL := [(.ref b2)]) (rest := [(.ref b1)]) (lenOf pd_2 rfl) (B d2_55) (W := 1)
  obtain ⟨b14_0, k14_1, rfl, Nq14, K14, o14_0, o14_1, o14_2, o14_3, o14_4, o14_5⟩ := hQ14
  have N14 := Fr.app N8 Nq14
  have s4 := K14.1
  have sz_b1 : h0.size ≤ b1 := (Nat.le_of_eq g1.symm)
  have sz_b14_0 : h0.size ≤ b14_0 := Nat.le_trans (Nat.le_trans (Nat.le_trans (Nat.le_trans s0 s1) s2) s3) o14_3
  have ne_b1_b14_0 := Nat.ne_of_lt (Nat.lt_of_lt_of_le Fl13.lt o14_3)
  have Kp0 := (Keep.refl h0 []).ext E1
  have Kp1 := Kp0.ext E2
  have sz_b2 : h0.size ≤ b2 := Nat.le_trans s0 (Nat.le_of_eq g2.symm)
  have Kp2 := Kp1.wr W5 (Or.inr sz_b2)
  have Kp3 := Kp2.wr W8 (Or.inr sz_b2)
  have Kp4 := Kp3.trans K14 (allS (Or.inr sz_b1) all0)
  refine ⟨T14, _, _, _, (some (.ref b1)), X14, nofun, by decide, by decide, ?_, fun fs hr => ?_⟩
  · exact ⟨b1, b14_0, k14_1, rfl, N14, Kp4, sz_b1, o14_0, o14_1, o14_2, sz_b14_0, o14_4, o14_5, ne_b1_b14_0⟩
  · refine sI X0 hx (B d2_0) rfl ?_
    refine XS.ifYes X0.here hx rfl (pc0 := 1) (pc' := 15) rfl (B d2_1) rfl ((if0 _ _).trans (feq (by decide : ¬ ((2 : Int32) = (0 : Int32)))).2) (by decide) (by decide) ?_
    refine sI X0 hx (B d2_15) rfl ?_
    refine sC X0 hx (B d2_16) ?_
    refine XS.icmpYes X0.here hx rfl (pc0 := 17) (pc' := 35) rfl (B d2_17) rfl (feq (by decide : ¬ ((2 : Int32) = (1 : Int32)))).2 (by decide) (by decide) ?_
    refine sI X0 hx (B d2_35) rfl ?_
    refine sC X0 hx (B d2_36) ?_
    refine XS.icmpNo X0.here hx rfl (B d2_37) rfl (teq (by decide : (2 : Int32) = (2 : Int32))).2 ?_
    refine st1 _ ?_
    refine XS.dup X1.here hx rfl (B d2_43) rfl rfl ?_
    refine sC X1 hx (B d2_44) ?_
    refine st2 _ ?_
    refine XS.dup X2.here hx rfl (B d2_47) rfl rfl ?_
    refine sC X2 hx (B d2_48) ?_
    refine sI X2 hx (B d2_49) rfl ?_
    refine st5 _ ?_
    refine XS.dup X5.here hx rfl (B d2_51) rfl rfl ?_
    refine sC X5 hx (B d2_52) ?_
    refine sI X5 hx (B d2_53) rfl ?_
    refine st8 _ ?_
    refine st14 _ ?_
    exact retOut X14 hx hret rfl (Or.inr (Or.inr (Or.inr (Or.inr ⟨rfl, rfl, rfl⟩)))) (B d2_58) hr
theorem d6_25 : decode Kc6 25 = .ok (.aload_n 0, 1) := by decide +kernel
theorem d6_26 : decode Kc6 26 = .ok (.iload_n 2, 1) := by decide +kernel
theorem d6_27 : decode Kc6 27 = .ok (.iconst 1, 1) := by decide +kernel
theorem d6_28 : decode Kc6 28 = .ok (.iadd, 1) := by decide +kernel
theorem d6_29 : decode Kc6 29 = .ok (.caload, 1) := by decide +kernel
theorem d6_30 : decode Kc6 30 = .ok (.invokestatic 44, 3) := by decide +kernel
theorem d6_33 : decode Kc6 33 = .ok (.ifCond .ne 7, 3) := by decide +kernel
theorem d6_40 : decode Kc6 40 = .ok (.iconst 0, 1) := by decide +kernel
def own_ln1 (v0 v1 : Int32) : Int32 := (if (own_hi v0) = 0 then (if (own_lw v0) = 0 then (0 : Int32) else (1 : Int32)) else (if (own_lw v1) = 0 then (1 : Int32) else (0 : Int32)))
abbrev Rm69 : Room := rmk 1 0 0 12
def Q69 (Z : State) (a1 : Addr) (i2 i3 : Int32) (u5 : List Value) (ck6 : ClassId) (i7 i10 i28 : Int32) (h0 : Heap) (n0 : Nat) (v : Option Value) (h : Heap) (L : List Loc) : Prop := v = some (.int (own_ln1 i10 i28)) ∧ Fr n0 L ∧ h = h0
theorem rm69 (l : Launch) (Z : State) {a0 : Array Value} (hw : OW a0 Z) (a1 : Addr) (i2 i3 : Int32) (u5 : List Value) (ck6 : ClassId) (i7 i10 i28 : Int32) (h0 : Heap) (n0 : Nat) (Z0 : n0 ≤ h0.size) (c4 : i3 < i2) (V_a1 : Arv Z h0 a1 ck6 .char i7 u5 (.int 0)) (c8 : ¬ (i3 < 0)) (c9 : i3 < i7) (rd11 : u5.getD (i3).toNatClampNeg (.int 0) = (.int i10)) (c21 : ¬ (0 < i3)) (c25 : (i3 + (1 : Int32)) < i2) (c26 : ¬ ((i3 + (1 : Int32)) < 0)) (c27 : (i3 + (1 : Int32)) < i7) (rd29 : u5.getD ((i3 + (1 : Int32))).toNatClampNeg (.int 0) = (.int i28)) :
    OwnMet l Z y_5 method_7_code 4 (some .boolean) [] Rm69 #[(.ref a1), (.int i2), (.int i3)] h0 (Q69 Z a1 i2 i3 u5 ck6 i7 i10 i28 h0 n0) := by
  refine own_body (plainFor_of_name pn_0) (ef_a4b94a a1 i2 i3) ?_
  intro p e s m below meth c s₁ hx hby hml hown hnm hret hZ X0 e0
  have N0 := Fr.nil n0
  have B := hbx hby
  obtain ⟨cl1, Ar1, q1, S1, M1, Hs1, G1⟩ := id V_a1
  have hin2 := inb_of (j := i3) S1 ⟨c8, c9⟩
  obtain ⟨_, T3, L3, X3, hQ3, st3⟩ := own_callS X0 hx hZ hown (y := y_17) (w_82 hw) (w_83 hw) (w_3 hw) (w_84 hw) (rm23 l Z hw i10 h0 n0 Z0) e0 (Ls := #[vr a1, vi i2, vi i3, vi i10]) hml.symm (argsL := [(.int i10)]) (rest := []) (lenOf pd_15 rfl) (B d6_12) (W := 0)
  obtain ⟨rfl, Nq3, e3⟩ := hQ3
  have N3 := Fr.app N0 Nq3
  by_cases cc1 : (own_hi i10) = 0
  · obtain ⟨_, T4, L4, X4, hQ4, st4⟩ := own_callS X3 hx hZ hown (y := y_18) (w_85 hw) (w_86 hw) (w_3 hw) (w_87 hw) (rm24 l Z hw i10 h0 n0 Z0) e3 (Ls := #[vr a1, vi i2, vi i3, vi i10]) hml.symm (argsL := [(.int i10)]) (rest := []) (lenOf pd_15 rfl) (B d6_43) (W := 0)
    obtain ⟨rfl, Nq4, e4⟩ := hQ4
    have N4 := Fr.app N3 Nq4
    by_cases cc2 : (own_lw i10) = 0
    · refine ⟨T4, _, _, _, (some (.int 0)), X4, nofun, by decide, by decide, ?_, fun fs hr => ?_⟩
      · rw [e4]
        unfold Q69
        rw [show (own_ln1 i10 i28) = (0 : Int32) from by unfold own_ln1; rw [if_pos cc1, if_pos cc2]]
        exact ⟨rfl, N4, rfl⟩
      · refine sI X0 hx (B d6_0) rfl ?_
        refine sI X0 hx (B d6_1) rfl ?_
        refine XS.icmpYes X0.here hx rfl (pc0 := 2) (pc' := 7) rfl (B d6_2) rfl (tlt c4).1 (by decide) (by decide) ?_
        refine sA X0 hx (B d6_7) rfl rfl ?_
        refine sI X0 hx (B d6_8) rfl ?_
        refine X0.caload hx (j := i3) (v := (.int i10)) (by rw [e0]; exact Ar1.1) (State.isArrayOf_alike hZ.alike Ar1.2.1) Ar1.2.2 hin2 (Has.at Hs1 hin2 rd11) (g := (mkF m 9 #[vr a1, vi i2, vi i3, un] [(.int i3), (.ref a1)])) rfl rfl (B d6_9) _ ?_
        refine XS.istoreN X0.here hx rfl (B d6_10) rfl (l' := #[vr a1, vi i2, vi i3, vi i10]) rfl ?_
        refine sI X0 hx (B d6_11) rfl ?_
        refine st3 _ ?_
        refine XS.ifYes X3.here hx rfl (pc0 := 15) (pc' := 42) rfl (B d6_15) rfl ((if0 _ _).trans (teq cc1).1) (by decide) (by decide) ?_
        refine sI X3 hx (B d6_42) rfl ?_
        refine st4 _ ?_
        refine XS.ifYes X4.here hx rfl (pc0 := 46) (pc' := 70) rfl (B d6_46) rfl ((if0 _ _).trans (teq cc2).1) (by decide) (by decide) ?_
        refine sC X4 hx (B d6_70) ?_
        exact retN X4 hx (t := .boolean) hret (by simp) (B d6_71) hr
    · refine ⟨T4, _, _, _, (some (.int 1)), X4, nofun, by decide, by decide, ?_, fun fs hr => ?_⟩
      · rw [e4]
        unfold Q69
        rw [show (own_ln1 i10 i28) = (1 : Int32) from by unfold own_ln1; rw [if_pos cc1, if_neg cc2]]
        exact ⟨rfl, N4, rfl⟩
      · refine sI X0 hx (B d6_0) rfl ?_
        refine sI X0 hx (B d6_1) rfl ?_
        refine XS.icmpYes X0.here hx rfl (pc0 := 2) (pc' := 7) rfl (B d6_2) rfl (tlt c4).1 (by decide) (by decide) ?_
        refine sA X0 hx (B d6_7) rfl rfl ?_
        refine sI X0 hx (B d6_8) rfl ?_
        refine X0.caload hx (j := i3) (v := (.int i10)) (by rw [e0]; exact Ar1.1) (State.isArrayOf_alike hZ.alike Ar1.2.1) Ar1.2.2 hin2 (Has.at Hs1 hin2 rd11) (g := (mkF m 9 #[vr a1, vi i2, vi i3, un] [(.int i3), (.ref a1)])) rfl rfl (B d6_9) _ ?_
        refine XS.istoreN X0.here hx rfl (B d6_10) rfl (l' := #[vr a1, vi i2, vi i3, vi i10]) rfl ?_
        refine sI X0 hx (B d6_11) rfl ?_
        refine st3 _ ?_
        refine XS.ifYes X3.here hx rfl (pc0 := 15) (pc' := 42) rfl (B d6_15) rfl ((if0 _ _).trans (teq cc1).1) (by decide) (by decide) ?_
        refine sI X3 hx (B d6_42) rfl ?_
        refine st4 _ ?_
        refine XS.ifNo X4.here hx rfl (B d6_46) rfl ((if0 _ _).trans (feq cc2).1) ?_
        refine sI X4 hx (B d6_49) rfl ?_
        refine XS.ifYes X4.here hx rfl (pc0 := 50) (pc' := 64) rfl (B d6_50) rfl ((if0 _ _).trans (flt c21).2.2.2) (by decide) (by decide) ?_
        refine sC X4 hx (B d6_64) ?_
        refine XS.goto X4.here hx rfl (pc0 := 65) (pc' := 69) rfl (B d6_65) (by decide) (by decide) ?_
        exact retN X4 hx (t := .boolean) hret (by simp) (B d6_69) hr
  · have hin4 := inb_of (j := (i3 + (1 : Int32))) S1 ⟨c26, c27⟩
    obtain ⟨_, T5, L5, X5, hQ5, st5⟩ := own_callS X3 hx hZ hown (y := y_18) (w_85 hw) (w_86 hw) (w_3 hw) (w_87 hw) (rm24 l Z hw i28 h0 n0 Z0) e3 (Ls := #[vr a1, vi i2, vi i3, vi i10]) hml.symm (argsL := [(.int i28)]) (rest := []) (lenOf pd_15 rfl) (B d6_30) (W := 0)
    obtain ⟨rfl, Nq5, e5⟩ := hQ5
    have N5 := Fr.app N3 Nq5
    by_cases cc2 : (own_lw i28) = 0
    · refine ⟨T5, _, _, _, (some (.int 1)), X5, nofun, by decide, by decide, ?_, fun fs hr => ?_⟩
      · rw [e5]
        unfold Q69
        rw [show (own_ln1 i10 i28) = (1 : Int32) from by unfold own_ln1; rw [if_neg cc1, if_pos cc2]]
        exact ⟨rfl, N5, rfl⟩
      · refine sI X0 hx (B d6_0) rfl ?_
        refine sI X0 hx (B d6_1) rfl ?_
        refine XS.icmpYes X0.here hx rfl (pc0 := 2) (pc' := 7) rfl (B d6_2) rfl (tlt c4).1 (by decide) (by decide) ?_
        refine sA X0 hx (B d6_7) rfl rfl ?_
        refine sI X0 hx (B d6_8) rfl ?_
        refine X0.caload hx (j := i3) (v := (.int i10)) (by rw [e0]; exact Ar1.1) (State.isArrayOf_alike hZ.alike Ar1.2.1) Ar1.2.2 hin2 (Has.at Hs1 hin2 rd11) (g := (mkF m 9 #[vr a1, vi i2, vi i3, un] [(.int i3), (.ref a1)])) rfl rfl (B d6_9) _ ?_
        refine XS.istoreN X0.here hx rfl (B d6_10) rfl (l' := #[vr a1, vi i2, vi i3, vi i10]) rfl ?_
        refine sI X0 hx (B d6_11) rfl ?_
        refine st3 _ ?_
        refine XS.ifNo X3.here hx rfl (B d6_15) rfl ((if0 _ _).trans (feq cc1).1) ?_
        refine sI X3 hx (B d6_18) rfl ?_
        refine sC X3 hx (B d6_19) ?_
        refine XS.iadd X3.here hx rfl (B d6_20) rfl ?_
        refine sI X3 hx (B d6_21) rfl ?_
        refine XS.icmpNo X3.here hx rfl (B d6_22) rfl (tlt c25).2.1 ?_
        refine sA X3 hx (B d6_25) rfl rfl ?_
        refine sI X3 hx (B d6_26) rfl ?_
        refine sC X3 hx (B d6_27) ?_
        refine XS.iadd X3.here hx rfl (B d6_28) rfl ?_
        refine X3.caload hx (j := (i3 + (1 : Int32))) (v := (.int i28)) (by rw [e3]; exact Ar1.1) (State.isArrayOf_alike hZ.alike Ar1.2.1) Ar1.2.2 hin4 (Has.at Hs1 hin4 rd29) (g := (mkF m 29 #[vr a1, vi i2, vi i3, vi i10] [(.int (i3 + (1 : Int32))), (.ref a1)])) rfl rfl (B d6_29) _ ?_
        refine st5 _ ?_
        refine XS.ifNo X5.here hx rfl (B d6_33) rfl ((if0 _ _).trans (teq cc2).2) ?_
        refine sC X5 hx (B d6_36) ?_
        refine XS.goto X5.here hx rfl (pc0 := 37) (pc' := 41) rfl (B d6_37) (by decide) (by decide) ?_
        exact retN X5 hx (t := .boolean) hret (by simp) (B d6_41) hr
    · refine ⟨T5, _, _, _, (some (.int 0)), X5, nofun, by decide, by decide, ?_, fun fs hr => ?_⟩
      · rw [e5]
        unfold Q69
        rw [show (own_ln1 i10 i28) = (0 : Int32) from by unfold own_ln1; rw [if_neg cc1, if_neg cc2]]
        exact ⟨rfl, N5, rfl⟩
      · refine sI X0 hx (B d6_0) rfl ?_
        refine sI X0 hx (B d6_1) rfl ?_
        refine XS.icmpYes X0.here hx rfl (pc0 := 2) (pc' := 7) rfl (B d6_2) rfl (tlt c4).1 (by decide) (by decide) ?_
        refine sA X0 hx (B d6_7) rfl rfl ?_
        refine sI X0 hx (B d6_8) rfl ?_
        refine X0.caload hx (j := i3) (v := (.int i10)) (by rw [e0]; exact Ar1.1) (State.isArrayOf_alike hZ.alike Ar1.2.1) Ar1.2.2 hin2 (Has.at Hs1 hin2 rd11) (g := (mkF m 9 #[vr a1, vi i2, vi i3, un] [(.int i3), (.ref a1)])) rfl rfl (B d6_9) _ ?_
        refine XS.istoreN X0.here hx rfl (B d6_10) rfl (l' := #[vr a1, vi i2, vi i3, vi i10]) rfl ?_
        refine sI X0 hx (B d6_11) rfl ?_
        refine st3 _ ?_
        refine XS.ifNo X3.here hx rfl (B d6_15) rfl ((if0 _ _).trans (feq cc1).1) ?_
        refine sI X3 hx (B d6_18) rfl ?_
        refine sC X3 hx (B d6_19) ?_
        refine XS.iadd X3.here hx rfl (B d6_20) rfl ?_
        refine sI X3 hx (B d6_21) rfl ?_
        refine XS.icmpNo X3.here hx rfl (B d6_22) rfl (tlt c25).2.1 ?_
        refine sA X3 hx (B d6_25) rfl rfl ?_
        refine sI X3 hx (B d6_26) rfl ?_
        refine sC X3 hx (B d6_27) ?_
        refine XS.iadd X3.here hx rfl (B d6_28) rfl ?_
        refine X3.caload hx (j := (i3 + (1 : Int32))) (v := (.int i28)) (by rw [e3]; exact Ar1.1) (State.isArrayOf_alike hZ.alike Ar1.2.1) Ar1.2.2 hin4 (Has.at Hs1 hin4 rd29) (g := (mkF m 29 #[vr a1, vi i2, vi i3, vi i10] [(.int (i3 + (1 : Int32))), (.ref a1)])) rfl rfl (B d6_29) _ ?_
        refine st5 _ ?_
        refine XS.ifYes X5.here hx rfl (pc0 := 33) (pc' := 40) rfl (B d6_33) rfl ((if0 _ _).trans (feq cc2).2) (by decide) (by decide) ?_
        refine sC X5 hx (B d6_40) ?_
        exact retN X5 hx (t := .boolean) hret (by simp) (B d6_41) hr
theorem d6_53 : decode Kc6 53 = .ok (.aload_n 0, 1) := by decide +kernel
theorem d6_54 : decode Kc6 54 = .ok (.iload_n 2, 1) := by decide +kernel
theorem d6_55 : decode Kc6 55 = .ok (.iconst 1, 1) := by decide +kernel
theorem d6_56 : decode Kc6 56 = .ok (.isub, 1) := by decide +kernel
theorem d6_57 : decode Kc6 57 = .ok (.caload, 1) := by decide +kernel
theorem d6_58 : decode Kc6 58 = .ok (.invokestatic 40, 3) := by decide +kernel
theorem d6_61 : decode Kc6 61 = .ok (.ifCond .ne 7, 3) := by decide +kernel
theorem d6_68 : decode Kc6 68 = .ok (.iconst 0, 1) := by decide +kernel
def own_ln2 (v0 v1 : Int32) : Int32 := (if (own_hi v0) = 0 then (if (own_lw v0) = 0 then (0 : Int32) else (if (own_hi v1) = 0 then (1 : Int32) else (0 : Int32))) else (1 : Int32))
abbrev Rm70 : Room := rmk 1 0 0 12
def Q70 (Z : State) (a1 : Addr) (i2 i3 : Int32) (u5 : List Value) (ck6 : ClassId) (i7 i10 i23 : Int32) (h0 : Heap) (n0 : Nat) (v : Option Value) (h : Heap) (L : List Loc) : Prop := v = some (.int (own_ln2 i10 i23)) ∧ Fr n0 L ∧ h = h0
theorem rm70 (l : Launch) (Z : State) {a0 : Array Value} (hw : OW a0 Z) (a1 : Addr) (i2 i3 : Int32) (u5 : List Value) (ck6 : ClassId) (i7 i10 i23 : Int32) (h0 : Heap) (n0 : Nat) (Z0 : n0 ≤ h0.size) (c4 : i3 < i2) (V_a1 : Arv Z h0 a1 ck6 .char i7 u5 (.int 0)) (c8 : ¬ (i3 < 0)) (c9 : i3 < i7) (rd11 : u5.getD (i3).toNatClampNeg (.int 0) = (.int i10)) (c21 : 0 < i3) (c22 : (i3 - (1 : Int32)) < i7) (rd24 : u5.getD ((i3 - (1 : Int32))).toNatClampNeg (.int 0) = (.int i23)) (c38 : ¬ ((i3 + (1 : Int32)) < i2)) :
    OwnMet l Z y_5 method_7_code 4 (some .boolean) [] Rm70 #[(.ref a1), (.int i2), (.int i3)] h0 (Q70 Z a1 i2 i3 u5 ck6 i7 i10 i23 h0 n0) := by
  refine own_body (plainFor_of_name pn_0) (ef_a4b94a a1 i2 i3) ?_
  intro p e s m below meth c s₁ hx hby hml hown hnm hret hZ X0 e0
  have N0 := Fr.nil n0
  have B := hbx hby
  obtain ⟨cl1, Ar1, q1, S1, M1, Hs1, G1⟩ := id V_a1
  have hin2 := inb_of (j := i3) S1 ⟨c8, c9⟩
  obtain ⟨_, T3, L3, X3, hQ3, st3⟩ := own_callS X0 hx hZ hown (y := y_17) (w_82 hw) (w_83 hw) (w_3 hw) (w_84 hw) (rm23 l Z hw i10 h0 n0 Z0) e0 (Ls := #[vr a1, vi i2, vi i3, vi i10]) hml.symm (argsL := [(.int i10)]) (rest := []) (lenOf pd_15 rfl) (B d6_12) (W := 0)
  obtain ⟨rfl, Nq3, e3⟩ := hQ3
  have N3 := Fr.app N0 Nq3
  by_cases cc1 : (own_hi i10) = 0
  · obtain ⟨_, T4, L4, X4, hQ4, st4⟩ := own_callS X3 hx hZ hown (y := y_18) (w_85 hw) (w_86 hw) (w_3 hw) (w_87 hw) (rm24 l Z hw i10 h0 n0 Z0) e3 (Ls := #[vr a1, vi i2, vi i3, vi i10]) hml.symm (argsL := [(.int i10)]) (rest := []) (lenOf pd_15 rfl) (B d6_43) (W := 0)
    obtain ⟨rfl, Nq4, e4⟩ := hQ4
    have N4 := Fr.app N3 Nq4
    by_cases cc2 : (own_lw i10) = 0
    · refine ⟨T4, _, _, _, (some (.int 0)), X4, nofun, by decide, by decide, ?_, fun fs hr => ?_⟩
      · rw [e4]
        unfold Q70
        rw [show (own_ln2 i10 i23) = (0 : Int32) from by unfold own_ln2; rw [if_pos cc1, if_pos cc2]]
        exact ⟨rfl, N4, rfl⟩
      · refine sI X0 hx (B d6_0) rfl ?_
        refine sI X0 hx (B d6_1) rfl ?_
        refine XS.icmpYes X0.here hx rfl (pc0 := 2) (pc' := 7) rfl (B d6_2) rfl (tlt c4).1 (by decide) (by decide) ?_
        refine sA X0 hx (B d6_7) rfl rfl ?_
        refine sI X0 hx (B d6_8) rfl ?_
        refine X0.caload hx (j := i3) (v := (.int i10)) (by rw [e0]; exact Ar1.1) (State.isArrayOf_alike hZ.alike Ar1.2.1) Ar1.2.2 hin2 (Has.at Hs1 hin2 rd11) (g := (mkF m 9 #[vr a1, vi i2, vi i3, un] [(.int i3), (.ref a1)])) rfl rfl (B d6_9) _ ?_
        refine XS.istoreN X0.here hx rfl (B d6_10) rfl (l' := #[vr a1, vi i2, vi i3, vi i10]) rfl ?_
        refine sI X0 hx (B d6_11) rfl ?_
        refine st3 _ ?_
        refine XS.ifYes X3.here hx rfl (pc0 := 15) (pc' := 42) rfl (B d6_15) rfl ((if0 _ _).trans (teq cc1).1) (by decide) (by decide) ?_
        refine sI X3 hx (B d6_42) rfl ?_
        refine st4 _ ?_
        refine XS.ifYes X4.here hx rfl (pc0 := 46) (pc' := 70) rfl (B d6_46) rfl ((if0 _ _).trans (teq cc2).1) (by decide) (by decide) ?_
        refine sC X4 hx (B d6_70) ?_
        exact retN X4 hx (t := .boolean) hret (by simp) (B d6_71) hr
    · have cd5 : ¬ ((i3 - (1 : Int32)) < 0) := (by rw [Int32.lt_iff_toInt_lt]; have := rng32 (i3 - (1 : Int32)); have := And.intro (own_lb c21 0 (by decide)) (trivial); have := rng32 i3; have : ((1 : Int32)).toInt = 1 := (by decide); have := c_isub i3 (1 : Int32); have : ((0 : Int32)).toInt = 0 := (by decide); omega)
      have hin6 := inb_of (j := (i3 - (1 : Int32))) S1 ⟨cd5, c22⟩
      obtain ⟨_, T7, L7, X7, hQ7, st7⟩ := own_callS X4 hx hZ hown (y := y_17) (w_82 hw) (w_83 hw) (w_3 hw) (w_84 hw) (rm23 l Z hw i23 h0 n0 Z0) e4 (Ls := #[vr a1, vi i2, vi i3, vi i10]) hml.symm (argsL := [(.int i23)]) (rest := []) (lenOf pd_15 rfl) (B d6_58) (W := 0)
      obtain ⟨rfl, Nq7, e7⟩ := hQ7
      have N7 := Fr.app N4 Nq7
      by_cases cc3 : (own_hi i23) = 0
      · refine ⟨T7, _, _, _, (some (.int 1)), X7, nofun, by decide, by decide, ?_, fun fs hr => ?_⟩
        · rw [e7]
          unfold Q70
          rw [show (own_ln2 i10 i23) = (1 : Int32) from by unfold own_ln2; rw [if_pos cc1, if_neg cc2, if_pos cc3]]
          exact ⟨rfl, N7, rfl⟩
        · refine sI X0 hx (B d6_0) rfl ?_
          refine sI X0 hx (B d6_1) rfl ?_
          refine XS.icmpYes X0.here hx rfl (pc0 := 2) (pc' := 7) rfl (B d6_2) rfl (tlt c4).1 (by decide) (by decide) ?_
          refine sA X0 hx (B d6_7) rfl rfl ?_
          refine sI X0 hx (B d6_8) rfl ?_
          refine X0.caload hx (j := i3) (v := (.int i10)) (by rw [e0]; exact Ar1.1) (State.isArrayOf_alike hZ.alike Ar1.2.1) Ar1.2.2 hin2 (Has.at Hs1 hin2 rd11) (g := (mkF m 9 #[vr a1, vi i2, vi i3, un] [(.int i3), (.ref a1)])) rfl rfl (B d6_9) _ ?_
          refine XS.istoreN X0.here hx rfl (B d6_10) rfl (l' := #[vr a1, vi i2, vi i3, vi i10]) rfl ?_
          refine sI X0 hx (B d6_11) rfl ?_
          refine st3 _ ?_
          refine XS.ifYes X3.here hx rfl (pc0 := 15) (pc' := 42) rfl (B d6_15) rfl ((if0 _ _).trans (teq cc1).1) (by decide) (by decide) ?_
          refine sI X3 hx (B d6_42) rfl ?_
          refine st4 _ ?_
          refine XS.ifNo X4.here hx rfl (B d6_46) rfl ((if0 _ _).trans (feq cc2).1) ?_
          refine sI X4 hx (B d6_49) rfl ?_
          refine XS.ifNo X4.here hx rfl (B d6_50) rfl ((if0 _ _).trans (tlt c21).2.2.2) ?_
          refine sA X4 hx (B d6_53) rfl rfl ?_
          refine sI X4 hx (B d6_54) rfl ?_
          refine sC X4 hx (B d6_55) ?_
          refine XS.isub X4.here hx rfl (B d6_56) rfl ?_
          refine X4.caload hx (j := (i3 - (1 : Int32))) (v := (.int i23)) (by rw [e4]; exact Ar1.1) (State.isArrayOf_alike hZ.alike Ar1.2.1) Ar1.2.2 hin6 (Has.at Hs1 hin6 rd24) (g := (mkF m 57 #[vr a1, vi i2, vi i3, vi i10] [(.int (i3 - (1 : Int32))), (.ref a1)])) rfl rfl (B d6_57) _ ?_
          refine st7 _ ?_
          refine XS.ifNo X7.here hx rfl (B d6_61) rfl ((if0 _ _).trans (teq cc3).2) ?_
          refine sC X7 hx (B d6_64) ?_
          refine XS.goto X7.here hx rfl (pc0 := 65) (pc' := 69) rfl (B d6_65) (by decide) (by decide) ?_
          exact retN X7 hx (t := .boolean) hret (by simp) (B d6_69) hr
      · refine ⟨T7, _, _, _, (some (.int 0)), X7, nofun, by decide, by decide, ?_, fun fs hr => ?_⟩
        · rw [e7]
          unfold Q70
          rw [show (own_ln2 i10 i23) = (0 : Int32) from by unfold own_ln2; rw [if_pos cc1, if_neg cc2, if_neg cc3]]
          exact ⟨rfl, N7, rfl⟩
        · refine sI X0 hx (B d6_0) rfl ?_
          refine sI X0 hx (B d6_1) rfl ?_
          refine XS.icmpYes X0.here hx rfl (pc0 := 2) (pc' := 7) rfl (B d6_2) rfl (tlt c4).1 (by decide) (by decide) ?_
          refine sA X0 hx (B d6_7) rfl rfl ?_
          refine sI X0 hx (B d6_8) rfl ?_
          refine X0.caload hx (j := i3) (v := (.int i10)) (by rw [e0]; exact Ar1.1) (State.isArrayOf_alike hZ.alike Ar1.2.1) Ar1.2.2 hin2 (Has.at Hs1 hin2 rd11) (g := (mkF m 9 #[vr a1, vi i2, vi i3, un] [(.int i3), (.ref a1)])) rfl rfl (B d6_9) _ ?_
          refine XS.istoreN X0.here hx rfl (B d6_10) rfl (l' := #[vr a1, vi i2, vi i3, vi i10]) rfl ?_
          refine sI X0 hx (B d6_11) rfl ?_
          refine st3 _ ?_
          refine XS.ifYes X3.here hx rfl (pc0 := 15) (pc' := 42) rfl (B d6_15) rfl ((if0 _ _).trans (teq cc1).1) (by decide) (by decide) ?_
          refine sI X3 hx (B d6_42) rfl ?_
          refine st4 _ ?_
          refine XS.ifNo X4.here hx rfl (B d6_46) rfl ((if0 _ _).trans (feq cc2).1) ?_
          refine sI X4 hx (B d6_49) rfl ?_
          refine XS.ifNo X4.here hx rfl (B d6_50) rfl ((if0 _ _).trans (tlt c21).2.2.2) ?_
          refine sA X4 hx (B d6_53) rfl rfl ?_
          refine sI X4 hx (B d6_54) rfl ?_
          refine sC X4 hx (B d6_55) ?_
          refine XS.isub X4.here hx rfl (B d6_56) rfl ?_
          refine X4.caload hx (j := (i3 - (1 : Int32))) (v := (.int i23)) (by rw [e4]; exact Ar1.1) (State.isArrayOf_alike hZ.alike Ar1.2.1) Ar1.2.2 hin6 (Has.at Hs1 hin6 rd24) (g := (mkF m 57 #[vr a1, vi i2, vi i3, vi i10] [(.int (i3 - (1 : Int32))), (.ref a1)])) rfl rfl (B d6_57) _ ?_
          refine st7 _ ?_
          refine XS.ifYes X7.here hx rfl (pc0 := 61) (pc' := 68) rfl (B d6_61) rfl ((if0 _ _).trans (feq cc3).2) (by decide) (by decide) ?_
          refine sC X7 hx (B d6_68) ?_
          exact retN X7 hx (t := .boolean) hret (by simp) (B d6_69) hr
  · refine ⟨T3, _, _, _, (some (.int 1)), X3, nofun, by decide, by decide, ?_, fun fs hr => ?_⟩
    · rw [e3]
      unfold Q70
      rw [show (own_ln2 i10 i23) = (1 : Int32) from by unfold own_ln2; rw [if_neg cc1]]
      exact ⟨rfl, N3, rfl⟩
    · refine sI X0 hx (B d6_0) rfl ?_
      refine sI X0 hx (B d6_1) rfl ?_
      refine XS.icmpYes X0.here hx rfl (pc0 := 2) (pc' := 7) rfl (B d6_2) rfl (tlt c4).1 (by decide) (by decide) ?_
      refine sA X0 hx (B d6_7) rfl rfl ?_
      refine sI X0 hx (B d6_8) rfl ?_
      refine X0.caload hx (j := i3) (v := (.int i10)) (by rw [e0]; exact Ar1.1) (State.isArrayOf_alike hZ.alike Ar1.2.1) Ar1.2.2 hin2 (Has.at Hs1 hin2 rd11) (g := (mkF m 9 #[vr a1, vi i2, vi i3, un] [(.int i3), (.ref a1)])) rfl rfl (B d6_9) _ ?_
      refine XS.istoreN X0.here hx rfl (B d6_10) rfl (l' := #[vr a1, vi i2, vi i3, vi i10]) rfl ?_
      refine sI X0 hx (B d6_11) rfl ?_
      refine st3 _ ?_
      refine XS.ifNo X3.here hx rfl (B d6_15) rfl ((if0 _ _).trans (feq cc1).1) ?_
      refine sI X3 hx (B d6_18) rfl ?_
      refine sC X3 hx (B d6_19) ?_
      refine XS.iadd X3.here hx rfl (B d6_20) rfl ?_
      refine sI X3 hx (B d6_21) rfl ?_
      refine XS.icmpYes X3.here hx rfl (pc0 := 22) (pc' := 36) rfl (B d6_22) rfl (flt c38).2.1 (by decide) (by decide) ?_
      refine sC X3 hx (B d6_36) ?_
      refine XS.goto X3.here hx rfl (pc0 := 37) (pc' := 41) rfl (B d6_37) (by decide) (by decide) ?_
      exact retN X3 hx (t := .boolean) hret (by simp) (B d6_41) hr
def own_ex1 (v0 v1 : Int32) : Int32 := (if (own_ln1 v0 v1) = 0 then (if (own_ln2 v1 v0) = 0 then (-1 : Int32) else (1 : Int32)) else (0 : Int32))
theorem tn71 (l : Launch) (Z : State) {a0 : Array Value} (hw : OW a0 Z) (i1 i2 i3 i4 i5 i6 i7 i8 i9 : Int32) (a10 a11 : Addr) (i12 i13 i14 i15 : Int32) (ck16 : ClassId) (h0 : Heap) (n0 : Nat) (Z0 : n0 ≤ h0.size) (V_a11 : Arv Z h0 a11 ck16 .char 4 [(.int i12), (.int i13), (.int i14), (.int i15)] (.int 0)) {p : Program} {e : Env} {s : State} {m : MethodId} {args : Array Value} {below : List Frame} {meth : Method} {c : Code} {s₁ : State} {L0 : List Loc} {ce sl : Nat} (hx : p.tables.exec = Jvm.exec) (hby : c.code = code) (hml : c.maxLocals = maxLocals) (hown : s.vm.findClass "com/example/sidwire/sidwire/cbor/CborWriterUnpairedSurrogatePinLaw" = some m.cls) (hZ : Z.Warmed39 s.vm) (X0 : Stand p l e room_1 s m args below meth c s₁ L0 ce sl) (e0 : s₁.heap = h0) (N0 : Fr n0 L0) (hce : ce ≤ room_1.cells) (hsl : sl ≤ room_1.slots) :
    ∃ (T : State) (L : List Loc), Stand p l e room_1 s m args below meth c T L ce sl ∧ T.heap = h0 ∧ Fr n0 L ∧ ∀ target, Steps p.tables e below (T.setTop (mkF m 144 #[vi i1, vi i2, vi i3, vi i4, vi i5, vi 2, vi i6, vi i7, vi i8, vi i9, vr a10, vr a11, vi (own_ex1 i12 i13)] [])) target → Steps p.tables e below (s₁.setTop (mkF m 73 #[vi i1, vi i2, vi i3, vi i4, vi i5, vi 2, vi i6, vi i7, vi i8, vi i9, vr a10, vr a11, un] [])) target := by
  have B := hbx hby
  obtain ⟨_, T1, L1, X1, hQ1, st1⟩ := own_callS X0 hx hZ hown (y := y_5) (w_34 hw) (w_35 hw) (w_3 hw) (w_36 hw) (rm69 l Z hw a11 (2 : Int32) (0 : Int32) [(.int i12), (.int i13), (.int i14), (.int i15)] ck16 (4 : Int32) i12 i13 h0 n0 Z0 (by decide) V_a11 (by decide) (by decide) rfl (by decide) (by decide) (by decide) (by decide) rfl) e0 (Ls := #[vi i1, vi i2, vi i3, vi i4, vi i5, vi 2, vi i6, vi i7, vi i8, vi i9, vr a10, vr a11, un]) hml.symm (argsL := [(.ref a11), (.int 2), (.int 0)]) (rest := []) (lenOf pd_4 rfl) (B at_78) (W := 0) (hc := hce) (hs := hsl)
  obtain ⟨rfl, Nq1, e1⟩ := hQ1
  have N1 := Fr.app N0 Nq1
  by_cases cc1 : (own_ln1 i12 i13) = 0
  · obtain ⟨_, T2, L2, X2, hQ2, st2⟩ := own_callS X1 hx hZ hown (y := y_5) (w_34 hw) (w_35 hw) (w_3 hw) (w_36 hw) (rm70 l Z hw a11 (2 : Int32) (1 : Int32) [(.int i12), (.int i13), (.int i14), (.int i15)] ck16 (4 : Int32) i13 i12 h0 n0 Z0 (by decide) V_a11 (by decide) (by decide) rfl (by decide) (by decide) rfl (by decide)) e1 (Ls := #[vi i1, vi i2, vi i3, vi i4, vi i5, vi 2, vi i6, vi i7, vi i8, vi i9, vr a10, vr a11, un]) hml.symm (argsL := [(.ref a11), (.int 2), (.int 1)]) (rest := []) (lenOf pd_4 rfl) (B at_95) (W := 0) (hc := hce) (hs := hsl)
    obtain ⟨rfl, Nq2, e2⟩ := hQ2
    have N2 := Fr.app N1 Nq2
    by_cases cc2 : (own_ln2 i13 i12) = 0
    · obtain ⟨_, T3, L3, X3, hQ3, st3⟩ := own_callS X2 hx hZ hown (y := y_5) (w_34 hw) (w_35 hw) (w_3 hw) (w_36 hw) (rm5 l Z hw a11 (2 : Int32) (2 : Int32) h0 n0 Z0 (by decide)) e2 (Ls := #[vi i1, vi i2, vi i3, vi i4, vi i5, vi 2, vi i6, vi i7, vi i8, vi i9, vr a10, vr a11, un]) hml.symm (argsL := [(.ref a11), (.int 2), (.int 2)]) (rest := []) (lenOf pd_4 rfl) (B at_112) (W := 0) (hc := hce) (hs := hsl)
      obtain ⟨rfl, Nq3, e3⟩ := hQ3
      have N3 := Fr.app N2 Nq3
      obtain ⟨_, T4, L4, X4, hQ4, st4⟩ := own_callS X3 hx hZ hown (y := y_5) (w_34 hw) (w_35 hw) (w_3 hw) (w_36 hw) (rm5 l Z hw a11 (2 : Int32) (3 : Int32) h0 n0 Z0 (by decide)) e3 (Ls := #[vi i1, vi i2, vi i3, vi i4, vi i5, vi 2, vi i6, vi i7, vi i8, vi i9, vr a10, vr a11, un]) hml.symm (argsL := [(.ref a11), (.int 2), (.int 3)]) (rest := []) (lenOf pd_4 rfl) (B at_129) (W := 0) (hc := hce) (hs := hsl)
      obtain ⟨rfl, Nq4, e4⟩ := hQ4
      have N4 := Fr.app N3 Nq4
      refine ⟨T4, _, X4, e4, N4, fun target hr => ?_⟩
      refine sB X0 hx (B at_73) rfl rfl ?_
      refine sJ X0 hx (B at_75) rfl ?_
      refine sC X0 hx (B at_77) ?_
      refine st1 _ ?_
      refine XS.ifYes X1.here hx rfl (pc0 := 81) (pc' := 90) rfl (B at_81) rfl ((if0 _ _).trans (teq cc1).1) (by decide) (by decide) ?_
      refine sB X1 hx (B at_90) rfl rfl ?_
      refine sJ X1 hx (B at_92) rfl ?_
      refine sC X1 hx (B at_94) ?_
      refine st2 _ ?_
      refine XS.ifYes X2.here hx rfl (pc0 := 98) (pc' := 107) rfl (B at_98) rfl ((if0 _ _).trans (teq cc2).1) (by decide) (by decide) ?_
      refine sB X2 hx (B at_107) rfl rfl ?_
      refine sJ X2 hx (B at_109) rfl ?_
      refine sC X2 hx (B at_111) ?_
      refine st3 _ ?_
      refine XS.ifYes X3.here hx rfl (pc0 := 115) (pc' := 124) rfl (B at_115) rfl ((if0 _ _).trans (teq (by decide : (0 : Int32) = (0 : Int32))).1) (by decide) (by decide) ?_
      refine sB X3 hx (B at_124) rfl rfl ?_
      refine sJ X3 hx (B at_126) rfl ?_
      refine sC X3 hx (B at_128) ?_
      refine st4 _ ?_
      refine XS.ifYes X4.here hx rfl (pc0 := 132) (pc' := 141) rfl (B at_132) rfl ((if0 _ _).trans (teq (by decide : (0 : Int32) = (0 : Int32))).1) (by decide) (by decide) ?_
      refine sC X4 hx (B at_141) ?_
      refine XS.istore X4.here hx rfl (B at_142) rfl (l' := #[vi i1, vi i2, vi i3, vi i4, vi i5, vi 2, vi i6, vi i7, vi i8, vi i9, vr a10, vr a11, vi (-1)]) rfl ?_
      rw [show (own_ex1 i12 i13) = (-1 : Int32) from by unfold own_ex1; rw [if_pos cc1, if_pos cc2]] at hr
      exact hr
    · refine ⟨T2, _, X2, e2, N2, fun target hr => ?_⟩
      refine sB X0 hx (B at_73) rfl rfl ?_
      refine sJ X0 hx (B at_75) rfl ?_
      refine sC X0 hx (B at_77) ?_
      refine st1 _ ?_
      refine XS.ifYes X1.here hx rfl (pc0 := 81) (pc' := 90) rfl (B at_81) rfl ((if0 _ _).trans (teq cc1).1) (by decide) (by decide) ?_
      refine sB X1 hx (B at_90) rfl rfl ?_
      refine sJ X1 hx (B at_92) rfl ?_
      refine sC X1 hx (B at_94) ?_
      refine st2 _ ?_
      refine XS.ifNo X2.here hx rfl (B at_98) rfl ((if0 _ _).trans (feq cc2).1) ?_
      refine sC X2 hx (B at_101) ?_
      refine XS.istore X2.here hx rfl (B at_102) rfl (l' := #[vi i1, vi i2, vi i3, vi i4, vi i5, vi 2, vi i6, vi i7, vi i8, vi i9, vr a10, vr a11, vi 1]) rfl ?_
      refine XS.goto X2.here hx rfl (pc0 := 104) (pc' := 144) rfl (B at_104) (by decide) (by decide) ?_
      rw [show (own_ex1 i12 i13) = (1 : Int32) from by unfold own_ex1; rw [if_pos cc1, if_neg cc2]] at hr
      exact hr
  · refine ⟨T1, _, X1, e1, N1, fun target hr => ?_⟩
    refine sB X0 hx (B at_73) rfl rfl ?_
    refine sJ X0 hx (B at_75) rfl ?_
    refine sC X0 hx (B at_77) ?_
    refine st1 _ ?_
    refine XS.ifNo X1.here hx rfl (B at_81) rfl ((if0 _ _).trans (feq cc1).1) ?_
    refine sC X1 hx (B at_84) ?_
    refine XS.istore X1.here hx rfl (B at_85) rfl (l' := #[vi i1, vi i2, vi i3, vi i4, vi i5, vi 2, vi i6, vi i7, vi i8, vi i9, vr a10, vr a11, vi 0]) rfl ?_
    refine XS.goto X1.here hx rfl (pc0 := 87) (pc' := 144) rfl (B at_87) (by decide) (by decide) ?_
    rw [show (own_ex1 i12 i13) = (0 : Int32) from by unfold own_ex1; rw [if_neg cc1]] at hr
    exact hr
theorem d25_51 : decode Kc25 51 = .ok (.iload_n 3, 1) := by decide +kernel
theorem d25_52 : decode Kc25 52 = .ok (.ifCond .eq 8, 3) := by decide +kernel
theorem d25_60 : decode Kc25 60 = .ok (.aload_n 0, 1) := by decide +kernel
theorem d25_61 : decode Kc25 61 = .ok (.iload_n 1, 1) := by decide +kernel
theorem d25_62 : decode Kc25 62 = .ok (.invokestatic 71, 3) := by decide +kernel
theorem d25_65 : decode Kc25 65 = .ok (.istore 5, 2) := by decide +kernel
theorem d25_67 : decode Kc25 67 = .ok (.iload 5, 2) := by decide +kernel
theorem d25_69 : decode Kc25 69 = .ok (.invokestatic 81, 3) := by decide +kernel
abbrev Kc28 := jdk_89_method_15_code
theorem d28_0 : decode Kc28 0 = .ok (.iload_n 0, 1) := by decide +kernel
theorem d28_1 : decode Kc28 1 = .ok (.ldc 76, 2) := by decide +kernel
theorem d28_3 : decode Kc28 3 = .ok (.if_icmp .lt 13, 3) := by decide +kernel
theorem d28_16 : decode Kc28 16 = .ok (.iconst 0, 1) := by decide +kernel
theorem d28_17 : decode Kc28 17 = .ok (.ireturn, 1) := by decide +kernel
theorem d28_6 : decode Kc28 6 = .ok (.iload_n 0, 1) := by decide +kernel
theorem d28_7 : decode Kc28 7 = .ok (.ldc 77, 2) := by decide +kernel
theorem w_129 {a0 Z} (hw : OW a0 Z) : Jvm.Cond.before (.constant "java/lang/Character" 77 (57344 : Int32)) a0 Z := hw _ (mo 129 rfl)
theorem d28_9 : decode Kc28 9 = .ok (.if_icmp .ge 7, 3) := by decide +kernel
theorem d28_12 : decode Kc28 12 = .ok (.iconst 1, 1) := by decide +kernel
theorem d28_13 : decode Kc28 13 = .ok (.goto 4, 3) := by decide +kernel
def own_il (v0 : Int32) : Int32 := (if v0 < 56320 then (0 : Int32) else (if v0 < 57344 then (1 : Int32) else (0 : Int32)))
abbrev y_27 : MethodName := ⟨"java/lang/Character", "isLowSurrogate", "(C)Z"⟩
abbrev Rm72 : Room := rmk 0 0 0 0
def Q72 (Z : State) (i1 : Int32) (h0 : Heap) (n0 : Nat) (v : Option Value) (h : Heap) (L : List Loc) : Prop := v = some (.int (own_il i1)) ∧ Fr n0 L ∧ h = h0
theorem rm72 (l : Launch) (Z : State) {a0 : Array Value} (hw : OW a0 Z) (i1 : Int32) (h0 : Heap) (n0 : Nat) (Z0 : n0 ≤ h0.size) :
    OwnMet l Z y_27 jdk_89_method_15_code 1 (some .boolean) [] Rm72 #[(.int i1)] h0 (Q72 Z i1 h0 n0) := by
  refine own_body (plainFor_of_name pn_5) (ef_53da61 i1) ?_
  intro p e s m below meth c s₁ hx hby hml hown hnm hret hZ X0 e0
  have N0 := Fr.nil n0
  have B := hbx hby
  by_cases cc1 : i1 < 56320
  · refine ⟨s₁, _, _, _, (some (.int 0)), X0, nofun, by decide, by decide, ?_, fun fs hr => ?_⟩
    · rw [e0]
      unfold Q72
      rw [show (own_il i1) = (0 : Int32) from by unfold own_il; rw [if_pos cc1]]
      exact ⟨rfl, N0, rfl⟩
    · refine sI X0 hx (B d28_0) rfl ?_
      refine X0.ldcInt hx hown (mvT hZ (w_124 hw)) (g := (mkF m 1 #[vi i1] [(.int i1)])) rfl (B d28_1) _ ?_
      refine XS.icmpYes X0.here hx rfl (pc0 := 3) (pc' := 16) rfl (B d28_3) rfl (tlt cc1).1 (by decide) (by decide) ?_
      refine sC X0 hx (B d28_16) ?_
      exact retN X0 hx (t := .boolean) hret (by simp) (B d28_17) hr
  · by_cases cc2 : i1 < 57344
    · refine ⟨s₁, _, _, _, (some (.int 1)), X0, nofun, by decide, by decide, ?_, fun fs hr => ?_⟩
      · rw [e0]
        unfold Q72
        rw [show (own_il i1) = (1 : Int32) from by unfold own_il; rw [if_neg cc1, if_pos cc2]]
        exact ⟨rfl, N0, rfl⟩
      · refine sI X0 hx (B d28_0) rfl ?_
        refine X0.ldcInt hx hown (mvT hZ (w_124 hw)) (g := (mkF m 1 #[vi i1] [(.int i1)])) rfl (B d28_1) _ ?_
        refine XS.icmpNo X0.here hx rfl (B d28_3) rfl (flt cc1).1 ?_
        refine sI X0 hx (B d28_6) rfl ?_
        refine X0.ldcInt hx hown (mvT hZ (w_129 hw)) (g := (mkF m 7 #[vi i1] [(.int i1)])) rfl (B d28_7) _ ?_
        refine XS.icmpNo X0.here hx rfl (B d28_9) rfl (tlt cc2).2.1 ?_
        refine sC X0 hx (B d28_12) ?_
        refine XS.goto X0.here hx rfl (pc0 := 13) (pc' := 17) rfl (B d28_13) (by decide) (by decide) ?_
        exact retN X0 hx (t := .boolean) hret (by simp) (B d28_17) hr
    · refine ⟨s₁, _, _, _, (some (.int 0)), X0, nofun, by decide, by decide, ?_, fun fs hr => ?_⟩
      · rw [e0]
        unfold Q72
        rw [show (own_il i1) = (0 : Int32) from by unfold own_il; rw [if_neg cc1, if_neg cc2]]
        exact ⟨rfl, N0, rfl⟩
      · refine sI X0 hx (B d28_0) rfl ?_
        refine X0.ldcInt hx hown (mvT hZ (w_124 hw)) (g := (mkF m 1 #[vi i1] [(.int i1)])) rfl (B d28_1) _ ?_
        refine XS.icmpNo X0.here hx rfl (B d28_3) rfl (flt cc1).1 ?_
        refine sI X0 hx (B d28_6) rfl ?_
        refine X0.ldcInt hx hown (mvT hZ (w_129 hw)) (g := (mkF m 7 #[vi i1] [(.int i1)])) rfl (B d28_7) _ ?_
        refine XS.icmpYes X0.here hx rfl (pc0 := 9) (pc' := 16) rfl (B d28_9) rfl (flt cc2).2.1 (by decide) (by decide) ?_
        refine sC X0 hx (B d28_16) ?_
        exact retN X0 hx (t := .boolean) hret (by simp) (B d28_17) hr
theorem w_128 {a0 Z} (hw : OW a0 Z) : Jvm.Cond.before (.code y_27 jdk_89_method_15_code 1 (some .boolean)) a0 Z := hw _ (mo 128 rfl)
theorem w_126 {a0 Z} (hw : OW a0 Z) : Jvm.Cond.before (.methodLink "java/lang/StringUTF16" 81 y_27) a0 Z := hw _ (mo 126 rfl)
theorem w_127 {a0 Z} (hw : OW a0 Z) : Jvm.Cond.before (.static y_27) a0 Z := hw _ (mo 127 rfl)
theorem d25_72 : decode Kc25 72 = .ok (.ifCond .eq 11, 3) := by decide +kernel
theorem d25_75 : decode Kc25 75 = .ok (.iload 4, 2) := by decide +kernel
theorem d25_77 : decode Kc25 77 = .ok (.iload 5, 2) := by decide +kernel
theorem d25_79 : decode Kc25 79 = .ok (.invokestatic 84, 3) := by decide +kernel
abbrev Kc29 := jdk_89_method_19_code
theorem d29_0 : decode Kc29 0 = .ok (.iload_n 0, 1) := by decide +kernel
theorem d29_1 : decode Kc29 1 = .ok (.bipush 10, 2) := by decide +kernel
theorem d29_3 : decode Kc29 3 = .ok (.ishl, 1) := by decide +kernel
theorem d29_4 : decode Kc29 4 = .ok (.iload_n 1, 1) := by decide +kernel
theorem d29_5 : decode Kc29 5 = .ok (.iadd, 1) := by decide +kernel
theorem d29_6 : decode Kc29 6 = .ok (.ldc 85, 2) := by decide +kernel
theorem w_133 {a0 Z} (hw : OW a0 Z) : Jvm.Cond.before (.constant "java/lang/Character" 85 (-56613888 : Int32)) a0 Z := hw _ (mo 133 rfl)
theorem d29_8 : decode Kc29 8 = .ok (.iadd, 1) := by decide +kernel
theorem d29_9 : decode Kc29 9 = .ok (.ireturn, 1) := by decide +kernel
abbrev y_28 : MethodName := ⟨"java/lang/Character", "toCodePoint", "(CC)I"⟩
abbrev Rm73 : Room := rmk 0 0 0 0
def Q73 (Z : State) (i1 i2 : Int32) (h0 : Heap) (n0 : Nat) (v : Option Value) (h : Heap) (L : List Loc) : Prop := v = some (.int (((i1 <<< ((10 : Int32) &&& 31)) + i2) + (-56613888 : Int32))) ∧ Fr n0 L ∧ h = h0
theorem rm73 (l : Launch) (Z : State) {a0 : Array Value} (hw : OW a0 Z) (i1 i2 : Int32) (h0 : Heap) (n0 : Nat) (Z0 : n0 ≤ h0.size) :
    OwnMet l Z y_28 jdk_89_method_19_code 2 (some .int) [] Rm73 #[(.int i1), (.int i2)] h0 (Q73 Z i1 i2 h0 n0) := by
  refine own_body (plainFor_of_name pn_5) (ef_710b0e i1 i2) ?_
  intro p e s m below meth c s₁ hx hby hml hown hnm hret hZ X0 e0
  have N0 := Fr.nil n0
  have B := hbx hby
  refine ⟨s₁, _, _, _, (some (.int (((i1 <<< ((10 : Int32) &&& 31)) + i2) + (-56613888 : Int32)))), X0, nofun, by decide, by decide, ?_, fun fs hr => ?_⟩
  · rw [e0]
    exact ⟨rfl, N0, rfl⟩
  · refine sI X0 hx (B d29_0) rfl ?_
    refine XS.bipush X0.here hx rfl (B d29_1) ?_
    refine XS.ishl X0.here hx rfl (B d29_3) rfl ?_
    refine sI X0 hx (B d29_4) rfl ?_
    refine XS.iadd X0.here hx rfl (B d29_5) rfl ?_
    refine X0.ldcInt hx hown (mvT hZ (w_133 hw)) (g := (mkF m 6 #[vi i1, vi i2] [(.int ((i1 <<< ((10 : Int32) &&& 31)) + i2))])) rfl (B d29_6) _ ?_
    refine XS.iadd X0.here hx rfl (B d29_8) rfl ?_
    exact retI X0 hx hret (B d29_9) hr
theorem pd_21 : parseMethodDescriptor "(CC)I" = some ⟨[.char, .char], some .int⟩ := by decide +kernel
theorem w_132 {a0 Z} (hw : OW a0 Z) : Jvm.Cond.before (.code y_28 jdk_89_method_19_code 2 (some .int)) a0 Z := hw _ (mo 132 rfl)
theorem w_130 {a0 Z} (hw : OW a0 Z) : Jvm.Cond.before (.methodLink "java/lang/StringUTF16" 84 y_28) a0 Z := hw _ (mo 130 rfl)
theorem w_131 {a0 Z} (hw : OW a0 Z) : Jvm.Cond.before (.static y_28) a0 Z := hw _ (mo 131 rfl)
theorem d25_82 : decode Kc25 82 = .ok (.ireturn, 1) := by decide +kernel
def own_cp (v0 v1 v2 v3 : Int32) : Int32 := (if (own_ih (own_gc v0 v1)) = 0 then (own_gc v0 v1) else (if (own_il (own_gc v2 v3)) = 0 then (own_gc v0 v1) else ((((own_gc v0 v1) <<< ((10 : Int32) &&& 31)) + (own_gc v2 v3)) + (-56613888 : Int32))))
abbrev Rm74 : Room := rmk 1 0 0 13
def Q74 (Z : State) (a1 : Addr) (i2 i3 : Int32) (u4 : List Value) (ck5 : ClassId) (i6 i9 i13 i26 i30 : Int32) (h0 : Heap) (n0 : Nat) (v : Option Value) (h : Heap) (L : List Loc) : Prop := v = some (.int (own_cp i9 i13 i26 i30)) ∧ Fr n0 L ∧ h = h0
theorem rm74 (l : Launch) (Z : State) {a0 : Array Value} (hw : OW a0 Z) (a1 : Addr) (i2 i3 : Int32) (u4 : List Value) (ck5 : ClassId) (i6 i9 i13 i26 i30 : Int32) (h0 : Heap) (n0 : Nat) (Z0 : n0 ≤ h0.size) (S__assertionsDisabled : Sta Z Z.heap "java/lang/StringUTF16" "$assertionsDisabled" "Z" (.int 1)) (Od0 : Old Z n0 h0) (V_a1 : Arv Z h0 a1 ck5 .byte i6 u4 (.int 0)) (c7 : ¬ ((i2 <<< ((1 : Int32) &&& 31)) < 0)) (c8 : (i2 <<< ((1 : Int32) &&& 31)) < i6) (rd10 : u4.getD ((i2 <<< ((1 : Int32) &&& 31))).toNatClampNeg (.int 0) = (.int i9)) (S_HI_BYTE_SHIFT : Sta Z Z.heap "java/lang/StringUTF16" "HI_BYTE_SHIFT" "I" (.int 0)) (c11 : ¬ (((i2 <<< ((1 : Int32) &&& 31)) + (1 : Int32)) < 0)) (c12 : ((i2 <<< ((1 : Int32) &&& 31)) + (1 : Int32)) < i6) (rd14 : u4.getD (((i2 <<< ((1 : Int32) &&& 31)) + (1 : Int32))).toNatClampNeg (.int 0) = (.int i13)) (S_LO_BYTE_SHIFT : Sta Z Z.heap "java/lang/StringUTF16" "LO_BYTE_SHIFT" "I" (.int 8)) (c23 : (i2 + (1 : Int32)) < i3) (c24 : ¬ (((i2 + (1 : Int32)) <<< ((1 : Int32) &&& 31)) < 0)) (c25 : ((i2 + (1 : Int32)) <<< ((1 : Int32) &&& 31)) < i6) (rd27 : u4.getD (((i2 + (1 : Int32)) <<< ((1 : Int32) &&& 31))).toNatClampNeg (.int 0) = (.int i26)) (c28 : ¬ ((((i2 + (1 : Int32)) <<< ((1 : Int32) &&& 31)) + (1 : Int32)) < 0)) (c29 : (((i2 + (1 : Int32)) <<< ((1 : Int32) &&& 31)) + (1 : Int32)) < i6) (rd31 : u4.getD ((((i2 + (1 : Int32)) <<< ((1 : Int32) &&& 31)) + (1 : Int32))).toNatClampNeg (.int 0) = (.int i30)) :
    OwnMet l Z y_23 jdk_52_method_7_code 6 (some .int) [] Rm74 #[(.ref a1), (.int i2), (.int i3), (.int 0)] h0 (Q74 Z a1 i2 i3 u4 ck5 i6 i9 i13 i26 i30 h0 n0) := by
  refine own_body (plainFor_of_name pn_3) (ef_bcb382 a1 i2 i3) ?_
  intro p e s m below meth c s₁ hx hby hml hown hnm hret hZ X0 e0
  have N0 := Fr.nil n0
  have B := hbx hby
  obtain ⟨T1, X1, e1, st1⟩ := getS2 X0 hx hZ hown (host := "") (Or.inl (w_73 hw)) Via.refl e0 (S__assertionsDisabled.ext Od0.2) (g := (mkF m 0 #[vr a1, vi i2, vi i3, vi 0, un, un] [])) rfl (B d25_0)
  obtain ⟨_, T2, L2, X2, hQ2, st2⟩ := own_callS X1 hx hZ hown (y := y_14) (w_76 hw) (w_77 hw) (w_55 hw) (w_78 hw) (rm16 l Z hw a1 i2 u4 ck5 i6 i9 i13 h0 n0 Z0 S__assertionsDisabled Od0 V_a1 c7 c8 rd10 S_HI_BYTE_SHIFT c11 c12 rd14 S_LO_BYTE_SHIFT) e1 (Ls := #[vr a1, vi i2, vi i3, vi 0, un, un]) hml.symm (argsL := [(.ref a1), (.int i2)]) (rest := []) (lenOf pd_13 rfl) (B d25_30) (W := 0)
  obtain ⟨rfl, Nq2, e2⟩ := hQ2
  have N2 := Fr.app N0 Nq2
  obtain ⟨_, T3, L3, X3, hQ3, st3⟩ := own_callS X2 hx hZ hown (y := y_22) (w_112 hw) (w_113 hw) (w_114 hw) (w_115 hw) (rm32 l Z hw (own_gc i9 i13) h0 n0 Z0) e2 (Ls := #[vr a1, vi i2, vi i3, vi 0, vi (own_gc i9 i13), un]) hml.symm (argsL := [(.int (own_gc i9 i13))]) (rest := []) (lenOf pd_15 rfl) (B d25_37) (W := 0)
  obtain ⟨rfl, Nq3, e3⟩ := hQ3
  have N3 := Fr.app N2 Nq3
  by_cases cc1 : (own_ih (own_gc i9 i13)) = 0
  · refine ⟨T3, _, _, _, (some (.int (own_gc i9 i13))), X3, nofun, by decide, by decide, ?_, fun fs hr => ?_⟩
    · rw [e3]
      unfold Q74
      rw [show (own_cp i9 i13 i26 i30) = (own_gc i9 i13) from by unfold own_cp; rw [if_pos cc1]]
      exact ⟨rfl, N3, rfl⟩
    · refine st1 _ ?_
      refine XS.ifYes X1.here hx rfl (pc0 := 3) (pc' := 19) rfl (B d25_3) rfl ((if0 _ _).trans (feq (by decide : ¬ ((1 : Int32) = (0 : Int32)))).2) (by decide) (by decide) ?_
      refine sI X1 hx (B d25_19) rfl ?_
      refine XS.ifYes X1.here hx rfl (pc0 := 20) (pc' := 28) rfl (B d25_20) rfl ((if0 _ _).trans (teq (by decide : (0 : Int32) = (0 : Int32))).1) (by decide) (by decide) ?_
      refine sA X1 hx (B d25_28) rfl rfl ?_
      refine sI X1 hx (B d25_29) rfl ?_
      refine st2 _ ?_
      refine XS.istore X2.here hx rfl (B d25_33) rfl (l' := #[vr a1, vi i2, vi i3, vi 0, vi (own_gc i9 i13), un]) rfl ?_
      refine sJ X2 hx (B d25_35) rfl ?_
      refine st3 _ ?_
      refine XS.ifYes X3.here hx rfl (pc0 := 40) (pc' := 83) rfl (B d25_40) rfl ((if0 _ _).trans (teq cc1).1) (by decide) (by decide) ?_
      refine sJ X3 hx (B d25_83) rfl ?_
      exact retI X3 hx hret (B d25_85) hr
  · obtain ⟨_, T4, L4, X4, hQ4, st4⟩ := own_callS X3 hx hZ hown (y := y_14) (w_76 hw) (w_77 hw) (w_55 hw) (w_78 hw) (rm16 l Z hw a1 (i2 + (1 : Int32)) u4 ck5 i6 i26 i30 h0 n0 Z0 S__assertionsDisabled Od0 V_a1 c24 c25 rd27 S_HI_BYTE_SHIFT c28 c29 rd31 S_LO_BYTE_SHIFT) e3 (Ls := #[vr a1, vi (i2 + (1 : Int32)), vi i3, vi 0, vi (own_gc i9 i13), un]) hml.symm (argsL := [(.ref a1), (.int (i2 + (1 : Int32)))]) (rest := []) (lenOf pd_13 rfl) (B d25_62) (W := 0)
    obtain ⟨rfl, Nq4, e4⟩ := hQ4
    have N4 := Fr.app N3 Nq4
    obtain ⟨_, T5, L5, X5, hQ5, st5⟩ := own_callS X4 hx hZ hown (y := y_27) (w_126 hw) (w_127 hw) (w_114 hw) (w_128 hw) (rm72 l Z hw (own_gc i26 i30) h0 n0 Z0) e4 (Ls := #[vr a1, vi (i2 + (1 : Int32)), vi i3, vi 0, vi (own_gc i9 i13), vi (own_gc i26 i30)]) hml.symm (argsL := [(.int (own_gc i26 i30))]) (rest := []) (lenOf pd_15 rfl) (B d25_69) (W := 0)
    obtain ⟨rfl, Nq5, e5⟩ := hQ5
    have N5 := Fr.app N4 Nq5
    by_cases cc2 : (own_il (own_gc i26 i30)) = 0
    · refine ⟨T5, _, _, _, (some (.int (own_gc i9 i13))), X5, nofun, by decide, by decide, ?_, fun fs hr => ?_⟩
      · rw [e5]
        unfold Q74
        rw [show (own_cp i9 i13 i26 i30) = (own_gc i9 i13) from by unfold own_cp; rw [if_neg cc1, if_pos cc2]]
        exact ⟨rfl, N5, rfl⟩
      · refine st1 _ ?_
        refine XS.ifYes X1.here hx rfl (pc0 := 3) (pc' := 19) rfl (B d25_3) rfl ((if0 _ _).trans (feq (by decide : ¬ ((1 : Int32) = (0 : Int32)))).2) (by decide) (by decide) ?_
        refine sI X1 hx (B d25_19) rfl ?_
        refine XS.ifYes X1.here hx rfl (pc0 := 20) (pc' := 28) rfl (B d25_20) rfl ((if0 _ _).trans (teq (by decide : (0 : Int32) = (0 : Int32))).1) (by decide) (by decide) ?_
        refine sA X1 hx (B d25_28) rfl rfl ?_
        refine sI X1 hx (B d25_29) rfl ?_
        refine st2 _ ?_
        refine XS.istore X2.here hx rfl (B d25_33) rfl (l' := #[vr a1, vi i2, vi i3, vi 0, vi (own_gc i9 i13), un]) rfl ?_
        refine sJ X2 hx (B d25_35) rfl ?_
        refine st3 _ ?_
        refine XS.ifNo X3.here hx rfl (B d25_40) rfl ((if0 _ _).trans (feq cc1).1) ?_
        refine XS.iinc X3.here hx rfl (B d25_43) rfl (l' := #[vr a1, vi (i2 + (1 : Int32)), vi i3, vi 0, vi (own_gc i9 i13), un]) rfl ?_
        refine sI X3 hx (B d25_46) rfl ?_
        refine sI X3 hx (B d25_47) rfl ?_
        refine XS.icmpNo X3.here hx rfl (B d25_48) rfl (tlt c23).2.1 ?_
        refine sI X3 hx (B d25_51) rfl ?_
        refine XS.ifYes X3.here hx rfl (pc0 := 52) (pc' := 60) rfl (B d25_52) rfl ((if0 _ _).trans (teq (by decide : (0 : Int32) = (0 : Int32))).1) (by decide) (by decide) ?_
        refine sA X3 hx (B d25_60) rfl rfl ?_
        refine sI X3 hx (B d25_61) rfl ?_
        refine st4 _ ?_
        refine XS.istore X4.here hx rfl (B d25_65) rfl (l' := #[vr a1, vi (i2 + (1 : Int32)), vi i3, vi 0, vi (own_gc i9 i13), vi (own_gc i26 i30)]) rfl ?_
        refine sJ X4 hx (B d25_67) rfl ?_
        refine st5 _ ?_
        refine XS.ifYes X5.here hx rfl (pc0 := 72) (pc' := 83) rfl (B d25_72) rfl ((if0 _ _).trans (teq cc2).1) (by decide) (by decide) ?_
        refine sJ X5 hx (B d25_83) rfl ?_
        exact retI X5 hx hret (B d25_85) hr
    · obtain ⟨_, T6, L6, X6, hQ6, st6⟩ := own_callS X5 hx hZ hown (y := y_28) (w_130 hw) (w_131 hw) (w_114 hw) (w_132 hw) (rm73 l Z hw (own_gc i9 i13) (own_gc i26 i30) h0 n0 Z0) e5 (Ls := #[vr a1, vi (i2 + (1 : Int32)), vi i3, vi 0, vi (own_gc i9 i13), vi (own_gc i26 i30)]) hml.symm (argsL := [(.int (own_gc i9 i13)), (.int (own_gc i26 i30))]) (rest := []) (lenOf pd_21 rfl) (B d25_79) (W := 0)
      obtain ⟨rfl, Nq6, e6⟩ := hQ6
      have N6 := Fr.app N5 Nq6
      refine ⟨T6, _, _, _, (some (.int ((((own_gc i9 i13) <<< ((10 : Int32) &&& 31)) + (own_gc i26 i30)) + (-56613888 : Int32)))), X6, nofun, by decide, by decide, ?_, fun fs hr => ?_⟩
      · rw [e6]
        unfold Q74
        rw [show (own_cp i9 i13 i26 i30) = ((((own_gc i9 i13) <<< ((10 : Int32) &&& 31)) + (own_gc i26 i30)) + (-56613888 : Int32)) from by unfold own_cp; rw [if_neg cc1, if_neg cc2]]
        exact ⟨rfl, N6, rfl⟩
      · refine st1 _ ?_
        refine XS.ifYes X1.here hx rfl (pc0 := 3) (pc' := 19) rfl (B d25_3) rfl ((if0 _ _).trans (feq (by decide : ¬ ((1 : Int32) = (0 : Int32)))).2) (by decide) (by decide) ?_
        refine sI X1 hx (B d25_19) rfl ?_
        refine XS.ifYes X1.here hx rfl (pc0 := 20) (pc' := 28) rfl (B d25_20) rfl ((if0 _ _).trans (teq (by decide : (0 : Int32) = (0 : Int32))).1) (by decide) (by decide) ?_
        refine sA X1 hx (B d25_28) rfl rfl ?_
        refine sI X1 hx (B d25_29) rfl ?_
        refine st2 _ ?_
        refine XS.istore X2.here hx rfl (B d25_33) rfl (l' := #[vr a1, vi i2, vi i3, vi 0, vi (own_gc i9 i13), un]) rfl ?_
        refine sJ X2 hx (B d25_35) rfl ?_
        refine st3 _ ?_
        refine XS.ifNo X3.here hx rfl (B d25_40) rfl ((if0 _ _).trans (feq cc1).1) ?_
        refine XS.iinc X3.here hx rfl (B d25_43) rfl (l' := #[vr a1, vi (i2 + (1 : Int32)), vi i3, vi 0, vi (own_gc i9 i13), un]) rfl ?_
        refine sI X3 hx (B d25_46) rfl ?_
        refine sI X3 hx (B d25_47) rfl ?_
        refine XS.icmpNo X3.here hx rfl (B d25_48) rfl (tlt c23).2.1 ?_
        refine sI X3 hx (B d25_51) rfl ?_
        refine XS.ifYes X3.here hx rfl (pc0 := 52) (pc' := 60) rfl (B d25_52) rfl ((if0 _ _).trans (teq (by decide : (0 : Int32) = (0 : Int32))).1) (by decide) (by decide) ?_
        refine sA X3 hx (B d25_60) rfl rfl ?_
        refine sI X3 hx (B d25_61) rfl ?_
        refine st4 _ ?_
        refine XS.istore X4.here hx rfl (B d25_65) rfl (l' := #[vr a1, vi (i2 + (1 : Int32)), vi i3, vi 0, vi (own_gc i9 i13), vi (own_gc i26 i30)]) rfl ?_
        refine sJ X4 hx (B d25_67) rfl ?_
        refine st5 _ ?_
        refine XS.ifNo X5.here hx rfl (B d25_72) rfl ((if0 _ _).trans (feq cc2).1) ?_
        refine sJ X5 hx (B d25_75) rfl ?_
        refine sJ X5 hx (B d25_77) rfl ?_
        refine st6 _ ?_
        exact retI X6 hx hret (B d25_82) hr
abbrev Rm75 : Room := rmk 2 0 0 30
def Q75 (Z : State) (a1 : Addr) (i2 i3 : Int32) (u4 : List Value) (ck5 : ClassId) (i6 i9 i13 i18 i22 : Int32) (h0 : Heap) (n0 : Nat) (v : Option Value) (h : Heap) (L : List Loc) : Prop := v = some (.int (own_cp i9 i13 i18 i22)) ∧ Fr n0 L ∧ h = h0
theorem rm75 (l : Launch) (Z : State) {a0 : Array Value} (hw : OW a0 Z) (a1 : Addr) (i2 i3 : Int32) (u4 : List Value) (ck5 : ClassId) (i6 i9 i13 i18 i22 : Int32) (h0 : Heap) (n0 : Nat) (Z0 : n0 ≤ h0.size) (S__assertionsDisabled : Sta Z Z.heap "java/lang/StringUTF16" "$assertionsDisabled" "Z" (.int 1)) (Od0 : Old Z n0 h0) (V_a1 : Arv Z h0 a1 ck5 .byte i6 u4 (.int 0)) (c7 : ¬ ((i2 <<< ((1 : Int32) &&& 31)) < 0)) (c8 : (i2 <<< ((1 : Int32) &&& 31)) < i6) (rd10 : u4.getD ((i2 <<< ((1 : Int32) &&& 31))).toNatClampNeg (.int 0) = (.int i9)) (S_HI_BYTE_SHIFT : Sta Z Z.heap "java/lang/StringUTF16" "HI_BYTE_SHIFT" "I" (.int 0)) (c11 : ¬ (((i2 <<< ((1 : Int32) &&& 31)) + (1 : Int32)) < 0)) (c12 : ((i2 <<< ((1 : Int32) &&& 31)) + (1 : Int32)) < i6) (rd14 : u4.getD (((i2 <<< ((1 : Int32) &&& 31)) + (1 : Int32))).toNatClampNeg (.int 0) = (.int i13)) (S_LO_BYTE_SHIFT : Sta Z Z.heap "java/lang/StringUTF16" "LO_BYTE_SHIFT" "I" (.int 8)) (c15 : (i2 + (1 : Int32)) < i3) (c16 : ¬ (((i2 + (1 : Int32)) <<< ((1 : Int32) &&& 31)) < 0)) (c17 : ((i2 + (1 : Int32)) <<< ((1 : Int32) &&& 31)) < i6) (rd19 : u4.getD (((i2 + (1 : Int32)) <<< ((1 : Int32) &&& 31))).toNatClampNeg (.int 0) = (.int i18)) (c20 : ¬ ((((i2 + (1 : Int32)) <<< ((1 : Int32) &&& 31)) + (1 : Int32)) < 0)) (c21 : (((i2 + (1 : Int32)) <<< ((1 : Int32) &&& 31)) + (1 : Int32)) < i6) (rd23 : u4.getD ((((i2 + (1 : Int32)) <<< ((1 : Int32) &&& 31)) + (1 : Int32))).toNatClampNeg (.int 0) = (.int i22)) :
    OwnMet l Z y_24 jdk_52_method_8_code 3 (some .int) [] Rm75 #[(.ref a1), (.int i2), (.int i3)] h0 (Q75 Z a1 i2 i3 u4 ck5 i6 i9 i13 i18 i22 h0 n0) := by
  refine own_body (plainFor_of_name pn_3) (ef_36ebd5 a1 i2 i3) ?_
  intro p e s m below meth c s₁ hx hby hml hown hnm hret hZ X0 e0
  have N0 := Fr.nil n0
  have B := hbx hby
  obtain ⟨_, T1, L1, X1, hQ1, st1⟩ := own_callS X0 hx hZ hown (y := y_23) (w_109 hw) (w_110 hw) (w_55 hw) (w_111 hw) (rm74 l Z hw a1 i2 i3 u4 ck5 i6 i9 i13 i18 i22 h0 n0 Z0 S__assertionsDisabled Od0 V_a1 c7 c8 rd10 S_HI_BYTE_SHIFT c11 c12 rd14 S_LO_BYTE_SHIFT c15 c16 c17 rd19 c20 c21 rd23) e0 (Ls := #[vr a1, vi i2, vi i3]) hml.symm (argsL := [(.ref a1), (.int i2), (.int i3), (.int 0)]) (rest := []) (lenOf pd_19 rfl) (B d24_4) (W := 0)
  obtain ⟨rfl, Nq1, e1⟩ := hQ1
  have N1 := Fr.app N0 Nq1
  refine ⟨T1, _, _, _, (some (.int (own_cp i9 i13 i18 i22))), X1, nofun, by decide, by decide, ?_, fun fs hr => ?_⟩
  · rw [e1]
    exact ⟨rfl, N1, rfl⟩
  · refine sA X0 hx (B d24_0) rfl rfl ?_
    refine sI X0 hx (B d24_1) rfl ?_
    refine sI X0 hx (B d24_2) rfl ?_
    refine sC X0 hx (B d24_3) ?_
    refine st1 _ ?_
    exact retI X1 hx hret (B d24_7) hr
abbrev Rm76 : Room := rmk 3 0 0 44
def Q76 (Z : State) (a1 : Addr) (i2 i3 : Int32) (a5 : Addr) (u6 : List Value) (ck7 : ClassId) (i8 : Int32) (r9 : Value) (i14 i18 i23 i27 : Int32) (h0 : Heap) (n0 : Nat) (v : Option Value) (h : Heap) (L : List Loc) : Prop := v = some (.int (own_cp i14 i18 i23 i27)) ∧ Fr n0 L ∧ h = h0
theorem rm76 (l : Launch) (Z : State) {a0 : Array Value} (hw : OW a0 Z) (a1 : Addr) (i2 i3 : Int32) (a5 : Addr) (u6 : List Value) (ck7 : ClassId) (i8 : Int32) (r9 : Value) (i14 i18 i23 i27 : Int32) (h0 : Heap) (n0 : Nat) (Z0 : n0 ≤ h0.size) (E_a1 : Exa Z h0 a1 jS) (S_COMPACT_STRINGS : Sta Z Z.heap "java/lang/String" "COMPACT_STRINGS" "Z" (.int i3)) (Od0 : Old Z n0 h0) (c4 : ¬ (i3 = 0)) (F_coder_a1 : Fld Z h0 a1 jS "coder" "B" (.int 1)) (F_value_a1 : Fld Z h0 a1 jS "value" "[B" (.ref a5)) (V_a5 : Arv Z h0 a5 ck7 .byte i8 u6 (.int 0)) (R_r9 : r9.isRef = true) (S_SIOOBE_FORMATTER : Sta Z Z.heap "jdk/internal/util/Preconditions" "SIOOBE_FORMATTER" "Ljava/util/function/BiFunction;" r9) (c10 : ¬ (i2 < 0)) (c11 : i2 < (i8 >>> ((1 : Int32) &&& 31))) (S__assertionsDisabled : Sta Z Z.heap "java/lang/StringUTF16" "$assertionsDisabled" "Z" (.int 1)) (c12 : ¬ ((i2 <<< ((1 : Int32) &&& 31)) < 0)) (c13 : (i2 <<< ((1 : Int32) &&& 31)) < i8) (rd15 : u6.getD ((i2 <<< ((1 : Int32) &&& 31))).toNatClampNeg (.int 0) = (.int i14)) (S_HI_BYTE_SHIFT : Sta Z Z.heap "java/lang/StringUTF16" "HI_BYTE_SHIFT" "I" (.int 0)) (c16 : ¬ (((i2 <<< ((1 : Int32) &&& 31)) + (1 : Int32)) < 0)) (c17 : ((i2 <<< ((1 : Int32) &&& 31)) + (1 : Int32)) < i8) (rd19 : u6.getD (((i2 <<< ((1 : Int32) &&& 31)) + (1 : Int32))).toNatClampNeg (.int 0) = (.int i18)) (S_LO_BYTE_SHIFT : Sta Z Z.heap "java/lang/StringUTF16" "LO_BYTE_SHIFT" "I" (.int 8)) (c20 : (i2 + (1 : Int32)) < (i8 >>> ((1 : Int32) &&& 31))) (c21 : ¬ (((i2 + (1 : Int32)) <<< ((1 : Int32) &&& 31)) < 0)) (c22 : ((i2 + (1 : Int32)) <<< ((1 : Int32) &&& 31)) < i8) (rd24 : u6.getD (((i2 + (1 : Int32)) <<< ((1 : Int32) &&& 31))).toNatClampNeg (.int 0) = (.int i23)) (c25 : ¬ ((((i2 + (1 : Int32)) <<< ((1 : Int32) &&& 31)) + (1 : Int32)) < 0)) (c26 : (((i2 + (1 : Int32)) <<< ((1 : Int32) &&& 31)) + (1 : Int32)) < i8) (rd28 : u6.getD ((((i2 + (1 : Int32)) <<< ((1 : Int32) &&& 31)) + (1 : Int32))).toNatClampNeg (.int 0) = (.int i27)) :
    OwnMet l Z y_25 jdk_42_method_57_code 3 (some .int) [] Rm76 #[(.ref a1), (.int i2)] h0 (Q76 Z a1 i2 i3 a5 u6 ck7 i8 r9 i14 i18 i23 i27 h0 n0) := by
  refine own_body (plainFor_of_name pn_1) (ef_3faa85 a1 i2) ?_
  intro p e s m below meth c s₁ hx hby hml hown hnm hret hZ X0 e0
  have N0 := Fr.nil n0
  have B := hbx hby
  obtain ⟨_, T1, L1, X1, hQ1, st1⟩ := own_virtual X0 hx hZ hown (y := y_19) (z := y_19) E_a1 (w_93 hw) (w_94 hw) (own_nf hZ (w_96 hw)) (w_96 hw) (w_95 hw) (w_14 hw) (w_97 hw) (rm29 l Z hw a1 i3 h0 n0 Z0 S_COMPACT_STRINGS Od0 c4 F_coder_a1) e0 (Ls := #[vr a1, vi i2, un]) hml.symm (argsL := []) (rest := []) (lenOf pd_16 rfl) (B d20_1) (W := 0)
  obtain ⟨rfl, Nq1, e1⟩ := hQ1
  have N1 := Fr.app N0 Nq1
  obtain ⟨T2, X2, e2, st2⟩ := getF X1 hx hZ hown (host := "") (Or.inl (w_32 hw)) Via.refl e1 F_value_a1 (g := (mkF m 28 #[vr a1, vi i2, un] [(.ref a1)])) rfl rfl (B d20_28)
  obtain ⟨cl3, Ar3, q3, S3, M3, Hs3, G3⟩ := id V_a5
  obtain ⟨_, T4, L4, X4, hQ4, st4⟩ := own_callS X2 hx hZ hown (y := y_21) (w_98 hw) (w_99 hw) (w_14 hw) (w_100 hw) (rm31 l Z hw i2 (i8 >>> ((1 : Int32) &&& 31)) r9 h0 n0 Z0 R_r9 S_SIOOBE_FORMATTER Od0 c10 c11) e2 (Ls := #[vr a1, vi i2, vi (i8 >>> ((1 : Int32) &&& 31))]) hml.symm (argsL := [(.int i2), (.int (i8 >>> ((1 : Int32) &&& 31)))]) (rest := []) (lenOf pd_18 rfl) (B d20_37) (W := 0)
  obtain ⟨rfl, Nq4, e4⟩ := hQ4
  have N4 := Fr.app N1 Nq4
  obtain ⟨T5, X5, e5, st5⟩ := getF X4 hx hZ hown (host := "") (Or.inl (w_32 hw)) Via.refl e4 F_value_a1 (g := (mkF m 41 #[vr a1, vi i2, vi (i8 >>> ((1 : Int32) &&& 31))] [(.ref a1)])) rfl rfl (B d20_41)
  obtain ⟨_, T6, L6, X6, hQ6, st6⟩ := own_callS X5 hx hZ hown (y := y_24) (w_106 hw) (w_107 hw) (w_55 hw) (w_108 hw) (rm75 l Z hw a5 i2 (i8 >>> ((1 : Int32) &&& 31)) u6 ck7 i8 i14 i18 i23 i27 h0 n0 Z0 S__assertionsDisabled Od0 V_a5 c12 c13 rd15 S_HI_BYTE_SHIFT c16 c17 rd19 S_LO_BYTE_SHIFT c20 c21 c22 rd24 c25 c26 rd28) e5 (Ls := #[vr a1, vi i2, vi (i8 >>> ((1 : Int32) &&& 31))]) hml.symm (argsL := [(.ref a5), (.int i2), (.int (i8 >>> ((1 : Int32) &&& 31)))]) (rest := []) (lenOf pd_20 rfl) (B d20_46) (W := 0)
  obtain ⟨rfl, Nq6, e6⟩ := hQ6
  have N6 := Fr.app N4 Nq6
  refine ⟨T6, _, _, _, (some (.int (own_cp i14 i18 i23 i27))), X6, nofun, by decide, by decide, ?_, fun fs hr => ?_⟩
  · rw [e6]
    exact ⟨rfl, N6, rfl⟩
  · refine sA X0 hx (B d20_0) rfl rfl ?_
    refine st1 _ ?_
    refine XS.ifYes X1.here hx rfl (pc0 := 4) (pc' := 27) rfl (B d20_4) rfl ((if0 _ _).trans (teq (by decide : (0 : Int32) = (0 : Int32))).1) (by decide) (by decide) ?_
    refine sA X1 hx (B d20_27) rfl rfl ?_
    refine st2 _ ?_
    refine X2.arraylength hx (by rw [e2]; exact Ar3.1) (State.isArrayOf_alike hZ.alike Ar3.2.1) (g := (mkF m 31 #[vr a1, vi i2, un] [(.ref a5)])) rfl rfl (B d20_31) _ ?_
    show Steps p.tables e below (T2.setTop (mkF m 32 #[vr a1, vi i2, un] [(.int cl3.slots.size.toInt32)])) _
    rw [len_of S3 M3]
    refine sC X2 hx (B d20_32) ?_
    refine XS.ishr X2.here hx rfl (B d20_33) rfl ?_
    refine XS.istoreN X2.here hx rfl (B d20_34) rfl (l' := #[vr a1, vi i2, vi (i8 >>> ((1 : Int32) &&& 31))]) rfl ?_
    refine sI X2 hx (B d20_35) rfl ?_
    refine sI X2 hx (B d20_36) rfl ?_
    refine st4 _ ?_
    refine sA X4 hx (B d20_40) rfl rfl ?_
    refine st5 _ ?_
    refine sI X5 hx (B d20_44) rfl ?_
    refine sI X5 hx (B d20_45) rfl ?_
    refine st6 _ ?_
    exact retI X6 hx hret (B d20_49) hr
theorem d27_6 : decode Kc27 6 = .ok (.iconst 2, 1) := by decide +kernel
theorem d27_7 : decode Kc27 7 = .ok (.goto 4, 3) := by decide +kernel
abbrev Rm77 : Room := rmk 0 0 0 0
def Q77 (Z : State) (i1 : Int32) (h0 : Heap) (n0 : Nat) (v : Option Value) (h : Heap) (L : List Loc) : Prop := v = some (.int 2) ∧ Fr n0 L ∧ h = h0
theorem rm77 (l : Launch) (Z : State) {a0 : Array Value} (hw : OW a0 Z) (i1 : Int32) (h0 : Heap) (n0 : Nat) (Z0 : n0 ≤ h0.size) (c2 : ¬ (i1 < 65536)) :
    OwnMet l Z y_26 jdk_89_method_18_code 1 (some .int) [] Rm77 #[(.int i1)] h0 (Q77 Z i1 h0 n0) := by
  refine own_body (plainFor_of_name pn_5) (ef_53da61 i1) ?_
  intro p e s m below meth c s₁ hx hby hml hown hnm hret hZ X0 e0
  have N0 := Fr.nil n0
  have B := hbx hby
  refine ⟨s₁, _, _, _, (some (.int 2)), X0, nofun, by decide, by decide, ?_, fun fs hr => ?_⟩
  · rw [e0]
    exact ⟨rfl, N0, rfl⟩
  · refine sI X0 hx (B d27_0) rfl ?_
    refine X0.ldcInt hx hown (mvT hZ (w_121 hw)) (g := (mkF m 1 #[vi i1] [(.int i1)])) rfl (B d27_1) _ ?_
    refine XS.icmpNo X0.here hx rfl (B d27_3) rfl (flt c2).1 ?_
    refine sC X0 hx (B d27_6) ?_
    refine XS.goto X0.here hx rfl (pc0 := 7) (pc' := 11) rfl (B d27_7) (by decide) (by decide) ?_
    exact retI X0 hx hret (B d27_11) hr
def own_tc1 (v0 v1 v2 v3 : Int32) : Int32 := (if (own_cp v0 v1 v2 v3) < 55296 then (if (own_cp v0 v1 v2 v3) < 65536 then (0 : Int32) else (1 : Int32)) else (if 57343 < (own_cp v0 v1 v2 v3) then (if (own_cp v0 v1 v2 v3) < 65536 then (0 : Int32) else (1 : Int32)) else (2 : Int32)))
theorem tn78 (l : Launch) (Z : State) {a0 : Array Value} (hw : OW a0 Z) (a1 : Addr) (i2 : Int32) (o2 : Slot) (a3 : Addr) (u4 : List Value) (ck5 : ClassId) (i6 i7 : Int32) (r10 : Value) (i14 i18 i23 i27 : Int32) (h0 : Heap) (n0 : Nat) (Z0 : n0 ≤ h0.size) (ho2 : o2 = .unset ∨ ∃ x, o2 = .val (.int x)) (E_a1 : Exa Z h0 a1 jS) (F_value_a1 : Fld Z h0 a1 jS "value" "[B" (.ref a3)) (V_a3 : Arv Z h0 a3 ck5 .byte i6 u4 (.int 0)) (S_COMPACT_STRINGS : Sta Z Z.heap "java/lang/String" "COMPACT_STRINGS" "Z" (.int i7)) (Od0 : Old Z n0 h0) (c8 : ¬ (i7 = 0)) (F_coder_a1 : Fld Z h0 a1 jS "coder" "B" (.int 1)) (c9 : i2 < (i6 >>> ((1 : Int32) &&& 31))) (R_r10 : r10.isRef = true) (S_SIOOBE_FORMATTER : Sta Z Z.heap "jdk/internal/util/Preconditions" "SIOOBE_FORMATTER" "Ljava/util/function/BiFunction;" r10) (c11 : ¬ (i2 < 0)) (S__assertionsDisabled : Sta Z Z.heap "java/lang/StringUTF16" "$assertionsDisabled" "Z" (.int 1)) (c12 : ¬ ((i2 <<< ((1 : Int32) &&& 31)) < 0)) (c13 : (i2 <<< ((1 : Int32) &&& 31)) < i6) (rd15 : u4.getD ((i2 <<< ((1 : Int32) &&& 31))).toNatClampNeg (.int 0) = (.int i14)) (S_HI_BYTE_SHIFT : Sta Z Z.heap "java/lang/StringUTF16" "HI_BYTE_SHIFT" "I" (.int 0)) (c16 : ¬ (((i2 <<< ((1 : Int32) &&& 31)) + (1 : Int32)) < 0)) (c17 : ((i2 <<< ((1 : Int32) &&& 31)) + (1 : Int32)) < i6) (rd19 : u4.getD (((i2 <<< ((1 : Int32) &&& 31)) + (1 : Int32))).toNatClampNeg (.int 0) = (.int i18)) (S_LO_BYTE_SHIFT : Sta Z Z.heap "java/lang/StringUTF16" "LO_BYTE_SHIFT" "I" (.int 8)) (c20 : (i2 + (1 : Int32)) < (i6 >>> ((1 : Int32) &&& 31))) (c21 : ¬ (((i2 + (1 : Int32)) <<< ((1 : Int32) &&& 31)) < 0)) (c22 : ((i2 + (1 : Int32)) <<< ((1 : Int32) &&& 31)) < i6) (rd24 : u4.getD (((i2 + (1 : Int32)) <<< ((1 : Int32) &&& 31))).toNatClampNeg (.int 0) = (.int i23)) (c25 : ¬ ((((i2 + (1 : Int32)) <<< ((1 : Int32) &&& 31)) + (1 : Int32)) < 0)) (c26 : (((i2 + (1 : Int32)) <<< ((1 : Int32) &&& 31)) + (1 : Int32)) < i6) (rd28 : u4.getD ((((i2 + (1 : Int32)) <<< ((1 : Int32) &&& 31)) + (1 : Int32))).toNatClampNeg (.int 0) = (.int i27)) (c125 : (own_tc1 i14 i18 i23 i27) = 0) {p : Program} {e : Env} {s : State} {m : MethodId} {args : Array Value} {below : List Frame} {meth : Method} {c : Code} {s₁ : State} {L0 : List Loc} {ce sl : Nat} (hx : p.tables.exec = Jvm.exec) (hby : c.code = prog_10_method_10_code) (hml : c.maxLocals = 3) (hown : s.vm.findClass "com/example/sidwire/sidwire/cbor/CborWriter" = some m.cls) (hZ : Z.Warmed39 s.vm) (X0 : Stand p l e RmT7 s m args below meth c s₁ L0 ce sl) (e0 : s₁.heap = h0) (N0 : Fr n0 L0) (hce : ce ≤ RmT7.cells) (hsl : sl ≤ RmT7.slots) :
    ∃ (T : State) (L : List Loc), Stand p l e RmT7 s m args below meth c T L ce sl ∧ T.heap = h0 ∧ Fr n0 L ∧ ∀ target, Steps p.tables e below (T.setTop (mkF m 2 #[vr a1, vi (i2 + (1 : Int32)), vi (own_cp i14 i18 i23 i27)] [])) target → Steps p.tables e below (s₁.setTop (mkF m 2 #[vr a1, vi i2, o2] [])) target := by
  have B := hbx hby
  obtain ⟨_, T1, L1, X1, hQ1, st1⟩ := own_virtual X0 hx hZ hown (y := y_7) (z := y_7) E_a1 (w_41 hw) (w_42 hw) (own_nf hZ (w_44 hw)) (w_44 hw) (w_43 hw) (w_14 hw) (w_45 hw) (rm28 l Z hw a1 a3 u4 ck5 i6 i7 h0 n0 Z0 F_value_a1 V_a3 E_a1 S_COMPACT_STRINGS Od0 c8 F_coder_a1) e0 (Ls := #[vr a1, vi i2, o2]) hml.symm (argsL := []) (rest := [(.int i2)]) (lenOf pd_6 rfl) (B d7_4) (W := 1) (hc := hce) (hs := hsl)
  obtain ⟨rfl, Nq1, e1⟩ := hQ1
  have N1 := Fr.app N0 Nq1
  obtain ⟨_, T2, L2, X2, hQ2, st2⟩ := own_virtual X1 hx hZ hown (y := y_25) (z := y_25) E_a1 (w_88 hw) (w_89 hw) (own_nf hZ (w_91 hw)) (w_91 hw) (w_90 hw) (w_14 hw) (w_92 hw) (rm76 l Z hw a1 i2 i7 a3 u4 ck5 i6 r10 i14 i18 i23 i27 h0 n0 Z0 E_a1 S_COMPACT_STRINGS Od0 c8 F_coder_a1 F_value_a1 V_a3 R_r10 S_SIOOBE_FORMATTER c11 c9 S__assertionsDisabled c12 c13 rd15 S_HI_BYTE_SHIFT c16 c17 rd19 S_LO_BYTE_SHIFT c20 c21 c22 rd24 c25 c26 rd28) e1 (Ls := #[vr a1, vi i2, o2]) hml.symm (argsL := [(.int i2)]) (rest := []) (lenOf pd_9 rfl) (B d7_12) (W := 0) (hc := hce) (hs := hsl)
  obtain ⟨rfl, Nq2, e2⟩ := hQ2
  have N2 := Fr.app N1 Nq2
  by_cases cc1 : (own_cp i14 i18 i23 i27) < 55296
  · by_cases cc2 : (own_cp i14 i18 i23 i27) < 65536
    · obtain ⟨_, T3, L3, X3, hQ3, st3⟩ := own_callS X2 hx hZ hown (y := y_26) (w_118 hw) (w_119 hw) (w_114 hw) (w_120 hw) (rm40 l Z hw (own_cp i14 i18 i23 i27) h0 n0 Z0 cc2) e2 (Ls := #[vr a1, vi i2, vi (own_cp i14 i18 i23 i27)]) hml.symm (argsL := [(.int (own_cp i14 i18 i23 i27))]) (rest := [(.int i2)]) (lenOf pd_9 rfl) (B d7_32) (W := 1) (hc := hce) (hs := hsl)
      obtain ⟨rfl, Nq3, e3⟩ := hQ3
      have N3 := Fr.app N2 Nq3
      refine ⟨T3, _, X3, e3, N3, fun target hr => ?_⟩
      rcases ho2 with rfl | ⟨_, rfl⟩
      all_goals
        refine sI X0 hx (B d7_2) rfl ?_
        refine sA X0 hx (B d7_3) rfl rfl ?_
        refine st1 _ ?_
        refine XS.icmpNo X1.here hx rfl (B d7_7) rfl (tlt c9).2.1 ?_
        refine sA X1 hx (B d7_10) rfl rfl ?_
        refine sI X1 hx (B d7_11) rfl ?_
        refine st2 _ ?_
        refine XS.istoreN X2.here hx rfl (B d7_15) rfl (l' := #[vr a1, vi i2, vi (own_cp i14 i18 i23 i27)]) rfl ?_
        refine sI X2 hx (B d7_16) rfl ?_
        refine X2.ldcInt hx hown (mvT hZ (w_117 hw)) (g := (mkF m 17 #[vr a1, vi i2, vi (own_cp i14 i18 i23 i27)] [(.int (own_cp i14 i18 i23 i27))])) rfl (B d7_17) _ ?_
        refine XS.icmpYes X2.here hx rfl (pc0 := 19) (pc' := 30) rfl (B d7_19) rfl (tlt cc1).1 (by decide) (by decide) ?_
        refine sI X2 hx (B d7_30) rfl ?_
        refine sI X2 hx (B d7_31) rfl ?_
        refine st3 _ ?_
        refine XS.iadd X3.here hx rfl (B d7_35) rfl ?_
        refine XS.istoreN X3.here hx rfl (B d7_36) rfl (l' := #[vr a1, vi (i2 + (1 : Int32)), vi (own_cp i14 i18 i23 i27)]) rfl ?_
        refine XS.goto X3.here hx rfl (pc0 := 37) (pc' := 2) rfl (B d7_37) (by decide) (by decide) ?_
        exact hr
    · exact absurd c125 (by unfold own_tc1; rw [if_pos cc1, if_neg cc2]; decide)
  · by_cases cc2 : 57343 < (own_cp i14 i18 i23 i27)
    · by_cases cc3 : (own_cp i14 i18 i23 i27) < 65536
      · obtain ⟨_, T3, L3, X3, hQ3, st3⟩ := own_callS X2 hx hZ hown (y := y_26) (w_118 hw) (w_119 hw) (w_114 hw) (w_120 hw) (rm40 l Z hw (own_cp i14 i18 i23 i27) h0 n0 Z0 cc3) e2 (Ls := #[vr a1, vi i2, vi (own_cp i14 i18 i23 i27)]) hml.symm (argsL := [(.int (own_cp i14 i18 i23 i27))]) (rest := [(.int i2)]) (lenOf pd_9 rfl) (B d7_32) (W := 1) (hc := hce) (hs := hsl)
        obtain ⟨rfl, Nq3, e3⟩ := hQ3
        have N3 := Fr.app N2 Nq3
        refine ⟨T3, _, X3, e3, N3, fun target hr => ?_⟩
        rcases ho2 with rfl | ⟨_, rfl⟩
        all_goals
          refine sI X0 hx (B d7_2) rfl ?_
          refine sA X0 hx (B d7_3) rfl rfl ?_
          refine st1 _ ?_
          refine XS.icmpNo X1.here hx rfl (B d7_7) rfl (tlt c9).2.1 ?_
          refine sA X1 hx (B d7_10) rfl rfl ?_
          refine sI X1 hx (B d7_11) rfl ?_
          refine st2 _ ?_
          refine XS.istoreN X2.here hx rfl (B d7_15) rfl (l' := #[vr a1, vi i2, vi (own_cp i14 i18 i23 i27)]) rfl ?_
          refine sI X2 hx (B d7_16) rfl ?_
          refine X2.ldcInt hx hown (mvT hZ (w_117 hw)) (g := (mkF m 17 #[vr a1, vi i2, vi (own_cp i14 i18 i23 i27)] [(.int (own_cp i14 i18 i23 i27))])) rfl (B d7_17) _ ?_
          refine XS.icmpNo X2.here hx rfl (B d7_19) rfl (flt cc1).1 ?_
          refine sI X2 hx (B d7_22) rfl ?_
          refine X2.ldcInt hx hown (mvT hZ (w_125 hw)) (g := (mkF m 23 #[vr a1, vi i2, vi (own_cp i14 i18 i23 i27)] [(.int (own_cp i14 i18 i23 i27))])) rfl (B d7_23) _ ?_
          refine XS.icmpYes X2.here hx rfl (pc0 := 25) (pc' := 30) rfl (B d7_25) rfl (tlt cc2).2.2.1 (by decide) (by decide) ?_
          refine sI X2 hx (B d7_30) rfl ?_
          refine sI X2 hx (B d7_31) rfl ?_
          refine st3 _ ?_
          refine XS.iadd X3.here hx rfl (B d7_35) rfl ?_
          refine XS.istoreN X3.here hx rfl (B d7_36) rfl (l' := #[vr a1, vi (i2 + (1 : Int32)), vi (own_cp i14 i18 i23 i27)]) rfl ?_
          refine XS.goto X3.here hx rfl (pc0 := 37) (pc' := 2) rfl (B d7_37) (by decide) (by decide) ?_
          exact hr
      · exact absurd c125 (by unfold own_tc1; rw [if_neg cc1, if_pos cc2, if_neg cc3]; decide)
    · exact absurd c125 (by unfold own_tc1; rw [if_neg cc1, if_neg cc2]; decide)
theorem tn79 (l : Launch) (Z : State) {a0 : Array Value} (hw : OW a0 Z) (a1 : Addr) (i2 : Int32) (o2 : Slot) (a3 : Addr) (u4 : List Value) (ck5 : ClassId) (i6 i7 : Int32) (r10 : Value) (i14 i18 i23 i27 : Int32) (h0 : Heap) (n0 : Nat) (Z0 : n0 ≤ h0.size) (ho2 : o2 = .unset ∨ ∃ x, o2 = .val (.int x)) (E_a1 : Exa Z h0 a1 jS) (F_value_a1 : Fld Z h0 a1 jS "value" "[B" (.ref a3)) (V_a3 : Arv Z h0 a3 ck5 .byte i6 u4 (.int 0)) (S_COMPACT_STRINGS : Sta Z Z.heap "java/lang/String" "COMPACT_STRINGS" "Z" (.int i7)) (Od0 : Old Z n0 h0) (c8 : ¬ (i7 = 0)) (F_coder_a1 : Fld Z h0 a1 jS "coder" "B" (.int 1)) (c9 : i2 < (i6 >>> ((1 : Int32) &&& 31))) (R_r10 : r10.isRef = true) (S_SIOOBE_FORMATTER : Sta Z Z.heap "jdk/internal/util/Preconditions" "SIOOBE_FORMATTER" "Ljava/util/function/BiFunction;" r10) (c11 : ¬ (i2 < 0)) (S__assertionsDisabled : Sta Z Z.heap "java/lang/StringUTF16" "$assertionsDisabled" "Z" (.int 1)) (c12 : ¬ ((i2 <<< ((1 : Int32) &&& 31)) < 0)) (c13 : (i2 <<< ((1 : Int32) &&& 31)) < i6) (rd15 : u4.getD ((i2 <<< ((1 : Int32) &&& 31))).toNatClampNeg (.int 0) = (.int i14)) (S_HI_BYTE_SHIFT : Sta Z Z.heap "java/lang/StringUTF16" "HI_BYTE_SHIFT" "I" (.int 0)) (c16 : ¬ (((i2 <<< ((1 : Int32) &&& 31)) + (1 : Int32)) < 0)) (c17 : ((i2 <<< ((1 : Int32) &&& 31)) + (1 : Int32)) < i6) (rd19 : u4.getD (((i2 <<< ((1 : Int32) &&& 31)) + (1 : Int32))).toNatClampNeg (.int 0) = (.int i18)) (S_LO_BYTE_SHIFT : Sta Z Z.heap "java/lang/StringUTF16" "LO_BYTE_SHIFT" "I" (.int 8)) (c20 : (i2 + (1 : Int32)) < (i6 >>> ((1 : Int32) &&& 31))) (c21 : ¬ (((i2 + (1 : Int32)) <<< ((1 : Int32) &&& 31)) < 0)) (c22 : ((i2 + (1 : Int32)) <<< ((1 : Int32) &&& 31)) < i6) (rd24 : u4.getD (((i2 + (1 : Int32)) <<< ((1 : Int32) &&& 31))).toNatClampNeg (.int 0) = (.int i23)) (c25 : ¬ ((((i2 + (1 : Int32)) <<< ((1 : Int32) &&& 31)) + (1 : Int32)) < 0)) (c26 : (((i2 + (1 : Int32)) <<< ((1 : Int32) &&& 31)) + (1 : Int32)) < i6) (rd28 : u4.getD ((((i2 + (1 : Int32)) <<< ((1 : Int32) &&& 31)) + (1 : Int32))).toNatClampNeg (.int 0) = (.int i27)) (c125 : ¬ ((own_tc1 i14 i18 i23 i27) = 0)) (c126 : (own_tc1 i14 i18 i23 i27) = 1) {p : Program} {e : Env} {s : State} {m : MethodId} {args : Array Value} {below : List Frame} {meth : Method} {c : Code} {s₁ : State} {L0 : List Loc} {ce sl : Nat} (hx : p.tables.exec = Jvm.exec) (hby : c.code = prog_10_method_10_code) (hml : c.maxLocals = 3) (hown : s.vm.findClass "com/example/sidwire/sidwire/cbor/CborWriter" = some m.cls) (hZ : Z.Warmed39 s.vm) (X0 : Stand p l e RmT7 s m args below meth c s₁ L0 ce sl) (e0 : s₁.heap = h0) (N0 : Fr n0 L0) (hce : ce ≤ RmT7.cells) (hsl : sl ≤ RmT7.slots) :
    ∃ (T : State) (L : List Loc), Stand p l e RmT7 s m args below meth c T L ce sl ∧ T.heap = h0 ∧ Fr n0 L ∧ ∀ target, Steps p.tables e below (T.setTop (mkF m 2 #[vr a1, vi (i2 + (2 : Int32)), vi (own_cp i14 i18 i23 i27)] [])) target → Steps p.tables e below (s₁.setTop (mkF m 2 #[vr a1, vi i2, o2] [])) target := by
  have B := hbx hby
  obtain ⟨_, T1, L1, X1, hQ1, st1⟩ := own_virtual X0 hx hZ hown (y := y_7) (z := y_7) E_a1 (w_41 hw) (w_42 hw) (own_nf hZ (w_44 hw)) (w_44 hw) (w_43 hw) (w_14 hw) (w_45 hw) (rm28 l Z hw a1 a3 u4 ck5 i6 i7 h0 n0 Z0 F_value_a1 V_a3 E_a1 S_COMPACT_STRINGS Od0 c8 F_coder_a1) e0 (Ls := #[vr a1, vi i2, o2]) hml.symm (argsL := []) (rest := [(.int i2)]) (lenOf pd_6 rfl) (B d7_4) (W := 1) (hc := hce) (hs := hsl)
  obtain ⟨rfl, Nq1, e1⟩ := hQ1
  have N1 := Fr.app N0 Nq1
  obtain ⟨_, T2, L2, X2, hQ2, st2⟩ := own_virtual X1 hx hZ hown (y := y_25) (z := y_25) E_a1 (w_88 hw) (w_89 hw) (own_nf hZ (w_91 hw)) (w_91 hw) (w_90 hw) (w_14 hw) (w_92 hw) (rm76 l Z hw a1 i2 i7 a3 u4 ck5 i6 r10 i14 i18 i23 i27 h0 n0 Z0 E_a1 S_COMPACT_STRINGS Od0 c8 F_coder_a1 F_value_a1 V_a3 R_r10 S_SIOOBE_FORMATTER c11 c9 S__assertionsDisabled c12 c13 rd15 S_HI_BYTE_SHIFT c16 c17 rd19 S_LO_BYTE_SHIFT c20 c21 c22 rd24 c25 c26 rd28) e1 (Ls := #[vr a1, vi i2, o2]) hml.symm (argsL := [(.int i2)]) (rest := []) (lenOf pd_9 rfl) (B d7_12) (W := 0) (hc := hce) (hs := hsl)
  obtain ⟨rfl, Nq2, e2⟩ := hQ2
  have N2 := Fr.app N1 Nq2
  by_cases cc1 : (own_cp i14 i18 i23 i27) < 55296
  · by_cases cc2 : (own_cp i14 i18 i23 i27) < 65536
    · exact absurd c126 (by unfold own_tc1; rw [if_pos cc1, if_pos cc2]; decide)
    · obtain ⟨_, T3, L3, X3, hQ3, st3⟩ := own_callS X2 hx hZ hown (y := y_26) (w_118 hw) (w_119 hw) (w_114 hw) (w_120 hw) (rm77 l Z hw (own_cp i14 i18 i23 i27) h0 n0 Z0 cc2) e2 (Ls := #[vr a1, vi i2, vi (own_cp i14 i18 i23 i27)]) hml.symm (argsL := [(.int (own_cp i14 i18 i23 i27))]) (rest := [(.int i2)]) (lenOf pd_9 rfl) (B d7_32) (W := 1) (hc := hce) (hs := hsl)
      obtain ⟨rfl, Nq3, e3⟩ := hQ3
      have N3 := Fr.app N2 Nq3
      refine ⟨T3, _, X3, e3, N3, fun target hr => ?_⟩
      rcases ho2 with rfl | ⟨_, rfl⟩
      all_goals
        refine sI X0 hx (B d7_2) rfl ?_
        refine sA X0 hx (B d7_3) rfl rfl ?_
        refine st1 _ ?_
        refine XS.icmpNo X1.here hx rfl (B d7_7) rfl (tlt c9).2.1 ?_
        refine sA X1 hx (B d7_10) rfl rfl ?_
        refine sI X1 hx (B d7_11) rfl ?_
        refine st2 _ ?_
        refine XS.istoreN X2.here hx rfl (B d7_15) rfl (l' := #[vr a1, vi i2, vi (own_cp i14 i18 i23 i27)]) rfl ?_
        refine sI X2 hx (B d7_16) rfl ?_
        refine X2.ldcInt hx hown (mvT hZ (w_117 hw)) (g := (mkF m 17 #[vr a1, vi i2, vi (own_cp i14 i18 i23 i27)] [(.int (own_cp i14 i18 i23 i27))])) rfl (B d7_17) _ ?_
        refine XS.icmpYes X2.here hx rfl (pc0 := 19) (pc' := 30) rfl (B d7_19) rfl (tlt cc1).1 (by decide) (by decide) ?_
        refine sI X2 hx (B d7_30) rfl ?_
        refine sI X2 hx (B d7_31) rfl ?_
        refine st3 _ ?_
        refine XS.iadd X3.here hx rfl (B d7_35) rfl ?_
        refine XS.istoreN X3.here hx rfl (B d7_36) rfl (l' := #[vr a1, vi (i2 + (2 : Int32)), vi (own_cp i14 i18 i23 i27)]) rfl ?_
        refine XS.goto X3.here hx rfl (pc0 := 37) (pc' := 2) rfl (B d7_37) (by decide) (by decide) ?_
        exact hr
  · by_cases cc2 : 57343 < (own_cp i14 i18 i23 i27)
    · by_cases cc3 : (own_cp i14 i18 i23 i27) < 65536
      · exact absurd c126 (by unfold own_tc1; rw [if_neg cc1, if_pos cc2, if_pos cc3]; decide)
      · obtain ⟨_, T3, L3, X3, hQ3, st3⟩ := own_callS X2 hx hZ hown (y := y_26) (w_118 hw) (w_119 hw) (w_114 hw) (w_120 hw) (rm77 l Z hw (own_cp i14 i18 i23 i27) h0 n0 Z0 cc3) e2 (Ls := #[vr a1, vi i2, vi (own_cp i14 i18 i23 i27)]) hml.symm (argsL := [(.int (own_cp i14 i18 i23 i27))]) (rest := [(.int i2)]) (lenOf pd_9 rfl) (B d7_32) (W := 1) (hc := hce) (hs := hsl)
        obtain ⟨rfl, Nq3, e3⟩ := hQ3
        have N3 := Fr.app N2 Nq3
        refine ⟨T3, _, X3, e3, N3, fun target hr => ?_⟩
        rcases ho2 with rfl | ⟨_, rfl⟩
        all_goals
          refine sI X0 hx (B d7_2) rfl ?_
          refine sA X0 hx (B d7_3) rfl rfl ?_
          refine st1 _ ?_
          refine XS.icmpNo X1.here hx rfl (B d7_7) rfl (tlt c9).2.1 ?_
          refine sA X1 hx (B d7_10) rfl rfl ?_
          refine sI X1 hx (B d7_11) rfl ?_
          refine st2 _ ?_
          refine XS.istoreN X2.here hx rfl (B d7_15) rfl (l' := #[vr a1, vi i2, vi (own_cp i14 i18 i23 i27)]) rfl ?_
          refine sI X2 hx (B d7_16) rfl ?_
          refine X2.ldcInt hx hown (mvT hZ (w_117 hw)) (g := (mkF m 17 #[vr a1, vi i2, vi (own_cp i14 i18 i23 i27)] [(.int (own_cp i14 i18 i23 i27))])) rfl (B d7_17) _ ?_
          refine XS.icmpNo X2.here hx rfl (B d7_19) rfl (flt cc1).1 ?_
          refine sI X2 hx (B d7_22) rfl ?_
          refine X2.ldcInt hx hown (mvT hZ (w_125 hw)) (g := (mkF m 23 #[vr a1, vi i2, vi (own_cp i14 i18 i23 i27)] [(.int (own_cp i14 i18 i23 i27))])) rfl (B d7_23) _ ?_
          refine XS.icmpYes X2.here hx rfl (pc0 := 25) (pc' := 30) rfl (B d7_25) rfl (tlt cc2).2.2.1 (by decide) (by decide) ?_
          refine sI X2 hx (B d7_30) rfl ?_
          refine sI X2 hx (B d7_31) rfl ?_
          refine st3 _ ?_
          refine XS.iadd X3.here hx rfl (B d7_35) rfl ?_
          refine XS.istoreN X3.here hx rfl (B d7_36) rfl (l' := #[vr a1, vi (i2 + (2 : Int32)), vi (own_cp i14 i18 i23 i27)]) rfl ?_
          refine XS.goto X3.here hx rfl (pc0 := 37) (pc' := 2) rfl (B d7_37) (by decide) (by decide) ?_
          exact hr
    · exact absurd c126 (by unfold own_tc1; rw [if_neg cc1, if_neg cc2]; decide)
theorem tn80 (l : Launch) (Z : State) {a0 : Array Value} (hw : OW a0 Z) (a1 : Addr) (i2 : Int32) (o2 : Slot) (a3 : Addr) (u4 : List Value) (ck5 : ClassId) (i6 i7 : Int32) (r10 : Value) (i14 i18 i23 i27 : Int32) (h0 : Heap) (n0 : Nat) (Z0 : n0 ≤ h0.size) (ho2 : o2 = .unset ∨ ∃ x, o2 = .val (.int x)) (E_a1 : Exa Z h0 a1 jS) (F_value_a1 : Fld Z h0 a1 jS "value" "[B" (.ref a3)) (V_a3 : Arv Z h0 a3 ck5 .byte i6 u4 (.int 0)) (S_COMPACT_STRINGS : Sta Z Z.heap "java/lang/String" "COMPACT_STRINGS" "Z" (.int i7)) (Od0 : Old Z n0 h0) (c8 : ¬ (i7 = 0)) (F_coder_a1 : Fld Z h0 a1 jS "coder" "B" (.int 1)) (c9 : i2 < (i6 >>> ((1 : Int32) &&& 31))) (R_r10 : r10.isRef = true) (S_SIOOBE_FORMATTER : Sta Z Z.heap "jdk/internal/util/Preconditions" "SIOOBE_FORMATTER" "Ljava/util/function/BiFunction;" r10) (c11 : ¬ (i2 < 0)) (S__assertionsDisabled : Sta Z Z.heap "java/lang/StringUTF16" "$assertionsDisabled" "Z" (.int 1)) (c12 : ¬ ((i2 <<< ((1 : Int32) &&& 31)) < 0)) (c13 : (i2 <<< ((1 : Int32) &&& 31)) < i6) (rd15 : u4.getD ((i2 <<< ((1 : Int32) &&& 31))).toNatClampNeg (.int 0) = (.int i14)) (S_HI_BYTE_SHIFT : Sta Z Z.heap "java/lang/StringUTF16" "HI_BYTE_SHIFT" "I" (.int 0)) (c16 : ¬ (((i2 <<< ((1 : Int32) &&& 31)) + (1 : Int32)) < 0)) (c17 : ((i2 <<< ((1 : Int32) &&& 31)) + (1 : Int32)) < i6) (rd19 : u4.getD (((i2 <<< ((1 : Int32) &&& 31)) + (1 : Int32))).toNatClampNeg (.int 0) = (.int i18)) (S_LO_BYTE_SHIFT : Sta Z Z.heap "java/lang/StringUTF16" "LO_BYTE_SHIFT" "I" (.int 8)) (c20 : (i2 + (1 : Int32)) < (i6 >>> ((1 : Int32) &&& 31))) (c21 : ¬ (((i2 + (1 : Int32)) <<< ((1 : Int32) &&& 31)) < 0)) (c22 : ((i2 + (1 : Int32)) <<< ((1 : Int32) &&& 31)) < i6) (rd24 : u4.getD (((i2 + (1 : Int32)) <<< ((1 : Int32) &&& 31))).toNatClampNeg (.int 0) = (.int i23)) (c25 : ¬ ((((i2 + (1 : Int32)) <<< ((1 : Int32) &&& 31)) + (1 : Int32)) < 0)) (c26 : (((i2 + (1 : Int32)) <<< ((1 : Int32) &&& 31)) + (1 : Int32)) < i6) (rd28 : u4.getD ((((i2 + (1 : Int32)) <<< ((1 : Int32) &&& 31)) + (1 : Int32))).toNatClampNeg (.int 0) = (.int i27)) (c125 : ¬ ((own_tc1 i14 i18 i23 i27) = 0)) (c126 : ¬ ((own_tc1 i14 i18 i23 i27) = 1)) {p : Program} {e : Env} {s : State} {m : MethodId} {args : Array Value} {below : List Frame} {meth : Method} {c : Code} {s₁ : State} {L0 : List Loc} {ce sl : Nat} (hx : p.tables.exec = Jvm.exec) (hby : c.code = prog_10_method_10_code) (hml : c.maxLocals = 3) (hown : s.vm.findClass "com/example/sidwire/sidwire/cbor/CborWriter" = some m.cls) (hZ : Z.Warmed39 s.vm) (X0 : Stand p l e RmT7 s m args below meth c s₁ L0 ce sl) (e0 : s₁.heap = h0) (N0 : Fr n0 L0) (hce : ce ≤ RmT7.cells) (hsl : sl ≤ RmT7.slots) :
    ∃ (T : State) (L : List Loc), Stand p l e RmT7 s m args below meth c T L ce sl ∧ T.heap = h0 ∧ Fr n0 L ∧ ∀ target, Steps p.tables e below (T.setTop (mkF m 28 #[vr a1, vi i2, vi (own_cp i14 i18 i23 i27)] [])) target → Steps p.tables e below (s₁.setTop (mkF m 2 #[vr a1, vi i2, o2] [])) target := by
  have B := hbx hby
  obtain ⟨_, T1, L1, X1, hQ1, st1⟩ := own_virtual X0 hx hZ hown (y := y_7) (z := y_7) E_a1 (w_41 hw) (w_42 hw) (own_nf hZ (w_44 hw)) (w_44 hw) (w_43 hw) (w_14 hw) (w_45 hw) (rm28 l Z hw a1 a3 u4 ck5 i6 i7 h0 n0 Z0 F_value_a1 V_a3 E_a1 S_COMPACT_STRINGS Od0 c8 F_coder_a1) e0 (Ls := #[vr a1, vi i2, o2]) hml.symm (argsL := []) (rest := [(.int i2)]) (lenOf pd_6 rfl) (B d7_4) (W := 1) (hc := hce) (hs := hsl)
  obtain ⟨rfl, Nq1, e1⟩ := hQ1
  have N1 := Fr.app N0 Nq1
  obtain ⟨_, T2, L2, X2, hQ2, st2⟩ := own_virtual X1 hx hZ hown (y := y_25) (z := y_25) E_a1 (w_88 hw) (w_89 hw) (own_nf hZ (w_91 hw)) (w_91 hw) (w_90 hw) (w_14 hw) (w_92 hw) (rm76 l Z hw a1 i2 i7 a3 u4 ck5 i6 r10 i14 i18 i23 i27 h0 n0 Z0 E_a1 S_COMPACT_STRINGS Od0 c8 F_coder_a1 F_value_a1 V_a3 R_r10 S_SIOOBE_FORMATTER c11 c9 S__assertionsDisabled c12 c13 rd15 S_HI_BYTE_SHIFT c16 c17 rd19 S_LO_BYTE_SHIFT c20 c21 c22 rd24 c25 c26 rd28) e1 (Ls := #[vr a1, vi i2, o2]) hml.symm (argsL := [(.int i2)]) (rest := []) (lenOf pd_9 rfl) (B d7_12) (W := 0) (hc := hce) (hs := hsl)
  obtain ⟨rfl, Nq2, e2⟩ := hQ2
  have N2 := Fr.app N1 Nq2
  by_cases cc1 : (own_cp i14 i18 i23 i27) < 55296
  · by_cases cc2 : (own_cp i14 i18 i23 i27) < 65536
    · exact absurd (by unfold own_tc1; rw [if_pos cc1, if_pos cc2]) c125
    · exact absurd (by unfold own_tc1; rw [if_pos cc1, if_neg cc2]) c126
  · by_cases cc2 : 57343 < (own_cp i14 i18 i23 i27)
    · by_cases cc3 : (own_cp i14 i18 i23 i27) < 65536
      · exact absurd (by unfold own_tc1; rw [if_neg cc1, if_pos cc2, if_pos cc3]) c125
      · exact absurd (by unfold own_tc1; rw [if_neg cc1, if_pos cc2, if_neg cc3]) c126
    · refine ⟨T2, _, X2, e2, N2, fun target hr => ?_⟩
      rcases ho2 with rfl | ⟨_, rfl⟩
      all_goals
        refine sI X0 hx (B d7_2) rfl ?_
        refine sA X0 hx (B d7_3) rfl rfl ?_
        refine st1 _ ?_
        refine XS.icmpNo X1.here hx rfl (B d7_7) rfl (tlt c9).2.1 ?_
        refine sA X1 hx (B d7_10) rfl rfl ?_
        refine sI X1 hx (B d7_11) rfl ?_
        refine st2 _ ?_
        refine XS.istoreN X2.here hx rfl (B d7_15) rfl (l' := #[vr a1, vi i2, vi (own_cp i14 i18 i23 i27)]) rfl ?_
        refine sI X2 hx (B d7_16) rfl ?_
        refine X2.ldcInt hx hown (mvT hZ (w_117 hw)) (g := (mkF m 17 #[vr a1, vi i2, vi (own_cp i14 i18 i23 i27)] [(.int (own_cp i14 i18 i23 i27))])) rfl (B d7_17) _ ?_
        refine XS.icmpNo X2.here hx rfl (B d7_19) rfl (flt cc1).1 ?_
        refine sI X2 hx (B d7_22) rfl ?_
        refine X2.ldcInt hx hown (mvT hZ (w_125 hw)) (g := (mkF m 23 #[vr a1, vi i2, vi (own_cp i14 i18 i23 i27)] [(.int (own_cp i14 i18 i23 i27))])) rfl (B d7_23) _ ?_
        refine XS.icmpNo X2.here hx rfl (B d7_25) rfl (flt cc2).2.2.1 ?_
        exact hr
def own_un1 (v0 v1 v2 v3 : Int32) : Int32 := (if (own_tc1 v0 v1 v2 v3) = 0 then (if (own_tc v2 v3) = 0 then (-1 : Int32) else (1 : Int32)) else (if (own_tc1 v0 v1 v2 v3) = 1 then (-1 : Int32) else (0 : Int32)))
abbrev Rm81 : Room := rmk 8 0 0 150
def Q81 (Z : State) (a1 a2 : Addr) (i3 i4 i5 i6 : Int32) (ck7 : ClassId) (i8 : Int32) (r10 : Value) (h0 : Heap) (n0 : Nat) (v : Option Value) (h : Heap) (L : List Loc) : Prop := v = some (.int (own_un1 i3 i4 i5 i6)) ∧ Fr n0 L ∧ h = h0
theorem rm81 (l : Launch) (Z : State) {a0 : Array Value} (hw : OW a0 Z) (a1 a2 : Addr) (i3 i4 i5 i6 : Int32) (ck7 : ClassId) (i8 : Int32) (r10 : Value) (h0 : Heap) (n0 : Nat) (Z0 : n0 ≤ h0.size) (E_a1 : Exa Z h0 a1 jS) (F_value_a1 : Fld Z h0 a1 jS "value" "[B" (.ref a2)) (V_a2 : Arv Z h0 a2 ck7 .byte 4 [(.int i3), (.int i4), (.int i5), (.int i6)] (.int 0)) (S_COMPACT_STRINGS : Sta Z Z.heap "java/lang/String" "COMPACT_STRINGS" "Z" (.int i8)) (Od0 : Old Z n0 h0) (c9 : ¬ (i8 = 0)) (F_coder_a1 : Fld Z h0 a1 jS "coder" "B" (.int 1)) (R_r10 : r10.isRef = true) (S_SIOOBE_FORMATTER : Sta Z Z.heap "jdk/internal/util/Preconditions" "SIOOBE_FORMATTER" "Ljava/util/function/BiFunction;" r10) (S__assertionsDisabled : Sta Z Z.heap "java/lang/StringUTF16" "$assertionsDisabled" "Z" (.int 1)) (S_HI_BYTE_SHIFT : Sta Z Z.heap "java/lang/StringUTF16" "HI_BYTE_SHIFT" "I" (.int 0)) (S_LO_BYTE_SHIFT : Sta Z Z.heap "java/lang/StringUTF16" "LO_BYTE_SHIFT" "I" (.int 8)) :
    OwnMet l Z y_8 prog_10_method_10_code 3 (some .int) [] Rm81 #[(.ref a1)] h0 (Q81 Z a1 a2 i3 i4 i5 i6 ck7 i8 r10 h0 n0) := by
  refine own_body (plainFor_of_name pn_2) (ef_aae876 a1) ?_
  intro p e s m below meth c s₁ hx hby hml hown hnm hret hZ X0 e0
  have N0 := Fr.nil n0
  have B := hbx hby
  by_cases cc1 : (own_tc1 i3 i4 i5 i6) = 0
  · obtain ⟨T1, L1, X1, e1, N1, st1⟩ := tn78 l Z hw a1 (0 : Int32) .unset a2 [(.int i3), (.int i4), (.int i5), (.int i6)] ck7 (4 : Int32) i8 r10 i3 i4 i5 i6 h0 n0 Z0 (Or.inl rfl) E_a1 F_value_a1 V_a2 S_COMPACT_STRINGS Od0 c9 F_coder_a1 (by decide) R_r10 S_SIOOBE_FORMATTER (by decide) S__assertionsDisabled (by decide) (by decide) rfl S_HI_BYTE_SHIFT (by decide) (by decide) rfl S_LO_BYTE_SHIFT (by decide) (by decide) (by decide) rfl (by decide) (by decide) rfl cc1 hx hby hml hown hZ X0 e0 N0 (by decide) (by decide)
    by_cases cc2 : (own_tc i5 i6) = 0
    · obtain ⟨T2, L2, X2, e2, N2, st2⟩ := tn45 l Z hw a1 (1 : Int32) (vi (own_cp i3 i4 i5 i6)) a2 [(.int i3), (.int i4), (.int i5), (.int i6)] ck7 (4 : Int32) i8 r10 i5 i6 h0 n0 Z0 (Or.inr ⟨_, rfl⟩) E_a1 F_value_a1 V_a2 S_COMPACT_STRINGS Od0 c9 F_coder_a1 (by decide) R_r10 S_SIOOBE_FORMATTER (by decide) S__assertionsDisabled (by decide) (by decide) rfl S_HI_BYTE_SHIFT (by decide) (by decide) rfl S_LO_BYTE_SHIFT (by decide) cc2 hx hby hml hown hZ X1 e1 N1 (by decide) (by decide)
      obtain ⟨T3, L3, X3, e3, N3, st3⟩ := tn46 l Z hw a1 (2 : Int32) (vi (own_gc i5 i6)) a2 [(.int i3), (.int i4), (.int i5), (.int i6)] ck7 (4 : Int32) i8 h0 n0 Z0 (Or.inr ⟨_, rfl⟩) E_a1 F_value_a1 V_a2 S_COMPACT_STRINGS Od0 c9 F_coder_a1 (by decide) hx hby hml hown hZ X2 e2 N2 (by decide) (by decide)
      refine ⟨T3, _, _, _, (some (.int (-1))), X3, nofun, by decide, by decide, ?_, fun fs hr => ?_⟩
      · rw [e3]
        unfold Q81
        rw [show (own_un1 i3 i4 i5 i6) = (-1 : Int32) from by unfold own_un1; rw [if_pos cc1, if_pos cc2]]
        exact ⟨rfl, N3, rfl⟩
      · refine sC X0 hx (B d7_0) ?_
        refine XS.istoreN X0.here hx rfl (B d7_1) rfl (l' := #[vr a1, vi 0, un]) rfl ?_
        refine st1 _ ?_
        refine st2 _ ?_
        refine st3 _ ?_
        refine sC X3 hx (B d7_40) ?_
        exact retI X3 hx hret (B d7_41) hr
    · obtain ⟨T2, L2, X2, e2, N2, st2⟩ := tn47 l Z hw a1 (1 : Int32) (vi (own_cp i3 i4 i5 i6)) a2 [(.int i3), (.int i4), (.int i5), (.int i6)] ck7 (4 : Int32) i8 r10 i5 i6 h0 n0 Z0 (Or.inr ⟨_, rfl⟩) E_a1 F_value_a1 V_a2 S_COMPACT_STRINGS Od0 c9 F_coder_a1 (by decide) R_r10 S_SIOOBE_FORMATTER (by decide) S__assertionsDisabled (by decide) (by decide) rfl S_HI_BYTE_SHIFT (by decide) (by decide) rfl S_LO_BYTE_SHIFT (by decide) cc2 hx hby hml hown hZ X1 e1 N1 (by decide) (by decide)
      refine ⟨T2, _, _, _, (some (.int 1)), X2, nofun, by decide, by decide, ?_, fun fs hr => ?_⟩
      · rw [e2]
        unfold Q81
        rw [show (own_un1 i3 i4 i5 i6) = (1 : Int32) from by unfold own_un1; rw [if_pos cc1, if_neg cc2]]
        exact ⟨rfl, N2, rfl⟩
      · refine sC X0 hx (B d7_0) ?_
        refine XS.istoreN X0.here hx rfl (B d7_1) rfl (l' := #[vr a1, vi 0, un]) rfl ?_
        refine st1 _ ?_
        refine st2 _ ?_
        refine sI X2 hx (B d7_28) rfl ?_
        exact retI X2 hx hret (B d7_29) hr
  · by_cases cc2 : (own_tc1 i3 i4 i5 i6) = 1
    · obtain ⟨T1, L1, X1, e1, N1, st1⟩ := tn79 l Z hw a1 (0 : Int32) .unset a2 [(.int i3), (.int i4), (.int i5), (.int i6)] ck7 (4 : Int32) i8 r10 i3 i4 i5 i6 h0 n0 Z0 (Or.inl rfl) E_a1 F_value_a1 V_a2 S_COMPACT_STRINGS Od0 c9 F_coder_a1 (by decide) R_r10 S_SIOOBE_FORMATTER (by decide) S__assertionsDisabled (by decide) (by decide) rfl S_HI_BYTE_SHIFT (by decide) (by decide) rfl S_LO_BYTE_SHIFT (by decide) (by decide) (by decide) rfl (by decide) (by decide) rfl cc1 cc2 hx hby hml hown hZ X0 e0 N0 (by decide) (by decide)
      obtain ⟨T2, L2, X2, e2, N2, st2⟩ := tn46 l Z hw a1 (2 : Int32) (vi (own_cp i3 i4 i5 i6)) a2 [(.int i3), (.int i4), (.int i5), (.int i6)] ck7 (4 : Int32) i8 h0 n0 Z0 (Or.inr ⟨_, rfl⟩) E_a1 F_value_a1 V_a2 S_COMPACT_STRINGS Od0 c9 F_coder_a1 (by decide) hx hby hml hown hZ X1 e1 N1 (by decide) (by decide)
      refine ⟨T2, _, _, _, (some (.int (-1))), X2, nofun, by decide, by decide, ?_, fun fs hr => ?_⟩
      · rw [e2]
        unfold Q81
        rw [show (own_un1 i3 i4 i5 i6) = (-1 : Int32) from by unfold own_un1; rw [if_neg cc1, if_pos cc2]]
        exact ⟨rfl, N2, rfl⟩
      · refine sC X0 hx (B d7_0) ?_
        refine XS.istoreN X0.here hx rfl (B d7_1) rfl (l' := #[vr a1, vi 0, un]) rfl ?_
        refine st1 _ ?_
        refine st2 _ ?_
        refine sC X2 hx (B d7_40) ?_
        exact retI X2 hx hret (B d7_41) hr
    · obtain ⟨T1, L1, X1, e1, N1, st1⟩ := tn80 l Z hw a1 (0 : Int32) .unset a2 [(.int i3), (.int i4), (.int i5), (.int i6)] ck7 (4 : Int32) i8 r10 i3 i4 i5 i6 h0 n0 Z0 (Or.inl rfl) E_a1 F_value_a1 V_a2 S_COMPACT_STRINGS Od0 c9 F_coder_a1 (by decide) R_r10 S_SIOOBE_FORMATTER (by decide) S__assertionsDisabled (by decide) (by decide) rfl S_HI_BYTE_SHIFT (by decide) (by decide) rfl S_LO_BYTE_SHIFT (by decide) (by decide) (by decide) rfl (by decide) (by decide) rfl cc1 cc2 hx hby hml hown hZ X0 e0 N0 (by decide) (by decide)
      refine ⟨T1, _, _, _, (some (.int 0)), X1, nofun, by decide, by decide, ?_, fun fs hr => ?_⟩
      · rw [e1]
        unfold Q81
        rw [show (own_un1 i3 i4 i5 i6) = (0 : Int32) from by unfold own_un1; rw [if_neg cc1, if_neg cc2]]
        exact ⟨rfl, N1, rfl⟩
      · refine sC X0 hx (B d7_0) ?_
        refine XS.istoreN X0.here hx rfl (B d7_1) rfl (l' := #[vr a1, vi 0, un]) rfl ?_
        refine st1 _ ?_
        refine sI X1 hx (B d7_28) rfl ?_
        exact retI X1 hx hret (B d7_29) hr
theorem own_ih_k (a : Int32) : own_ih a = 0 ↔ ¬ own_kk a = 1 := by
  unfold own_ih
  rw [own_kk1]
  simp only [(own_i a 55296 55296 (by decide)).1, (own_i a 56320 56320 (by decide)).1]
  by_cases h1 : a.toInt < 55296
  · rw [if_pos h1]; exact ⟨fun _ => by omega, fun _ => rfl⟩
  · rw [if_neg h1]
    by_cases h2 : a.toInt < 56320
    · rw [if_pos h2]; exact ⟨fun q => absurd q (by decide), fun q => absurd (show _ ∧ _ from ⟨by omega, h2⟩) q⟩
    · rw [if_neg h2]; exact ⟨fun _ => by omega, fun _ => rfl⟩
theorem own_il_k (a : Int32) : own_il a = 0 ↔ ¬ own_kk a = 2 := by
  unfold own_il
  rw [own_kk2]
  simp only [(own_i a 56320 56320 (by decide)).1, (own_i a 57344 57344 (by decide)).1]
  by_cases h1 : a.toInt < 56320
  · rw [if_pos h1]; exact ⟨fun _ => by omega, fun _ => rfl⟩
  · rw [if_neg h1]
    by_cases h2 : a.toInt < 57344
    · rw [if_pos h2]; exact ⟨fun q => absurd q (by decide), fun q => absurd (show _ ∧ _ from ⟨by omega, h2⟩) q⟩
    · rw [if_neg h2]; exact ⟨fun _ => by omega, fun _ => rfl⟩
def own_f (x y : Int32) : Int32 := if x = 0 then 0 else if x = 2 then 2 else if y = 2 then 1 else 2
theorem own_tc1_k (a b : Int32) (h0 : ¬ a < 0) (h1 : ¬ 65535 < a) (k0 : ¬ b < 0) (k1 : ¬ 65535 < b) : own_tc1 (nar .byte ((a >>> ((0 : Int32) &&& 31)).toInt8.toInt32)) (nar .byte ((a >>> ((8 : Int32) &&& 31)).toInt8.toInt32)) (nar .byte ((b >>> ((0 : Int32) &&& 31)).toInt8.toInt32)) (nar .byte ((b >>> ((8 : Int32) &&& 31)).toInt8.toInt32)) = own_f (own_kk a) (own_kk b) := by
  unfold own_tc1 own_cp
  rw [own_gcN a h0 h1, own_gcN b k0 k1]
  have e1 := own_kk1 a
  have e2 := own_kk2 a
  rw [(own_i a 0 0 (by decide)).1] at h0
  rw [(own_i a 65535 65535 (by decide)).2] at h1
  have s (x : Int32) : (x < 55296 ↔ x.toInt < 55296) ∧ (x < 65536 ↔ x.toInt < 65536) ∧ (57343 < x ↔ 57343 < x.toInt) := ⟨(own_i x 55296 55296 (by decide)).1, (own_i x 65536 65536 (by decide)).1, (own_i x 57343 57343 (by decide)).2⟩
  by_cases ha : own_kk a = 1
  · have q := e1.mp ha
    rw [if_neg (show ¬ own_ih a = 0 from fun z => (own_ih_k a).mp z ha)]
    by_cases hb : own_kk b = 2
    · rw [if_neg (show ¬ own_il b = 0 from fun z => (own_il_k b).mp z hb), ha, hb]
      have r := (own_kk2 b).mp hb
      have f := own_shl a 10 10 (by decide) 1024 (by decide)
      have g := rng32 (a <<< ((10 : Int32) &&& 31))
      have i := c_iadd (a <<< ((10 : Int32) &&& 31)) b
      have j := rng32 ((a <<< ((10 : Int32) &&& 31)) + b)
      have k := c_iadd ((a <<< ((10 : Int32) &&& 31)) + b) (-56613888)
      have l := rng32 (((a <<< ((10 : Int32) &&& 31)) + b) + (-56613888))
      have m : (-56613888 : Int32).toInt = -56613888 := by decide
      generalize hv : ((a <<< ((10 : Int32) &&& 31)) + b) + (-56613888) = v at *
      have n : v.toInt = a.toInt * 1024 + b.toInt - 56613888 := by omega
      rw [if_neg (by rw [(s v).1]; omega), if_pos (by rw [(s v).2.2]; omega), if_neg (by rw [(s v).2.1]; omega)]
      decide
    · rw [if_pos ((own_il_k b).mpr hb), ha]
      rw [if_neg (by rw [(s a).1]; omega), if_neg (by rw [(s a).2.2]; omega)]
      unfold own_f
      rw [if_neg (by decide), if_neg (by decide), if_neg hb]
  · rw [if_pos ((own_ih_k a).mpr ha)]
    rcases own_kk3 a with h | h | h
    · have q1 : ¬ own_kk a = 1 := ha
      have q2 : ¬ own_kk a = 2 := by rw [h]; decide
      rw [e1] at q1; rw [e2] at q2; rw [h]
      unfold own_f
      rw [if_pos rfl]
      by_cases k : a.toInt < 55296
      · rw [if_pos (by rw [(s a).1]; omega), if_pos (by rw [(s a).2.1]; omega)]
      · rw [if_neg (by rw [(s a).1]; omega), if_pos (by rw [(s a).2.2]; omega), if_pos (by rw [(s a).2.1]; omega)]
    · exact absurd h ha
    · have q := e2.mp h
      rw [h, if_neg (by rw [(s a).1]; omega), if_neg (by rw [(s a).2.2]; omega)]
      unfold own_f
      rw [if_neg (by decide), if_pos rfl]
theorem own_finU_2 (c0 c1 : Int32) (l0 : ¬ c0 < 0) (g0 : ¬ 65535 < c0) (l1 : ¬ c1 < 0) (g1 : ¬ 65535 < c1) : own_un1 (nar .byte ((c0 >>> ((0 : Int32) &&& 31)).toInt8.toInt32)) (nar .byte ((c0 >>> ((8 : Int32) &&& 31)).toInt8.toInt32)) (nar .byte ((c1 >>> ((0 : Int32) &&& 31)).toInt8.toInt32)) (nar .byte ((c1 >>> ((8 : Int32) &&& 31)).toInt8.toInt32)) = own_ex1 c0 c1 := by
  unfold own_un1 own_ex1 own_ln1 own_ln2
  simp only [own_tc1_k c0 c1 l0 g0 l1 g1, own_tc_k c1 l1 g1, own_hi_k, own_lw_k]
  rcases own_kk3 c0 with k0 | k0 | k0 <;> rcases own_kk3 c1 with k1 | k1 | k1 <;> simp only [k0, k1] <;> decide
abbrev Rm82 : Room := rmk 1 1 2 18
def Q82 (Z : State) (a1 : Addr) (i2 i3 : Int32) (ck4 : ClassId) (h0 : Heap) (n0 : Nat) (v : Option Value) (h : Heap) (L : List Loc) : Prop := ∃ m0 : Addr, ∃ kk1 : ClassId, v = some (.ref m0) ∧ Fr n0 L ∧ Keep h0 h [] ∧ h0.size ≤ m0 ∧ Exa Z h m0 "[B" ∧ Arv Z h m0 kk1 .byte 2 [(.int (nar .byte (i2.toInt8.toInt32))), (.int (nar .byte (i3.toInt8.toInt32)))] (.int 0)
theorem rm82 (l : Launch) (Z : State) {a0 : Array Value} (hw : OW a0 Z) (a1 : Addr) (i2 i3 : Int32) (ck4 : ClassId) (h0 : Heap) (n0 : Nat) (Z0 : n0 ≤ h0.size) (V_a1 : Arv Z h0 a1 ck4 .char 2 [(.int i2), (.int i3)] (.int 0)) (S__assertionsDisabled : Sta Z Z.heap "java/lang/StringUTF16" "$assertionsDisabled" "Z" (.int 1)) (Od0 : Old Z n0 h0) (S_HI_BYTE_SHIFT : Sta Z Z.heap "java/lang/StringUTF16" "HI_BYTE_SHIFT" "I" (.int 0)) (S_LO_BYTE_SHIFT : Sta Z Z.heap "java/lang/StringUTF16" "LO_BYTE_SHIFT" "I" (.int 8)) (c5 : ¬ (65535 < i2)) (c6 : ¬ (65535 < i3)) (c7 : ¬ ((own_cc1 i2 i3) = 0)) :
    OwnMet l Z y_15 jdk_52_method_16_code 6 (some (.array .byte)) [] Rm82 #[(.ref a1), (.int 0), (.int 2)] h0 (Q82 Z a1 i2 i3 ck4 h0 n0) := by
  refine own_body (plainFor_of_name pn_3) (ef_1ab08b a1) ?_
  intro p e s m below meth c s₁ hx hby hml hown hnm hret hZ X0 e0
  have N0 := Fr.nil n0
  have B := hbx hby
  obtain ⟨T1, h1, k1, X1, e1, E1, A1, B1, st1⟩ := newPE (aty := .byte) X0 hx hZ (w_27 hw) e0 (g := (mkF m 1 #[vr a1, vi 0, vi 2, un, un, un] [(.int 2)])) rfl (B d10_1) rfl (by decide) (cap := 2) (by decide) (by decide) (by decide) (by decide) (ad := "[B") (by decide)
  obtain ⟨b1, g1⟩ : ∃ z, z = h0.size := ⟨_, rfl⟩
  rw [← g1] at A1 B1 st1
  have s0 := E1.1
  have Vn1 : Arv Z h1 b1 k1 .byte 2 [(.int 0), (.int 0)] (.int 0) := (Arv.new A1 (by decide)).pad (pad_rep [] (.int 0) 2)
  have Va2 := (V_a1.ext E1)
  have g_b1 : n0 ≤ b1 := Nat.le_trans Z0 (Nat.le_of_eq g1.symm)
  have ne_a1_b1 := Nat.ne_of_lt (Nat.lt_of_lt_of_le V_a1.lt (Nat.le_of_eq g1.symm))
  have z1 := Nat.le_trans Z0 s0
  by_cases cc1 : 255 < i2
  · exact absurd (by unfold own_cc1; rw [if_pos cc1]) c7
  · by_cases cc2 : 255 < i3
    · exact absurd (by unfold own_cc1; rw [if_neg cc1, if_pos cc2]) c7
    · obtain ⟨_, T3, L3, X3, hQ3, st3⟩ := own_callS X1 hx hZ hown (y := y_9) (w_57 hw) (w_58 hw) (w_55 hw) (w_59 hw) (rm64 l Z hw a1 b1 i2 i3 ck4 k1 h1 n0 z1 Va2 cc1 Vn1 g_b1 ne_a1_b1 cc2 B1) e1 (Ls := #[vr a1, vi 0, vi 2, vr b1, un, un]) hml.symm (argsL := [(.ref a1), (.int 0), (.ref b1), (.int 0), (.int 2)]) (rest := []) (lenOf pd_8 rfl) (B d10_9) (W := 0)
      obtain ⟨rfl, Nq3, K3, o3_0, o3_1⟩ := hQ3
      have N3 := Fr.app N0 Nq3
      have s1 := K3.1
      have sz_b1 : h0.size ≤ b1 := (Nat.le_of_eq g1.symm)
      have Kp0 := (Keep.refl h0 []).ext E1
      have Kp1 := Kp0.trans K3 (allS (Or.inr sz_b1) all0)
      refine ⟨T3, _, _, _, (some (.ref b1)), X3, nofun, by decide, by decide, ?_, fun fs hr => ?_⟩
      · exact ⟨b1, k1, rfl, N3, Kp1, sz_b1, o3_0, o3_1⟩
      · refine sI X0 hx (B d10_0) rfl ?_
        refine st1 _ ?_
        refine XS.astoreN X1.here hx rfl (B d10_3) rfl rfl (l' := #[vr a1, vi 0, vi 2, vr b1, un, un]) rfl ?_
        refine sA X1 hx (B d10_4) rfl rfl ?_
        refine sI X1 hx (B d10_5) rfl ?_
        refine sA X1 hx (B d10_6) rfl rfl ?_
        refine sC X1 hx (B d10_7) ?_
        refine sI X1 hx (B d10_8) rfl ?_
        refine st3 _ ?_
        refine XS.istore X3.here hx rfl (B d10_12) rfl (l' := #[vr a1, vi 0, vi 2, vr b1, vi 2, un]) rfl ?_
        refine sJ X3 hx (B d10_14) rfl ?_
        refine sI X3 hx (B d10_16) rfl ?_
        refine XS.icmpYes X3.here hx rfl (pc0 := 17) (pc' := 57) rfl (B d10_17) rfl (teq (by decide : (2 : Int32) = (2 : Int32))).1 (by decide) (by decide) ?_
        refine sA X3 hx (B d10_57) rfl rfl ?_
        exact retOut X3 hx hret rfl (Or.inr (Or.inr (Or.inr (Or.inr ⟨rfl, rfl, rfl⟩)))) (B d10_58) hr
abbrev Rm83 : Room := rmk 2 1 2 35
def Q83 (Z : State) (a1 a2 : Addr) (i3 i5 i6 : Int32) (ck7 : ClassId) (h0 : Heap) (n0 : Nat) (v : Option Value) (h : Heap) (L : List Loc) : Prop := ∃ b3_0 : Addr, ∃ k3_1 : ClassId, v = none ∧ Fr n0 L ∧ Keep h0 h [a1] ∧ Exa Z h a1 jS ∧ Fld Z h a1 jS "coder" "B" (.int 0) ∧ Fld Z h a1 jS "value" "[B" (.ref b3_0) ∧ h0.size ≤ b3_0 ∧ Exa Z h b3_0 "[B" ∧ Arv Z h b3_0 k3_1 .byte 2 [(.int (nar .byte (i5.toInt8.toInt32))), (.int (nar .byte (i6.toInt8.toInt32)))] (.int 0)
theorem rm83 (l : Launch) (Z : State) {a0 : Array Value} (hw : OW a0 Z) (a1 a2 : Addr) (i3 i5 i6 : Int32) (ck7 : ClassId) (h0 : Heap) (n0 : Nat) (Z0 : n0 ≤ h0.size) (S_COMPACT_STRINGS : Sta Z Z.heap "java/lang/String" "COMPACT_STRINGS" "Z" (.int i3)) (Od0 : Old Z n0 h0) (c4 : ¬ (i3 = 0)) (V_a2 : Arv Z h0 a2 ck7 .char 2 [(.int i5), (.int i6)] (.int 0)) (S__assertionsDisabled : Sta Z Z.heap "java/lang/StringUTF16" "$assertionsDisabled" "Z" (.int 1)) (S_HI_BYTE_SHIFT : Sta Z Z.heap "java/lang/StringUTF16" "HI_BYTE_SHIFT" "I" (.int 0)) (S_LO_BYTE_SHIFT : Sta Z Z.heap "java/lang/StringUTF16" "LO_BYTE_SHIFT" "I" (.int 8)) (c8 : ¬ (65535 < i5)) (c9 : ¬ (65535 < i6)) (c10 : ¬ ((own_cc1 i5 i6) = 0)) (F_coder_a1 : Fld Z h0 a1 jS "coder" "B" (.int 0)) (E_a1 : Exa Z h0 a1 jS) (g_a1 : n0 ≤ a1) (F_value_a1 : Fld Z h0 a1 jS "value" "[B" .null) :
    OwnMet l Z y_2 jdk_42_method_149_code 6 none [] Rm83 #[(.ref a1), (.ref a2), (.int 0), (.int 2), .null] h0 (Q83 Z a1 a2 i3 i5 i6 ck7 h0 n0) := by
  refine own_body (plainFor_of_name pn_1) (ef_512eb5 a1 a2) ?_
  intro p e s m below meth c s₁ hx hby hml hown hnm hret hZ X0 e0
  have N0 := Fr.nil n0
  have B := hbx hby
  obtain ⟨T1, X1, e1, st1⟩ := initO X0 hx hZ hown (w_23 hw) (w_24 hw) (w_25 hw) e0 (g := (mkF m 1 #[vr a1, vr a2, vi 0, vi 2, .val .null, un] [(.ref a1)])) rfl hml.symm rfl (B d4_1) (by decide) (W := 0) (by show 2 * 0 + _ ≤ _; exact Nat.le_of_eq rfl) (by decide)
  obtain ⟨T2, X2, e2, st2⟩ := getS2 X1 hx hZ hown (host := "") (Or.inl (w_51 hw)) Via.refl e1 (S_COMPACT_STRINGS.ext Od0.2) (g := (mkF m 27 #[vr a1, vr a2, vi 0, vi 2, .val .null, un] [])) rfl (B d4_27)
  obtain ⟨_, T3, L3, X3, hQ3, st3⟩ := own_callS X2 hx hZ hown (y := y_15) (w_53 hw) (w_54 hw) (w_55 hw) (w_56 hw) (rm82 l Z hw a2 i5 i6 ck7 h0 n0 Z0 V_a2 S__assertionsDisabled Od0 S_HI_BYTE_SHIFT S_LO_BYTE_SHIFT c8 c9 c10) e2 (Ls := #[vr a1, vr a2, vi 0, vi 2, .val .null, un]) hml.symm (argsL := [(.ref a2), (.int 0), (.int 2)]) (rest := []) (lenOf pd_12 rfl) (B d4_36) (W := 0)
  obtain ⟨b3_0, k3_1, rfl, Nq3, K3, o3_0, o3_1, o3_2⟩ := hQ3
  have N3 := Fr.app N0 Nq3
  have s0 := K3.1
  have z1 := Nat.le_trans Z0 s0
  obtain ⟨_, T4, L4, X4, hQ4, st4⟩ := own_callS X3 hx hZ hown (y := y_16) (w_79 hw) (w_80 hw) (w_55 hw) (w_81 hw) (rm19 l Z hw b3_0 (2 : Int32) [(.int (nar .byte (i5.toInt8.toInt32))), (.int (nar .byte (i6.toInt8.toInt32)))] k3_1 (2 : Int32) T3.heap n0 z1 o3_2) rfl (Ls := #[vr a1, vr a2, vi 0, vi 2, .val .null, vr b3_0]) hml.symm (argsL := [(.ref b3_0), (.int 2)]) (rest := [(.ref a1)]) (lenOf pd_14 rfl) (B d4_45) (W := 1)
  obtain ⟨rfl, Nq4, e4⟩ := hQ4
  have N4 := Fr.app N3 Nq4
  have Fl5 := (F_coder_a1.keep K3 nin0)
  have Ex6 := (E_a1.keep K3)
  obtain ⟨T7, h7, X7, e7, W7, st7⟩ := putFN X4 hx hZ hown (w_33 hw) Via.refl e4 Fl5 Ex6 (Or.inr ⟨(w_29 hw), rfl, hnm⟩) (w_13 hw) (ty := .byte) (v' := (.int (nar .byte (0 : Int32)))) (by decide) rfl (fits_nar_byte _) (g := (mkF m 48 #[vr a1, vr a2, vi 0, vi 2, .val .null, vr b3_0] [(.int 0), (.ref a1)])) rfl rfl (B d4_48)
  have s1 := (Keep.of_wr W7).1
  have N7 := Fr.snoc X7 N4 g_a1
  have Fw7 : Fld Z h7 a1 jS "coder" "B" (.int 0) := Fl5.same W7
  have Ex8 := (Ex6.wr W7)
  have Fl9 := ((F_value_a1.keep K3 nin0).other W7 (Or.inr (slot_ne (Or.inr (w_28 hw)) (Or.inr (w_29 hw)) (by decide) (t := (.array .byte)) (t' := .byte) (by decide) (by decide))))
  obtain ⟨T10, h10, X10, e10, W10, st10⟩ := putF X7 hx hZ hown (host := "") (Or.inl (w_32 hw)) Via.refl e7 Fl9 Ex8 (Or.inr ⟨(w_28 hw), rfl, hnm⟩) (w_13 hw) (ty := (.array .byte)) (by decide) rfl rfl (g := (mkF m 54 #[vr a1, vr a2, vi 0, vi 2, .val .null, vr b3_0] [(.ref b3_0), (.ref a1)])) rfl rfl (B d4_54)
  have s2 := (Keep.of_wr W10).1
  have N10 := Fr.snoc X10 N7 g_a1
  have Fw10 : Fld Z h10 a1 jS "value" "[B" (.ref b3_0) := Fl9.same W10
  have Ex11 := (Ex8.wr W10)
  have Fl12 := (Fw7.other W10 (Or.inr (slot_ne (Or.inr (w_29 hw)) (Or.inr (w_28 hw)) (by decide) (t := .byte) (t' := (.array .byte)) (by decide) (by decide))))
  have sz_b3_0 : h0.size ≤ b3_0 := o3_0
  have Ex13 := ((o3_1.wr W7).wr W10)
  have ne_a1_b3_0 := Nat.ne_of_lt (Nat.lt_of_lt_of_le F_value_a1.lt o3_0)
  have Va14 := ((o3_2.other W7 (Ne.symm ne_a1_b3_0)).other W10 (Ne.symm ne_a1_b3_0))
  have Kp0 := (Keep.refl h0 [a1]).trans K3 all0
  have Kp1 := Kp0.wr W7 own_m0
  have Kp2 := Kp1.wr W10 own_m0
  refine ⟨T10, _, _, _, none, X10, (fun _ => rfl), by decide, by decide, ?_, fun fs hr => ?_⟩
  · rw [e10]
    exact ⟨b3_0, k3_1, rfl, N10, Kp2, Ex11, Fl12, Fw10, sz_b3_0, Ex13, Va14⟩
  · refine sA X0 hx (B d4_0) rfl rfl ?_
    refine st1 _ ?_
    refine sI X1 hx (B d4_4) rfl ?_
    refine XS.ifYes X1.here hx rfl (pc0 := 5) (pc' := 27) rfl (B d4_5) rfl ((if0 _ _).trans (feq (by decide : ¬ ((2 : Int32) = (0 : Int32)))).2) (by decide) (by decide) ?_
    refine st2 _ ?_
    refine XS.ifNo X2.here hx rfl (B d4_30) rfl ((if0 _ _).trans (feq c4).1) ?_
    refine sA X2 hx (B d4_33) rfl rfl ?_
    refine sI X2 hx (B d4_34) rfl ?_
    refine sI X2 hx (B d4_35) rfl ?_
    refine st3 _ ?_
    refine XS.astore X3.here hx rfl (B d4_39) rfl rfl (l' := #[vr a1, vr a2, vi 0, vi 2, .val .null, vr b3_0]) rfl ?_
    refine sA X3 hx (B d4_41) rfl rfl ?_
    refine sB X3 hx (B d4_42) rfl rfl ?_
    refine sI X3 hx (B d4_44) rfl ?_
    refine st4 _ ?_
    refine st7 _ ?_
    refine sA X7 hx (B d4_51) rfl rfl ?_
    refine sB X7 hx (B d4_52) rfl rfl ?_
    refine st10 _ ?_
    exact X10.returnOut hx hret (B d4_57) hr
abbrev Rm84 : Room := rmk 3 1 2 52
def Q84 (Z : State) (a1 a2 : Addr) (i3 i4 : Int32) (ck5 : ClassId) (i6 : Int32) (h0 : Heap) (n0 : Nat) (v : Option Value) (h : Heap) (L : List Loc) : Prop := ∃ b2_0 : Addr, ∃ k2_1 : ClassId, v = none ∧ Fr n0 L ∧ Keep h0 h [a1] ∧ Exa Z h a1 jS ∧ Fld Z h a1 jS "coder" "B" (.int 0) ∧ Fld Z h a1 jS "value" "[B" (.ref b2_0) ∧ h0.size ≤ b2_0 ∧ Exa Z h b2_0 "[B" ∧ Arv Z h b2_0 k2_1 .byte 2 [(.int (nar .byte (i3.toInt8.toInt32))), (.int (nar .byte (i4.toInt8.toInt32)))] (.int 0)
theorem rm84 (l : Launch) (Z : State) {a0 : Array Value} (hw : OW a0 Z) (a1 a2 : Addr) (i3 i4 : Int32) (ck5 : ClassId) (i6 : Int32) (h0 : Heap) (n0 : Nat) (Z0 : n0 ≤ h0.size) (V_a2 : Arv Z h0 a2 ck5 .char 2 [(.int i3), (.int i4)] (.int 0)) (S_COMPACT_STRINGS : Sta Z Z.heap "java/lang/String" "COMPACT_STRINGS" "Z" (.int i6)) (Od0 : Old Z n0 h0) (c7 : ¬ (i6 = 0)) (S__assertionsDisabled : Sta Z Z.heap "java/lang/StringUTF16" "$assertionsDisabled" "Z" (.int 1)) (S_HI_BYTE_SHIFT : Sta Z Z.heap "java/lang/StringUTF16" "HI_BYTE_SHIFT" "I" (.int 0)) (S_LO_BYTE_SHIFT : Sta Z Z.heap "java/lang/StringUTF16" "LO_BYTE_SHIFT" "I" (.int 8)) (c8 : ¬ (65535 < i3)) (c9 : ¬ (65535 < i4)) (c10 : ¬ ((own_cc1 i3 i4) = 0)) (F_coder_a1 : Fld Z h0 a1 jS "coder" "B" (.int 0)) (E_a1 : Exa Z h0 a1 jS) (g_a1 : n0 ≤ a1) (F_value_a1 : Fld Z h0 a1 jS "value" "[B" .null) :
    OwnMet l Z y_3 jdk_42_method_3_code 2 none [] Rm84 #[(.ref a1), (.ref a2)] h0 (Q84 Z a1 a2 i3 i4 ck5 i6 h0 n0) := by
  refine own_body (plainFor_of_name pn_1) (ef_463e93 a1 a2) ?_
  intro p e s m below meth c s₁ hx hby hml hown hnm hret hZ X0 e0
  have N0 := Fr.nil n0
  have B := hbx hby
  obtain ⟨cl1, Ar1, q1, S1, M1, Hs1, G1⟩ := id V_a2
  obtain ⟨_, T2, L2, X2, hQ2, st2⟩ := own_special X0 hx hZ hown (y := y_2) (a := a1) (w_19 hw) (w_20 hw) (w_14 hw) (w_22 hw) (rm83 l Z hw a1 a2 i6 i3 i4 ck5 h0 n0 Z0 S_COMPACT_STRINGS Od0 c7 V_a2 S__assertionsDisabled S_HI_BYTE_SHIFT S_LO_BYTE_SHIFT c8 c9 c10 F_coder_a1 E_a1 g_a1 F_value_a1) e0 (Ls := #[vr a1, vr a2]) hml.symm (argsL := [(.ref a2), (.int 0), (.int 2), .null]) (rest := []) (lenOf pd_1 rfl) (B d3_6) (W := 0)
  obtain ⟨b2_0, k2_1, rfl, Nq2, K2, o2_0, o2_1, o2_2, o2_3, o2_4, o2_5⟩ := hQ2
  have N2 := Fr.app N0 Nq2
  have s0 := K2.1
  have sz_b2_0 : h0.size ≤ b2_0 := o2_3
  have Kp0 := (Keep.refl h0 [a1]).trans K2 (allS own_m0 all0)
  refine ⟨T2, _, _, _, none, X2, (fun _ => rfl), by decide, by decide, ?_, fun fs hr => ?_⟩
  · exact ⟨b2_0, k2_1, rfl, N2, Kp0, o2_0, o2_1, o2_2, sz_b2_0, o2_4, o2_5⟩
  · refine sA X0 hx (B d3_0) rfl rfl ?_
    refine sA X0 hx (B d3_1) rfl rfl ?_
    refine sC X0 hx (B d3_2) ?_
    refine sA X0 hx (B d3_3) rfl rfl ?_
    refine X0.arraylength hx (by rw [e0]; exact Ar1.1) (State.isArrayOf_alike hZ.alike Ar1.2.1) (g := (mkF m 4 #[vr a1, vr a2] [(.ref a2), (.int 0), (.ref a2), (.ref a1)])) rfl rfl (B d3_4) _ ?_
    show Steps p.tables e below (s₁.setTop (mkF m 5 #[vr a1, vr a2] [(.int cl1.slots.size.toInt32), (.int 0), (.ref a2), (.ref a1)])) _
    rw [len_of S1 M1]
    refine XS.aconstNull X0.here hx rfl (B d3_5) ?_
    refine st2 _ ?_
    exact X2.returnOut hx hret (B d3_9) hr
abbrev Rm85 : Room := rmk 4 3 8 66
def Q85 (Z : State) (i1 i2 i3 i4 i5 : Int32) (h0 : Heap) (n0 : Nat) (v : Option Value) (h : Heap) (L : List Loc) : Prop := ∃ b1 : Addr, ∃ b14_0 : Addr, ∃ k14_1 : ClassId, v = some (.ref b1) ∧ Fr n0 L ∧ Keep h0 h [] ∧ h0.size ≤ b1 ∧ Exa Z h b1 jS ∧ Fld Z h b1 jS "coder" "B" (.int 0) ∧ Fld Z h b1 jS "value" "[B" (.ref b14_0) ∧ h0.size ≤ b14_0 ∧ Exa Z h b14_0 "[B" ∧ Arv Z h b14_0 k14_1 .byte 2 [(.int (nar .byte ((nar .char i1).toInt8.toInt32))), (.int (nar .byte ((nar .char i2).toInt8.toInt32)))] (.int 0) ∧ b1 ≠ b14_0
theorem rm85 (l : Launch) (Z : State) {a0 : Array Value} (hw : OW a0 Z) (i1 i2 i3 i4 i5 : Int32) (h0 : Heap) (n0 : Nat) (Z0 : n0 ≤ h0.size) (S_COMPACT_STRINGS : Sta Z Z.heap "java/lang/String" "COMPACT_STRINGS" "Z" (.int i5)) (Od0 : Old Z n0 h0) (c6 : ¬ (i5 = 0)) (S__assertionsDisabled : Sta Z Z.heap "java/lang/StringUTF16" "$assertionsDisabled" "Z" (.int 1)) (S_HI_BYTE_SHIFT : Sta Z Z.heap "java/lang/StringUTF16" "HI_BYTE_SHIFT" "I" (.int 0)) (S_LO_BYTE_SHIFT : Sta Z Z.heap "java/lang/StringUTF16" "LO_BYTE_SHIFT" "I" (.int 8)) (c7 : ¬ ((own_cc1 (nar .char i1) (nar .char i2)) = 0)) :
    OwnMet l Z y_4 method_4_code 5 (some (.object "java/lang/String")) [] Rm85 #[(.int 2), (.int i1), (.int i2), (.int i3), (.int i4)] h0 (Q85 Z i1 i2 i3 i4 i5 h0 n0) := by
  refine own_body (plainFor_of_name pn_0) (ef_abda43 i1 i2 i3 i4) ?_
  intro p e s m below meth c s₁ hx hby hml hown hnm hret hZ X0 e0
  have N0 := Fr.nil n0
  have B := hbx hby
  obtain ⟨T1, h1, X1, e1, E1, A1, D1, -, st1⟩ := newO X0 hx hZ hown (w_12 hw) (w_13 hw) (w_14 hw) e0 (g := (mkF m 40 #[vi 2, vi i1, vi i2, vi i3, vi i4] [])) rfl (B d2_40) (by decide) (by decide)
  obtain ⟨b1, g1⟩ : ∃ z, z = h0.size := ⟨_, rfl⟩
  rw [← g1] at A1 D1 st1
  have s0 := E1.1
  have Fn1_value : Fld Z h1 b1 jS "value" "[B" .null := D1 (Or.inr (w_28 hw)) (ty := (.array .byte)) (by decide)
  have Fn1_coder : Fld Z h1 b1 jS "coder" "B" (.int 0) := D1 (Or.inr (w_29 hw)) (ty := .byte) (by decide)
  obtain ⟨T2, h2, k2, X2, e2, E2, A2, B2, st2⟩ := newPE (aty := .char) X1 hx hZ (w_15 hw) e1 (g := (mkF m 45 #[vi 2, vi i1, vi i2, vi i3, vi i4] [(.int 2), (.ref b1), (.ref b1)])) rfl (B d2_45) rfl (by decide) (cap := 2) (by decide) (by decide) (by decide) (by decide) (ad := "[C") (by decide)
  obtain ⟨b2, g2⟩ : ∃ z, z = h1.size := ⟨_, rfl⟩
  rw [← g2] at A2 B2 st2
  have s1 := E2.1
  have Vn2 : Arv Z h2 b2 k2 .char 2 [(.int 0), (.int 0)] (.int 0) := (Arv.new A2 (by decide)).pad (pad_rep [] (.int 0) 2)
  obtain ⟨cl3, Ar3, q3, S3, M3, Hs3, G3⟩ := id Vn2
  have hin4 := inb_of (j := 0) S3 ⟨by decide, by decide⟩
  obtain ⟨T5, h5, X5, e5, W5, st5⟩ := stC X2 hx hZ e2 Ar3 (j := 0) hin4 (g := (mkF m 50 #[vi 2, vi i1, vi i2, vi i3, vi i4] [(.int i1), (.int 0), (.ref b2), (.ref b2), (.ref b1), (.ref b1)])) rfl rfl (B d2_50)
  have s2 := (Keep.of_wr W5).1
  have z1 := Nat.le_trans Z0 s0
  have g_b2 : n0 ≤ b2 := Nat.le_trans z1 (Nat.le_of_eq g2.symm)
  have N5 := Fr.snoc X5 N0 g_b2
  have Vs5 : Arv Z h5 b2 k2 .char 2 [(.int (nar .char i1)), (.int 0)] (.int 0) := Arv.set Ar3 q3 S3 M3 Hs3 G3 (fits_nar_char _) W5 0 rfl (nl rfl)
  obtain ⟨cl6, Ar6, q6, S6, M6, Hs6, G6⟩ := id Vs5
  have hin7 := inb_of (j := 1) S6 ⟨by decide, by decide⟩
  obtain ⟨T8, h8, X8, e8, W8, st8⟩ := stC X5 hx hZ e5 Ar6 (j := 1) hin7 (g := (mkF m 54 #[vi 2, vi i1, vi i2, vi i3, vi i4] [(.int i2), (.int 1), (.ref b2), (.ref b2), (.ref b1), (.ref b1)])) rfl rfl (B d2_54)
  have s3 := (Keep.of_wr W8).1
  have N8 := Fr.snoc X8 N5 g_b2
  have Vs8 : Arv Z h8 b2 k2 .char 2 [(.int (nar .char i1)), (.int (nar .char i2))] (.int 0) := Arv.set Ar6 q6 S6 M6 Hs6 G6 (fits_nar_char _) W8 1 rfl (nl rfl)
  have Od1 := Od0.ext E1
  have Od2 := Od1.ext E2
  have Od3 := Od2.wr W5 g_b2
  have Od4 := Od3.wr W8 g_b2
  have cd9 : ¬ (65535 < (nar .char i1)) := (by rw [Int32.lt_iff_toInt_lt]; have : ((65535 : Int32)).toInt = 65535 := (by decide); have := rng32 (nar .char i1); have := rng32 i1; have := own_c_nar_char i1; omega)
  have cd10 : ¬ (65535 < (nar .char i2)) := (by rw [Int32.lt_iff_toInt_lt]; have : ((65535 : Int32)).toInt = 65535 := (by decide); have := rng32 (nar .char i2); have := rng32 i2; have := own_c_nar_char i2; omega)
  have ne_b1_b2 := Nat.ne_of_lt (Nat.lt_of_lt_of_le Fn1_value.lt (Nat.le_of_eq g2.symm))
  have Fl11 := (((Fn1_coder.ext E2).other W5 (Or.inl ne_b1_b2)).other W8 (Or.inl ne_b1_b2))
  have Ex12 := (((A1.ext E2).wr W5).wr W8)
  have g_b1 : n0 ≤ b1 := Nat.le_trans Z0 (Nat.le_of_eq g1.symm)
  have Fl13 := (((Fn1_value.ext E2).other W5 (Or.inl ne_b1_b2)).other W8 (Or.inl ne_b1_b2))
  have z4 := Nat.le_trans Z0 (Nat.le_trans (Nat.le_trans (Nat.le_trans s0 s1) s2) s3)
  obtain ⟨_, T14, L14, X14, hQ14, st14⟩ := own_special X8 hx hZ hown (y := y_3) (a := b1) (w_16 hw) (w_17 hw) (w_14 hw) (w_18 hw) (rm84 l Z hw b1 b2 (nar .char i1) (nar .char i2) k2 i5 h8 n0 z4 Vs8 S_COMPACT_STRINGS Od4 c6 S__assertionsDisabled S_HI_BYTE_SHIFT S_LO_BYTE_SHIFT cd9 cd10 c7 Fl11 Ex12 g_b1 Fl13) e8 (Ls := #[vi 2, vi i1, vi i2, vi i3, vi i4]) hml.symm (argsL := [(.ref b2)]) (rest := [(.ref b1)]) (lenOf pd_2 rfl) (B d2_55) (W := 1)
  obtain ⟨b14_0, k14_1, rfl, Nq14, K14, o14_0, o14_1, o14_2, o14_3, o14_4, o14_5⟩ := hQ14
  have N14 := Fr.app N8 Nq14
  have s4 := K14.1
  have sz_b1 : h0.size ≤ b1 := (Nat.le_of_eq g1.symm)
  have sz_b14_0 : h0.size ≤ b14_0 := Nat.le_trans (Nat.le_trans (Nat.le_trans (Nat.le_trans s0 s1) s2) s3) o14_3
  have ne_b1_b14_0 := Nat.ne_of_lt (Nat.lt_of_lt_of_le Fl13.lt o14_3)
  have Kp0 := (Keep.refl h0 []).ext E1
  have Kp1 := Kp0.ext E2
  have sz_b2 : h0.size ≤ b2 := Nat.le_trans s0 (Nat.le_of_eq g2.symm)
  have Kp2 := Kp1.wr W5 (Or.inr sz_b2)
  have Kp3 := Kp2.wr W8 (Or.inr sz_b2)
  have Kp4 := Kp3.trans K14 (allS (Or.inr sz_b1) all0)
  refine ⟨T14, _, _, _, (some (.ref b1)), X14, nofun, by decide, by decide, ?_, fun fs hr => ?_⟩
  · exact ⟨b1, b14_0, k14_1, rfl, N14, Kp4, sz_b1, o14_0, o14_1, o14_2, sz_b14_0, o14_4, o14_5, ne_b1_b14_0⟩
  · refine sI X0 hx (B d2_0) rfl ?_
    refine XS.ifYes X0.here hx rfl (pc0 := 1) (pc' := 15) rfl (B d2_1) rfl ((if0 _ _).trans (feq (by decide : ¬ ((2 : Int32) = (0 : Int32)))).2) (by decide) (by decide) ?_
    refine sI X0 hx (B d2_15) rfl ?_
    refine sC X0 hx (B d2_16) ?_
    refine XS.icmpYes X0.here hx rfl (pc0 := 17) (pc' := 35) rfl (B d2_17) rfl (feq (by decide : ¬ ((2 : Int32) = (1 : Int32)))).2 (by decide) (by decide) ?_
    refine sI X0 hx (B d2_35) rfl ?_
    refine sC X0 hx (B d2_36) ?_
    refine XS.icmpNo X0.here hx rfl (B d2_37) rfl (teq (by decide : (2 : Int32) = (2 : Int32))).2 ?_
    refine st1 _ ?_
    refine XS.dup X1.here hx rfl (B d2_43) rfl rfl ?_
    refine sC X1 hx (B d2_44) ?_
    refine st2 _ ?_
    refine XS.dup X2.here hx rfl (B d2_47) rfl rfl ?_
    refine sC X2 hx (B d2_48) ?_
    refine sI X2 hx (B d2_49) rfl ?_
    refine st5 _ ?_
    refine XS.dup X5.here hx rfl (B d2_51) rfl rfl ?_
    refine sC X5 hx (B d2_52) ?_
    refine sI X5 hx (B d2_53) rfl ?_
    refine st8 _ ?_
    refine st14 _ ?_
    exact retOut X14 hx hret rfl (Or.inr (Or.inr (Or.inr (Or.inr ⟨rfl, rfl, rfl⟩)))) (B d2_58) hr
abbrev Rm86 : Room := rmk 8 0 0 150
def Q86 (Z : State) (a1 a2 : Addr) (i3 i4 : Int32) (ck5 : ClassId) (i6 : Int32) (r8 : Value) (h0 : Heap) (n0 : Nat) (v : Option Value) (h : Heap) (L : List Loc) : Prop := v = some (.int (-1)) ∧ Fr n0 L ∧ h = h0
theorem rm86 (l : Launch) (Z : State) {a0 : Array Value} (hw : OW a0 Z) (a1 a2 : Addr) (i3 i4 : Int32) (ck5 : ClassId) (i6 : Int32) (r8 : Value) (h0 : Heap) (n0 : Nat) (Z0 : n0 ≤ h0.size) (E_a1 : Exa Z h0 a1 jS) (F_value_a1 : Fld Z h0 a1 jS "value" "[B" (.ref a2)) (V_a2 : Arv Z h0 a2 ck5 .byte 2 [(.int i3), (.int i4)] (.int 0)) (S_COMPACT_STRINGS : Sta Z Z.heap "java/lang/String" "COMPACT_STRINGS" "Z" (.int i6)) (Od0 : Old Z n0 h0) (c7 : ¬ (i6 = 0)) (F_coder_a1 : Fld Z h0 a1 jS "coder" "B" (.int 0)) (R_r8 : r8.isRef = true) (S_SIOOBE_FORMATTER : Sta Z Z.heap "jdk/internal/util/Preconditions" "SIOOBE_FORMATTER" "Ljava/util/function/BiFunction;" r8) :
    OwnMet l Z y_8 prog_10_method_10_code 3 (some .int) [] Rm86 #[(.ref a1)] h0 (Q86 Z a1 a2 i3 i4 ck5 i6 r8 h0 n0) := by
  refine own_body (plainFor_of_name pn_2) (ef_aae876 a1) ?_
  intro p e s m below meth c s₁ hx hby hml hown hnm hret hZ X0 e0
  have N0 := Fr.nil n0
  have B := hbx hby
  obtain ⟨T1, L1, X1, e1, N1, st1⟩ := tn55 l Z hw a1 (0 : Int32) .unset a2 [(.int i3), (.int i4)] ck5 (2 : Int32) i6 r8 i3 h0 n0 Z0 (Or.inl rfl) E_a1 F_value_a1 V_a2 S_COMPACT_STRINGS Od0 c7 F_coder_a1 (by decide) R_r8 S_SIOOBE_FORMATTER (by decide) (by decide) rfl hx hby hml hown hZ X0 e0 N0 (by decide) (by decide)
  obtain ⟨T2, L2, X2, e2, N2, st2⟩ := tn55 l Z hw a1 (1 : Int32) (vi (i3 &&& (255 : Int32))) a2 [(.int i3), (.int i4)] ck5 (2 : Int32) i6 r8 i4 h0 n0 Z0 (Or.inr ⟨_, rfl⟩) E_a1 F_value_a1 V_a2 S_COMPACT_STRINGS Od0 c7 F_coder_a1 (by decide) R_r8 S_SIOOBE_FORMATTER (by decide) (by decide) rfl hx hby hml hown hZ X1 e1 N1 (by decide) (by decide)
  obtain ⟨T3, L3, X3, e3, N3, st3⟩ := tn9 l Z hw a1 (2 : Int32) (vi (i4 &&& (255 : Int32))) a2 [(.int i3), (.int i4)] ck5 (2 : Int32) i6 h0 n0 Z0 (Or.inr ⟨_, rfl⟩) E_a1 F_value_a1 V_a2 S_COMPACT_STRINGS Od0 c7 F_coder_a1 (by decide) hx hby hml hown hZ X2 e2 N2 (by decide) (by decide)
  refine ⟨T3, _, _, _, (some (.int (-1))), X3, nofun, by decide, by decide, ?_, fun fs hr => ?_⟩
  · rw [e3]
    exact ⟨rfl, N3, rfl⟩
  · refine sC X0 hx (B d7_0) ?_
    refine XS.istoreN X0.here hx rfl (B d7_1) rfl (l' := #[vr a1, vi 0, un]) rfl ?_
    refine st1 _ ?_
    refine st2 _ ?_
    refine st3 _ ?_
    refine sC X3 hx (B d7_40) ?_
    exact retI X3 hx hret (B d7_41) hr
theorem own_finL_2 (c0 c1 : Int32) (h : ¬ own_cc1 c0 c1 = 0) : (-1 : Int32) = own_ex1 c0 c1 := by
  have q0 : ¬ 255 < c0 := fun q => h (by unfold own_cc1; simp only [if_pos q, ite_self])
  have k0 : own_kk c0 = 0 := by unfold own_kk; rw [if_pos]; rw [(own_i c0 255 255 (by decide)).2] at q0; rw [(own_i c0 55296 55296 (by decide)).1]; omega
  have q1 : ¬ 255 < c1 := fun q => h (by unfold own_cc1; simp only [if_pos q, ite_self])
  have k1 : own_kk c1 = 0 := by unfold own_kk; rw [if_pos]; rw [(own_i c1 255 255 (by decide)).2] at q1; rw [(own_i c1 55296 55296 (by decide)).1]; omega
  unfold own_ex1 own_ln1 own_ln2
  simp only [own_hi_k, own_lw_k, k0, k1] <;> decide
theorem rm0_2 (l : Launch) (Z : State) {a0 : Array Value} (hw : OW a0 Z) (ws : List Jvm.Cond) (p1 p2 p3 p4 p5 : Int32) (sr1 : Value) (si2 : Int32) (h0 : Heap) (n0 : Nat) (Z0 : n0 ≤ h0.size) (Od0 : Old Z n0 h0) (R_sr1 : sr1.isRef = true) (nc6 : ¬ (si2 = 0)) (S7_SIOOBE_FORMATTER : Sta Z Z.heap "jdk/internal/util/Preconditions" "SIOOBE_FORMATTER" "Ljava/util/function/BiFunction;" sr1) (S8_COMPACT_STRINGS : Sta Z Z.heap "java/lang/String" "COMPACT_STRINGS" "Z" (.int si2)) (S9__assertionsDisabled : Sta Z Z.heap "java/lang/StringUTF16" "$assertionsDisabled" "Z" (.int 1)) (S10_HI_BYTE_SHIFT : Sta Z Z.heap "java/lang/StringUTF16" "HI_BYTE_SHIFT" "I" (.int 0)) (S11_LO_BYTE_SHIFT : Sta Z Z.heap "java/lang/StringUTF16" "LO_BYTE_SHIFT" "I" (.int 8)) (hk : ((p5 &&& (2147483647 : Int32)) - ((p5 &&& (2147483647 : Int32)) / (5 : Int32)) * (5 : Int32)) = (2 : Int32)) :
    OwnMet l Z x code maxLocals ret ws room_1 #[(.int p1), (.int p2), (.int p3), (.int p4), (.int p5)] h0 (Q0 n0) := by
  refine own_body (plainFor_of_name pn_0) (ef0 p1 p2 p3 p4 p5) ?_
  intro p e s m below meth c s₁ hx hby hml hown hnm hret hZ X0 e0
  have N0 := Fr.nil n0
  have B := hbx hby
  obtain ⟨_, T1, L1, X1, hQ1, st1⟩ := own_callS X0 hx hZ hown (y := y_0) (w_1 hw) (w_2 hw) (w_3 hw) (w_4 hw) (rm1 l Z hw p1 h0 n0 Z0) e0 (Ls := #[vi p1, vi p2, vi p3, vi p4, vi p5, vi 2, un, un, un, un, un, un, un]) hml.symm (argsL := [(.int p1)]) (rest := []) (lenOf pd_0 rfl) (B at_10) (W := 0)
  obtain ⟨rfl, Nq1, e1⟩ := hQ1
  have N1 := Fr.app N0 Nq1
  obtain ⟨_, T2, L2, X2, hQ2, st2⟩ := own_callS X1 hx hZ hown (y := y_0) (w_1 hw) (w_2 hw) (w_3 hw) (w_4 hw) (rm1 l Z hw p2 h0 n0 Z0) e1 (Ls := #[vi p1, vi p2, vi p3, vi p4, vi p5, vi 2, vi (own_ch p1), un, un, un, un, un, un]) hml.symm (argsL := [(.int p2)]) (rest := []) (lenOf pd_0 rfl) (B at_16) (W := 0)
  obtain ⟨rfl, Nq2, e2⟩ := hQ2
  have N2 := Fr.app N1 Nq2
  obtain ⟨_, T3, L3, X3, hQ3, st3⟩ := own_callS X2 hx hZ hown (y := y_0) (w_1 hw) (w_2 hw) (w_3 hw) (w_4 hw) (rm1 l Z hw p3 h0 n0 Z0) e2 (Ls := #[vi p1, vi p2, vi p3, vi p4, vi p5, vi 2, vi (own_ch p1), vi (own_ch p2), un, un, un, un, un]) hml.symm (argsL := [(.int p3)]) (rest := []) (lenOf pd_0 rfl) (B at_22) (W := 0)
  obtain ⟨rfl, Nq3, e3⟩ := hQ3
  have N3 := Fr.app N2 Nq3
  obtain ⟨_, T4, L4, X4, hQ4, st4⟩ := own_callS X3 hx hZ hown (y := y_0) (w_1 hw) (w_2 hw) (w_3 hw) (w_4 hw) (rm1 l Z hw p4 h0 n0 Z0) e3 (Ls := #[vi p1, vi p2, vi p3, vi p4, vi p5, vi 2, vi (own_ch p1), vi (own_ch p2), vi (own_ch p3), un, un, un, un]) hml.symm (argsL := [(.int p4)]) (rest := []) (lenOf pd_0 rfl) (B at_28) (W := 0)
  obtain ⟨rfl, Nq4, e4⟩ := hQ4
  have N4 := Fr.app N3 Nq4
  by_cases cc1 : (own_cc1 (nar .char (own_ch p1)) (nar .char (own_ch p2))) = 0
  · obtain ⟨_, T5, L5, X5, hQ5, st5⟩ := own_callS X4 hx hZ hown (y := y_4) (w_9 hw) (w_10 hw) (w_3 hw) (w_11 hw) (rm68 l Z hw (own_ch p1) (own_ch p2) (own_ch p3) (own_ch p4) si2 h0 n0 Z0 S8_COMPACT_STRINGS Od0 nc6 S9__assertionsDisabled S10_HI_BYTE_SHIFT S11_LO_BYTE_SHIFT cc1) e4 (Ls := #[vi p1, vi p2, vi p3, vi p4, vi p5, vi 2, vi (own_ch p1), vi (own_ch p2), vi (own_ch p3), vi (own_ch p4), un, un, un]) hml.symm (argsL := [(.int 2), (.int (own_ch p1)), (.int (own_ch p2)), (.int (own_ch p3)), (.int (own_ch p4))]) (rest := []) (lenOf pd_3 rfl) (B at_43) (W := 0)
    obtain ⟨b5_0, b5_1, k5_2, rfl, Nq5, K5, o5_0, o5_1, o5_2, o5_3, o5_4, o5_5, o5_6, o5_7⟩ := hQ5
    have N5 := Fr.app N4 Nq5
    have s0 := K5.1
    obtain ⟨T6, h6, k6, X6, e6, E6, A6, B6, st6⟩ := newPE (aty := .char) X5 hx hZ (w_15 hw) rfl (g := (mkF m 49 #[vi p1, vi p2, vi p3, vi p4, vi p5, vi 2, vi (own_ch p1), vi (own_ch p2), vi (own_ch p3), vi (own_ch p4), vr b5_0, un, un] [(.int 4)])) rfl (B at_49) rfl (by decide) (cap := 4) (by decide) (by decide) (by decide) (by decide) (ad := "[C") (by decide)
    obtain ⟨b6, g6⟩ : ∃ z, z = T5.heap.size := ⟨_, rfl⟩
    rw [← g6] at A6 B6 st6
    have s1 := E6.1
    have Vn6 : Arv Z h6 b6 k6 .char 4 [(.int 0), (.int 0), (.int 0), (.int 0)] (.int 0) := (Arv.new A6 (by decide)).pad (pad_rep [] (.int 0) 4)
    obtain ⟨cl7, Ar7, q7, S7, M7, Hs7, G7⟩ := id Vn6
    have hin8 := inb_of (j := 0) S7 ⟨by decide, by decide⟩
    obtain ⟨T9, h9, X9, e9, W9, st9⟩ := stC X6 hx hZ e6 Ar7 (j := 0) hin8 (g := (mkF m 55 #[vi p1, vi p2, vi p3, vi p4, vi p5, vi 2, vi (own_ch p1), vi (own_ch p2), vi (own_ch p3), vi (own_ch p4), vr b5_0, un, un] [(.int (own_ch p1)), (.int 0), (.ref b6), (.ref b6)])) rfl rfl (B at_55)
    have s2 := (Keep.of_wr W9).1
    have z1 := Nat.le_trans Z0 s0
    have g_b6 : n0 ≤ b6 := Nat.le_trans z1 (Nat.le_of_eq g6.symm)
    have N9 := Fr.snoc X9 N5 g_b6
    have Vs9 : Arv Z h9 b6 k6 .char 4 [(.int (nar .char (own_ch p1))), (.int 0), (.int 0), (.int 0)] (.int 0) := Arv.set Ar7 q7 S7 M7 Hs7 G7 (fits_nar_char _) W9 0 rfl (nl rfl)
    obtain ⟨cl10, Ar10, q10, S10, M10, Hs10, G10⟩ := id Vs9
    have hin11 := inb_of (j := 1) S10 ⟨by decide, by decide⟩
    obtain ⟨T12, h12, X12, e12, W12, st12⟩ := stC X9 hx hZ e9 Ar10 (j := 1) hin11 (g := (mkF m 60 #[vi p1, vi p2, vi p3, vi p4, vi p5, vi 2, vi (own_ch p1), vi (own_ch p2), vi (own_ch p3), vi (own_ch p4), vr b5_0, un, un] [(.int (own_ch p2)), (.int 1), (.ref b6), (.ref b6)])) rfl rfl (B at_60)
    have s3 := (Keep.of_wr W12).1
    have N12 := Fr.snoc X12 N9 g_b6
    have Vs12 : Arv Z h12 b6 k6 .char 4 [(.int (nar .char (own_ch p1))), (.int (nar .char (own_ch p2))), (.int 0), (.int 0)] (.int 0) := Arv.set Ar10 q10 S10 M10 Hs10 G10 (fits_nar_char _) W12 1 rfl (nl rfl)
    obtain ⟨cl13, Ar13, q13, S13, M13, Hs13, G13⟩ := id Vs12
    have hin14 := inb_of (j := 2) S13 ⟨by decide, by decide⟩
    obtain ⟨T15, h15, X15, e15, W15, st15⟩ := stC X12 hx hZ e12 Ar13 (j := 2) hin14 (g := (mkF m 65 #[vi p1, vi p2, vi p3, vi p4, vi p5, vi 2, vi (own_ch p1), vi (own_ch p2), vi (own_ch p3), vi (own_ch p4), vr b5_0, un, un] [(.int (own_ch p3)), (.int 2), (.ref b6), (.ref b6)])) rfl rfl (B at_65)
    have s4 := (Keep.of_wr W15).1
    have N15 := Fr.snoc X15 N12 g_b6
    have Vs15 : Arv Z h15 b6 k6 .char 4 [(.int (nar .char (own_ch p1))), (.int (nar .char (own_ch p2))), (.int (nar .char (own_ch p3))), (.int 0)] (.int 0) := Arv.set Ar13 q13 S13 M13 Hs13 G13 (fits_nar_char _) W15 2 rfl (nl rfl)
    obtain ⟨cl16, Ar16, q16, S16, M16, Hs16, G16⟩ := id Vs15
    have hin17 := inb_of (j := 3) S16 ⟨by decide, by decide⟩
    obtain ⟨T18, h18, X18, e18, W18, st18⟩ := stC X15 hx hZ e15 Ar16 (j := 3) hin17 (g := (mkF m 70 #[vi p1, vi p2, vi p3, vi p4, vi p5, vi 2, vi (own_ch p1), vi (own_ch p2), vi (own_ch p3), vi (own_ch p4), vr b5_0, un, un] [(.int (own_ch p4)), (.int 3), (.ref b6), (.ref b6)])) rfl rfl (B at_70)
    have s5 := (Keep.of_wr W18).1
    have N18 := Fr.snoc X18 N15 g_b6
    have Vs18 : Arv Z h18 b6 k6 .char 4 [(.int (nar .char (own_ch p1))), (.int (nar .char (own_ch p2))), (.int (nar .char (own_ch p3))), (.int (nar .char (own_ch p4)))] (.int 0) := Arv.set Ar16 q16 S16 M16 Hs16 G16 (fits_nar_char _) W18 3 rfl (nl rfl)
    have z6 := Nat.le_trans Z0 (Nat.le_trans (Nat.le_trans (Nat.le_trans (Nat.le_trans (Nat.le_trans s0 s1) s2) s3) s4) s5)
    obtain ⟨T19, L19, X19, e19, N19, st19⟩ := tn71 l Z hw p1 p2 p3 p4 p5 (own_ch p1) (own_ch p2) (own_ch p3) (own_ch p4) b5_0 b6 (nar .char (own_ch p1)) (nar .char (own_ch p2)) (nar .char (own_ch p3)) (nar .char (own_ch p4)) k6 h18 n0 z6 Vs18 hx hby hml hown hZ X18 e18 N18 (by decide) (by decide)
    have Ex20 := (((((o5_1.ext E6).wr W9).wr W12).wr W15).wr W18)
    have ne_b5_0_b6 := Nat.ne_of_lt (Nat.lt_of_lt_of_le o5_3.lt (Nat.le_of_eq g6.symm))
    have Fl21 := (((((o5_3.ext E6).other W9 (Or.inl ne_b5_0_b6)).other W12 (Or.inl ne_b5_0_b6)).other W15 (Or.inl ne_b5_0_b6)).other W18 (Or.inl ne_b5_0_b6))
    have ne_b5_1_b6 := Nat.ne_of_lt (Nat.lt_of_lt_of_le o5_6.lt (Nat.le_of_eq g6.symm))
    have Va22 := (((((o5_6.ext E6).other W9 ne_b5_1_b6).other W12 ne_b5_1_b6).other W15 ne_b5_1_b6).other W18 ne_b5_1_b6)
    have Od1 := Od0.keep K5 all0
    have Od2 := Od1.ext E6
    have Od3 := Od2.wr W9 g_b6
    have Od4 := Od3.wr W12 g_b6
    have Od5 := Od4.wr W15 g_b6
    have Od6 := Od5.wr W18 g_b6
    have Fl23 := (((((o5_2.ext E6).other W9 (Or.inl ne_b5_0_b6)).other W12 (Or.inl ne_b5_0_b6)).other W15 (Or.inl ne_b5_0_b6)).other W18 (Or.inl ne_b5_0_b6))
    have cd24 : ¬ ((nar .char (own_ch p1)) < 0) := (by rw [Int32.lt_iff_toInt_lt]; have := rng32 (nar .char (own_ch p1)); have := rng32 (own_ch p1); have := own_ch_b p1; have := own_c_nar_char (own_ch p1); have : ((0 : Int32)).toInt = 0 := (by decide); omega)
    have cd25 : ¬ (65535 < (nar .char (own_ch p1))) := (by rw [Int32.lt_iff_toInt_lt]; have : ((65535 : Int32)).toInt = 65535 := (by decide); have := rng32 (nar .char (own_ch p1)); have := rng32 (own_ch p1); have := own_ch_b p1; have := own_c_nar_char (own_ch p1); omega)
    have cd26 : ¬ ((nar .char (own_ch p2)) < 0) := (by rw [Int32.lt_iff_toInt_lt]; have := rng32 (nar .char (own_ch p2)); have := rng32 (own_ch p2); have := own_ch_b p2; have := own_c_nar_char (own_ch p2); have : ((0 : Int32)).toInt = 0 := (by decide); omega)
    have cd27 : ¬ (65535 < (nar .char (own_ch p2))) := (by rw [Int32.lt_iff_toInt_lt]; have : ((65535 : Int32)).toInt = 65535 := (by decide); have := rng32 (nar .char (own_ch p2)); have := rng32 (own_ch p2); have := own_ch_b p2; have := own_c_nar_char (own_ch p2); omega)
    obtain ⟨_, T28, L28, X28, hQ28, st28⟩ := own_callS X19 hx hZ hown (y := y_8) (w_37 hw) (w_38 hw) (w_39 hw) (w_40 hw) (rm81 l Z hw b5_0 b5_1 (nar .byte (((nar .char (own_ch p1)) >>> ((0 : Int32) &&& 31)).toInt8.toInt32)) (nar .byte (((nar .char (own_ch p1)) >>> ((8 : Int32) &&& 31)).toInt8.toInt32)) (nar .byte (((nar .char (own_ch p2)) >>> ((0 : Int32) &&& 31)).toInt8.toInt32)) (nar .byte (((nar .char (own_ch p2)) >>> ((8 : Int32) &&& 31)).toInt8.toInt32)) k5_2 si2 sr1 h18 n0 z6 Ex20 Fl21 Va22 S8_COMPACT_STRINGS Od6 nc6 Fl23 R_sr1 S7_SIOOBE_FORMATTER S9__assertionsDisabled S10_HI_BYTE_SHIFT S11_LO_BYTE_SHIFT) e19 (Ls := #[vi p1, vi p2, vi p3, vi p4, vi p5, vi 2, vi (own_ch p1), vi (own_ch p2), vi (own_ch p3), vi (own_ch p4), vr b5_0, vr b6, vi (own_ex1 (nar .char (own_ch p1)) (nar .char (own_ch p2)))]) hml.symm (argsL := [(.ref b5_0)]) (rest := []) (lenOf pd_7 rfl) (B at_146) (W := 0)
    obtain ⟨rfl, Nq28, e28⟩ := hQ28
    have N28 := Fr.app N19 Nq28
    have cd29 : (own_un1 (nar .byte (((nar .char (own_ch p1)) >>> ((0 : Int32) &&& 31)).toInt8.toInt32)) (nar .byte (((nar .char (own_ch p1)) >>> ((8 : Int32) &&& 31)).toInt8.toInt32)) (nar .byte (((nar .char (own_ch p2)) >>> ((0 : Int32) &&& 31)).toInt8.toInt32)) (nar .byte (((nar .char (own_ch p2)) >>> ((8 : Int32) &&& 31)).toInt8.toInt32))) = (own_ex1 (nar .char (own_ch p1)) (nar .char (own_ch p2))) := (own_finU_2 (nar .char (own_ch p1)) (nar .char (own_ch p2)) cd24 cd25 cd26 cd27)
    refine ⟨T28, _, _, _, (some (.int 1)), X28, nofun, by decide, by decide, ?_, fun fs hr => ?_⟩
    · show Q0 n0 _ T28.heap _
      rw [e28]
      exact ⟨rfl, N28⟩
    · refine sJ X0 hx (B at_0) rfl ?_
      refine X0.ldcInt hx hown (mvT hZ (w_0 hw)) (g := (mkF m 2 #[vi p1, vi p2, vi p3, vi p4, vi p5, un, un, un, un, un, un, un, un] [(.int p5)])) rfl (B at_2) _ ?_
      refine XS.iand X0.here hx rfl (B at_4) rfl ?_
      refine sC X0 hx (B at_5) ?_
      refine XS.irem X0.here hx rfl (B at_6) rfl (by decide : ¬ ((5 : Int32) = (0 : Int32))) ?_
      show Steps p.tables e below (s₁.setTop (mkF m 7 #[vi p1, vi p2, vi p3, vi p4, vi p5, un, un, un, un, un, un, un, un] [(.int ((p5 &&& (2147483647 : Int32)) - ((p5 &&& (2147483647 : Int32)) / (5 : Int32)) * (5 : Int32)))])) _
      rw [hk]
      refine XS.istore X0.here hx rfl (B at_7) rfl (l' := #[vi p1, vi p2, vi p3, vi p4, vi p5, vi 2, un, un, un, un, un, un, un]) rfl ?_
      refine sI X0 hx (B at_9) rfl ?_
      refine st1 _ ?_
      refine XS.istore X1.here hx rfl (B at_13) rfl (l' := #[vi p1, vi p2, vi p3, vi p4, vi p5, vi 2, vi (own_ch p1), un, un, un, un, un, un]) rfl ?_
      refine sI X1 hx (B at_15) rfl ?_
      refine st2 _ ?_
      refine XS.istore X2.here hx rfl (B at_19) rfl (l' := #[vi p1, vi p2, vi p3, vi p4, vi p5, vi 2, vi (own_ch p1), vi (own_ch p2), un, un, un, un, un]) rfl ?_
      refine sI X2 hx (B at_21) rfl ?_
      refine st3 _ ?_
      refine XS.istore X3.here hx rfl (B at_25) rfl (l' := #[vi p1, vi p2, vi p3, vi p4, vi p5, vi 2, vi (own_ch p1), vi (own_ch p2), vi (own_ch p3), un, un, un, un]) rfl ?_
      refine sI X3 hx (B at_27) rfl ?_
      refine st4 _ ?_
      refine XS.istore X4.here hx rfl (B at_31) rfl (l' := #[vi p1, vi p2, vi p3, vi p4, vi p5, vi 2, vi (own_ch p1), vi (own_ch p2), vi (own_ch p3), vi (own_ch p4), un, un, un]) rfl ?_
      refine sJ X4 hx (B at_33) rfl ?_
      refine sJ X4 hx (B at_35) rfl ?_
      refine sJ X4 hx (B at_37) rfl ?_
      refine sJ X4 hx (B at_39) rfl ?_
      refine sJ X4 hx (B at_41) rfl ?_
      refine st5 _ ?_
      refine XS.astore X5.here hx rfl (B at_46) rfl rfl (l' := #[vi p1, vi p2, vi p3, vi p4, vi p5, vi 2, vi (own_ch p1), vi (own_ch p2), vi (own_ch p3), vi (own_ch p4), vr b5_0, un, un]) rfl ?_
      refine sC X5 hx (B at_48) ?_
      refine st6 _ ?_
      refine XS.dup X6.here hx rfl (B at_51) rfl rfl ?_
      refine sC X6 hx (B at_52) ?_
      refine sJ X6 hx (B at_53) rfl ?_
      refine st9 _ ?_
      refine XS.dup X9.here hx rfl (B at_56) rfl rfl ?_
      refine sC X9 hx (B at_57) ?_
      refine sJ X9 hx (B at_58) rfl ?_
      refine st12 _ ?_
      refine XS.dup X12.here hx rfl (B at_61) rfl rfl ?_
      refine sC X12 hx (B at_62) ?_
      refine sJ X12 hx (B at_63) rfl ?_
      refine st15 _ ?_
      refine XS.dup X15.here hx rfl (B at_66) rfl rfl ?_
      refine sC X15 hx (B at_67) ?_
      refine sJ X15 hx (B at_68) rfl ?_
      refine st18 _ ?_
      refine XS.astore X18.here hx rfl (B at_71) rfl rfl (l' := #[vi p1, vi p2, vi p3, vi p4, vi p5, vi 2, vi (own_ch p1), vi (own_ch p2), vi (own_ch p3), vi (own_ch p4), vr b5_0, vr b6, un]) rfl ?_
      refine st19 _ ?_
      refine sB X19 hx (B at_144) rfl rfl ?_
      refine st28 _ ?_
      refine sJ X28 hx (B at_149) rfl ?_
      refine XS.icmpNo X28.here hx rfl (B at_151) rfl (teq cd29).2 ?_
      refine sC X28 hx (B at_154) ?_
      refine XS.goto X28.here hx rfl (pc0 := 155) (pc' := 159) rfl (B at_155) (by decide) (by decide) ?_
      exact retN X28 hx (t := .boolean) hret (by simp) (B at_159) hr
  · obtain ⟨_, T5, L5, X5, hQ5, st5⟩ := own_callS X4 hx hZ hown (y := y_4) (w_9 hw) (w_10 hw) (w_3 hw) (w_11 hw) (rm85 l Z hw (own_ch p1) (own_ch p2) (own_ch p3) (own_ch p4) si2 h0 n0 Z0 S8_COMPACT_STRINGS Od0 nc6 S9__assertionsDisabled S10_HI_BYTE_SHIFT S11_LO_BYTE_SHIFT cc1) e4 (Ls := #[vi p1, vi p2, vi p3, vi p4, vi p5, vi 2, vi (own_ch p1), vi (own_ch p2), vi (own_ch p3), vi (own_ch p4), un, un, un]) hml.symm (argsL := [(.int 2), (.int (own_ch p1)), (.int (own_ch p2)), (.int (own_ch p3)), (.int (own_ch p4))]) (rest := []) (lenOf pd_3 rfl) (B at_43) (W := 0)
    obtain ⟨b5_0, b5_1, k5_2, rfl, Nq5, K5, o5_0, o5_1, o5_2, o5_3, o5_4, o5_5, o5_6, o5_7⟩ := hQ5
    have N5 := Fr.app N4 Nq5
    have s0 := K5.1
    obtain ⟨T6, h6, k6, X6, e6, E6, A6, B6, st6⟩ := newPE (aty := .char) X5 hx hZ (w_15 hw) rfl (g := (mkF m 49 #[vi p1, vi p2, vi p3, vi p4, vi p5, vi 2, vi (own_ch p1), vi (own_ch p2), vi (own_ch p3), vi (own_ch p4), vr b5_0, un, un] [(.int 4)])) rfl (B at_49) rfl (by decide) (cap := 4) (by decide) (by decide) (by decide) (by decide) (ad := "[C") (by decide)
    obtain ⟨b6, g6⟩ : ∃ z, z = T5.heap.size := ⟨_, rfl⟩
    rw [← g6] at A6 B6 st6
    have s1 := E6.1
    have Vn6 : Arv Z h6 b6 k6 .char 4 [(.int 0), (.int 0), (.int 0), (.int 0)] (.int 0) := (Arv.new A6 (by decide)).pad (pad_rep [] (.int 0) 4)
    obtain ⟨cl7, Ar7, q7, S7, M7, Hs7, G7⟩ := id Vn6
    have hin8 := inb_of (j := 0) S7 ⟨by decide, by decide⟩
    obtain ⟨T9, h9, X9, e9, W9, st9⟩ := stC X6 hx hZ e6 Ar7 (j := 0) hin8 (g := (mkF m 55 #[vi p1, vi p2, vi p3, vi p4, vi p5, vi 2, vi (own_ch p1), vi (own_ch p2), vi (own_ch p3), vi (own_ch p4), vr b5_0, un, un] [(.int (own_ch p1)), (.int 0), (.ref b6), (.ref b6)])) rfl rfl (B at_55)
    have s2 := (Keep.of_wr W9).1
    have z1 := Nat.le_trans Z0 s0
    have g_b6 : n0 ≤ b6 := Nat.le_trans z1 (Nat.le_of_eq g6.symm)
    have N9 := Fr.snoc X9 N5 g_b6
    have Vs9 : Arv Z h9 b6 k6 .char 4 [(.int (nar .char (own_ch p1))), (.int 0), (.int 0), (.int 0)] (.int 0) := Arv.set Ar7 q7 S7 M7 Hs7 G7 (fits_nar_char _) W9 0 rfl (nl rfl)
    obtain ⟨cl10, Ar10, q10, S10, M10, Hs10, G10⟩ := id Vs9
    have hin11 := inb_of (j := 1) S10 ⟨by decide, by decide⟩
    obtain ⟨T12, h12, X12, e12, W12, st12⟩ := stC X9 hx hZ e9 Ar10 (j := 1) hin11 (g := (mkF m 60 #[vi p1, vi p2, vi p3, vi p4, vi p5, vi 2, vi (own_ch p1), vi (own_ch p2), vi (own_ch p3), vi (own_ch p4), vr b5_0, un, un] [(.int (own_ch p2)), (.int 1), (.ref b6), (.ref b6)])) rfl rfl (B at_60)
    have s3 := (Keep.of_wr W12).1
    have N12 := Fr.snoc X12 N9 g_b6
    have Vs12 : Arv Z h12 b6 k6 .char 4 [(.int (nar .char (own_ch p1))), (.int (nar .char (own_ch p2))), (.int 0), (.int 0)] (.int 0) := Arv.set Ar10 q10 S10 M10 Hs10 G10 (fits_nar_char _) W12 1 rfl (nl rfl)
    obtain ⟨cl13, Ar13, q13, S13, M13, Hs13, G13⟩ := id Vs12
    have hin14 := inb_of (j := 2) S13 ⟨by decide, by decide⟩
    obtain ⟨T15, h15, X15, e15, W15, st15⟩ := stC X12 hx hZ e12 Ar13 (j := 2) hin14 (g := (mkF m 65 #[vi p1, vi p2, vi p3, vi p4, vi p5, vi 2, vi (own_ch p1), vi (own_ch p2), vi (own_ch p3), vi (own_ch p4), vr b5_0, un, un] [(.int (own_ch p3)), (.int 2), (.ref b6), (.ref b6)])) rfl rfl (B at_65)
    have s4 := (Keep.of_wr W15).1
    have N15 := Fr.snoc X15 N12 g_b6
    have Vs15 : Arv Z h15 b6 k6 .char 4 [(.int (nar .char (own_ch p1))), (.int (nar .char (own_ch p2))), (.int (nar .char (own_ch p3))), (.int 0)] (.int 0) := Arv.set Ar13 q13 S13 M13 Hs13 G13 (fits_nar_char _) W15 2 rfl (nl rfl)
    obtain ⟨cl16, Ar16, q16, S16, M16, Hs16, G16⟩ := id Vs15
    have hin17 := inb_of (j := 3) S16 ⟨by decide, by decide⟩
    obtain ⟨T18, h18, X18, e18, W18, st18⟩ := stC X15 hx hZ e15 Ar16 (j := 3) hin17 (g := (mkF m 70 #[vi p1, vi p2, vi p3, vi p4, vi p5, vi 2, vi (own_ch p1), vi (own_ch p2), vi (own_ch p3), vi (own_ch p4), vr b5_0, un, un] [(.int (own_ch p4)), (.int 3), (.ref b6), (.ref b6)])) rfl rfl (B at_70)
    have s5 := (Keep.of_wr W18).1
    have N18 := Fr.snoc X18 N15 g_b6
    have Vs18 : Arv Z h18 b6 k6 .char 4 [(.int (nar .char (own_ch p1))), (.int (nar .char (own_ch p2))), (.int (nar .char (own_ch p3))), (.int (nar .char (own_ch p4)))] (.int 0) := Arv.set Ar16 q16 S16 M16 Hs16 G16 (fits_nar_char _) W18 3 rfl (nl rfl)
    have z6 := Nat.le_trans Z0 (Nat.le_trans (Nat.le_trans (Nat.le_trans (Nat.le_trans (Nat.le_trans s0 s1) s2) s3) s4) s5)
    obtain ⟨T19, L19, X19, e19, N19, st19⟩ := tn71 l Z hw p1 p2 p3 p4 p5 (own_ch p1) (own_ch p2) (own_ch p3) (own_ch p4) b5_0 b6 (nar .char (own_ch p1)) (nar .char (own_ch p2)) (nar .char (own_ch p3)) (nar .char (own_ch p4)) k6 h18 n0 z6 Vs18 hx hby hml hown hZ X18 e18 N18 (by decide) (by decide)
    have Ex20 := (((((o5_1.ext E6).wr W9).wr W12).wr W15).wr W18)
    have ne_b5_0_b6 := Nat.ne_of_lt (Nat.lt_of_lt_of_le o5_3.lt (Nat.le_of_eq g6.symm))
    have Fl21 := (((((o5_3.ext E6).other W9 (Or.inl ne_b5_0_b6)).other W12 (Or.inl ne_b5_0_b6)).other W15 (Or.inl ne_b5_0_b6)).other W18 (Or.inl ne_b5_0_b6))
    have ne_b5_1_b6 := Nat.ne_of_lt (Nat.lt_of_lt_of_le o5_6.lt (Nat.le_of_eq g6.symm))
    have Va22 := (((((o5_6.ext E6).other W9 ne_b5_1_b6).other W12 ne_b5_1_b6).other W15 ne_b5_1_b6).other W18 ne_b5_1_b6)
    have Od1 := Od0.keep K5 all0
    have Od2 := Od1.ext E6
    have Od3 := Od2.wr W9 g_b6
    have Od4 := Od3.wr W12 g_b6
    have Od5 := Od4.wr W15 g_b6
    have Od6 := Od5.wr W18 g_b6
    have Fl23 := (((((o5_2.ext E6).other W9 (Or.inl ne_b5_0_b6)).other W12 (Or.inl ne_b5_0_b6)).other W15 (Or.inl ne_b5_0_b6)).other W18 (Or.inl ne_b5_0_b6))
    obtain ⟨_, T24, L24, X24, hQ24, st24⟩ := own_callS X19 hx hZ hown (y := y_8) (w_37 hw) (w_38 hw) (w_39 hw) (w_40 hw) (rm86 l Z hw b5_0 b5_1 (nar .byte ((nar .char (own_ch p1)).toInt8.toInt32)) (nar .byte ((nar .char (own_ch p2)).toInt8.toInt32)) k5_2 si2 sr1 h18 n0 z6 Ex20 Fl21 Va22 S8_COMPACT_STRINGS Od6 nc6 Fl23 R_sr1 S7_SIOOBE_FORMATTER) e19 (Ls := #[vi p1, vi p2, vi p3, vi p4, vi p5, vi 2, vi (own_ch p1), vi (own_ch p2), vi (own_ch p3), vi (own_ch p4), vr b5_0, vr b6, vi (own_ex1 (nar .char (own_ch p1)) (nar .char (own_ch p2)))]) hml.symm (argsL := [(.ref b5_0)]) (rest := []) (lenOf pd_7 rfl) (B at_146) (W := 0)
    obtain ⟨rfl, Nq24, e24⟩ := hQ24
    have N24 := Fr.app N19 Nq24
    have cd25 : ¬ ((nar .char (own_ch p1)) < 0) := (by rw [Int32.lt_iff_toInt_lt]; have := rng32 (nar .char (own_ch p1)); have := rng32 (own_ch p1); have := own_ch_b p1; have := own_c_nar_char (own_ch p1); have : ((0 : Int32)).toInt = 0 := (by decide); omega)
    have cd26 : ¬ (65535 < (nar .char (own_ch p1))) := (by rw [Int32.lt_iff_toInt_lt]; have : ((65535 : Int32)).toInt = 65535 := (by decide); have := rng32 (nar .char (own_ch p1)); have := rng32 (own_ch p1); have := own_ch_b p1; have := own_c_nar_char (own_ch p1); omega)
    have cd27 : ¬ ((nar .char (own_ch p2)) < 0) := (by rw [Int32.lt_iff_toInt_lt]; have := rng32 (nar .char (own_ch p2)); have := rng32 (own_ch p2); have := own_ch_b p2; have := own_c_nar_char (own_ch p2); have : ((0 : Int32)).toInt = 0 := (by decide); omega)
    have cd28 : ¬ (65535 < (nar .char (own_ch p2))) := (by rw [Int32.lt_iff_toInt_lt]; have : ((65535 : Int32)).toInt = 65535 := (by decide); have := rng32 (nar .char (own_ch p2)); have := rng32 (own_ch p2); have := own_ch_b p2; have := own_c_nar_char (own_ch p2); omega)
    have cd29 : (-1) = (own_ex1 (nar .char (own_ch p1)) (nar .char (own_ch p2))) := (own_finL_2 (nar .char (own_ch p1)) (nar .char (own_ch p2)) cc1)
    refine ⟨T24, _, _, _, (some (.int 1)), X24, nofun, by decide, by decide, ?_, fun fs hr => ?_⟩
    · show Q0 n0 _ T24.heap _
      rw [e24]
      exact ⟨rfl, N24⟩
    · refine sJ X0 hx (B at_0) rfl ?_
      refine X0.ldcInt hx hown (mvT hZ (w_0 hw)) (g := (mkF m 2 #[vi p1, vi p2, vi p3, vi p4, vi p5, un, un, un, un, un, un, un, un] [(.int p5)])) rfl (B at_2) _ ?_
      refine XS.iand X0.here hx rfl (B at_4) rfl ?_
      refine sC X0 hx (B at_5) ?_
      refine XS.irem X0.here hx rfl (B at_6) rfl (by decide : ¬ ((5 : Int32) = (0 : Int32))) ?_
      show Steps p.tables e below (s₁.setTop (mkF m 7 #[vi p1, vi p2, vi p3, vi p4, vi p5, un, un, un, un, un, un, un, un] [(.int ((p5 &&& (2147483647 : Int32)) - ((p5 &&& (2147483647 : Int32)) / (5 : Int32)) * (5 : Int32)))])) _
      rw [hk]
      refine XS.istore X0.here hx rfl (B at_7) rfl (l' := #[vi p1, vi p2, vi p3, vi p4, vi p5, vi 2, un, un, un, un, un, un, un]) rfl ?_
      refine sI X0 hx (B at_9) rfl ?_
      refine st1 _ ?_
      refine XS.istore X1.here hx rfl (B at_13) rfl (l' := #[vi p1, vi p2, vi p3, vi p4, vi p5, vi 2, vi (own_ch p1), un, un, un, un, un, un]) rfl ?_
      refine sI X1 hx (B at_15) rfl ?_
      refine st2 _ ?_
      refine XS.istore X2.here hx rfl (B at_19) rfl (l' := #[vi p1, vi p2, vi p3, vi p4, vi p5, vi 2, vi (own_ch p1), vi (own_ch p2), un, un, un, un, un]) rfl ?_
      refine sI X2 hx (B at_21) rfl ?_
      refine st3 _ ?_
      refine XS.istore X3.here hx rfl (B at_25) rfl (l' := #[vi p1, vi p2, vi p3, vi p4, vi p5, vi 2, vi (own_ch p1), vi (own_ch p2), vi (own_ch p3), un, un, un, un]) rfl ?_
      refine sI X3 hx (B at_27) rfl ?_
      refine st4 _ ?_
      refine XS.istore X4.here hx rfl (B at_31) rfl (l' := #[vi p1, vi p2, vi p3, vi p4, vi p5, vi 2, vi (own_ch p1), vi (own_ch p2), vi (own_ch p3), vi (own_ch p4), un, un, un]) rfl ?_
      refine sJ X4 hx (B at_33) rfl ?_
      refine sJ X4 hx (B at_35) rfl ?_
      refine sJ X4 hx (B at_37) rfl ?_
      refine sJ X4 hx (B at_39) rfl ?_
      refine sJ X4 hx (B at_41) rfl ?_
      refine st5 _ ?_
      refine XS.astore X5.here hx rfl (B at_46) rfl rfl (l' := #[vi p1, vi p2, vi p3, vi p4, vi p5, vi 2, vi (own_ch p1), vi (own_ch p2), vi (own_ch p3), vi (own_ch p4), vr b5_0, un, un]) rfl ?_
      refine sC X5 hx (B at_48) ?_
      refine st6 _ ?_
      refine XS.dup X6.here hx rfl (B at_51) rfl rfl ?_
      refine sC X6 hx (B at_52) ?_
      refine sJ X6 hx (B at_53) rfl ?_
      refine st9 _ ?_
      refine XS.dup X9.here hx rfl (B at_56) rfl rfl ?_
      refine sC X9 hx (B at_57) ?_
      refine sJ X9 hx (B at_58) rfl ?_
      refine st12 _ ?_
      refine XS.dup X12.here hx rfl (B at_61) rfl rfl ?_
      refine sC X12 hx (B at_62) ?_
      refine sJ X12 hx (B at_63) rfl ?_
      refine st15 _ ?_
      refine XS.dup X15.here hx rfl (B at_66) rfl rfl ?_
      refine sC X15 hx (B at_67) ?_
      refine sJ X15 hx (B at_68) rfl ?_
      refine st18 _ ?_
      refine XS.astore X18.here hx rfl (B at_71) rfl rfl (l' := #[vi p1, vi p2, vi p3, vi p4, vi p5, vi 2, vi (own_ch p1), vi (own_ch p2), vi (own_ch p3), vi (own_ch p4), vr b5_0, vr b6, un]) rfl ?_
      refine st19 _ ?_
      refine sB X19 hx (B at_144) rfl rfl ?_
      refine st24 _ ?_
      refine sJ X24 hx (B at_149) rfl ?_
      refine XS.icmpNo X24.here hx rfl (B at_151) rfl (teq cd29).2 ?_
      refine sC X24 hx (B at_154) ?_
      refine XS.goto X24.here hx rfl (pc0 := 155) (pc' := 159) rfl (B at_155) (by decide) (by decide) ?_
      exact retN X24 hx (t := .boolean) hret (by simp) (B at_159) hr
theorem d2_59 : decode Kc2 59 = .ok (.iload_n 0, 1) := by decide +kernel
theorem d2_60 : decode Kc2 60 = .ok (.iconst 3, 1) := by decide +kernel
theorem d2_61 : decode Kc2 61 = .ok (.if_icmp .ne 26, 3) := by decide +kernel
theorem d2_64 : decode Kc2 64 = .ok (.new 33, 3) := by decide +kernel
theorem d2_67 : decode Kc2 67 = .ok (.dup, 1) := by decide +kernel
theorem d2_68 : decode Kc2 68 = .ok (.iconst 3, 1) := by decide +kernel
theorem d2_69 : decode Kc2 69 = .ok (.newarray .char, 2) := by decide +kernel
theorem d2_71 : decode Kc2 71 = .ok (.dup, 1) := by decide +kernel
theorem d2_72 : decode Kc2 72 = .ok (.iconst 0, 1) := by decide +kernel
theorem d2_73 : decode Kc2 73 = .ok (.iload_n 1, 1) := by decide +kernel
theorem d2_74 : decode Kc2 74 = .ok (.castore, 1) := by decide +kernel
theorem d2_75 : decode Kc2 75 = .ok (.dup, 1) := by decide +kernel
theorem d2_76 : decode Kc2 76 = .ok (.iconst 1, 1) := by decide +kernel
theorem d2_77 : decode Kc2 77 = .ok (.iload_n 2, 1) := by decide +kernel
theorem d2_78 : decode Kc2 78 = .ok (.castore, 1) := by decide +kernel
theorem d2_79 : decode Kc2 79 = .ok (.dup, 1) := by decide +kernel
theorem d2_80 : decode Kc2 80 = .ok (.iconst 2, 1) := by decide +kernel
theorem d2_81 : decode Kc2 81 = .ok (.iload_n 3, 1) := by decide +kernel
theorem d2_82 : decode Kc2 82 = .ok (.castore, 1) := by decide +kernel
theorem d2_83 : decode Kc2 83 = .ok (.invokespecial 35, 3) := by decide +kernel
theorem ef_ff2d24 (a1 : Addr) (a2 : Addr) (m : MethodId) : entryFrame m #[(.ref a1), (.int 0), (.ref a2), (.int 0), (.int 3)] 7 = mkF m 0 #[.val (.ref a1), .val (.int 0), .val (.ref a2), .val (.int 0), .val (.int 3), .unset, .unset] [] := by first | (simp [entryFrame, mkF, argsToLocals, Value.category]; done) | rfl
abbrev Rm87 : Room := rmk 0 0 0 0
def Q87 (Z : State) (a1 a2 : Addr) (i3 i4 i5 : Int32) (ck6 : ClassId) (h0 : Heap) (n0 : Nat) (v : Option Value) (h : Heap) (L : List Loc) : Prop := v = some (.int 0) ∧ Fr n0 L ∧ h = h0
theorem rm87 (l : Launch) (Z : State) {a0 : Array Value} (hw : OW a0 Z) (a1 a2 : Addr) (i3 i4 i5 : Int32) (ck6 : ClassId) (h0 : Heap) (n0 : Nat) (Z0 : n0 ≤ h0.size) (V_a1 : Arv Z h0 a1 ck6 .char 3 [(.int i3), (.int i4), (.int i5)] (.int 0)) (c7 : 255 < i3) :
    OwnMet l Z y_9 jdk_52_method_21_code 7 (some .int) [] Rm87 #[(.ref a1), (.int 0), (.ref a2), (.int 0), (.int 3)] h0 (Q87 Z a1 a2 i3 i4 i5 ck6 h0 n0) := by
  refine own_body (plainFor_of_name pn_3) (ef_ff2d24 a1 a2) ?_
  intro p e s m below meth c s₁ hx hby hml hown hnm hret hZ X0 e0
  have N0 := Fr.nil n0
  have B := hbx hby
  obtain ⟨cl1, Ar1, q1, S1, M1, Hs1, G1⟩ := id V_a1
  have hin2 := inb_of (j := 0) S1 ⟨by decide, by decide⟩
  refine ⟨s₁, _, _, _, (some (.int 0)), X0, nofun, by decide, by decide, ?_, fun fs hr => ?_⟩
  · rw [e0]
    exact ⟨rfl, N0, rfl⟩
  · refine sC X0 hx (B d11_0) ?_
    refine XS.istore X0.here hx rfl (B d11_1) rfl (l' := #[vr a1, vi 0, vr a2, vi 0, vi 3, vi 0, un]) rfl ?_
    refine sJ X0 hx (B d11_3) rfl ?_
    refine sJ X0 hx (B d11_5) rfl ?_
    refine XS.icmpNo X0.here hx rfl (B d11_7) rfl (tlt (by decide : (0 : Int32) < (3 : Int32))).2.1 ?_
    refine sA X0 hx (B d11_10) rfl rfl ?_
    refine sI X0 hx (B d11_11) rfl ?_
    refine X0.caload hx (j := 0) (v := (.int i3)) (by rw [e0]; exact Ar1.1) (State.isArrayOf_alike hZ.alike Ar1.2.1) Ar1.2.2 hin2 (Has.at Hs1 hin2 rfl) (g := (mkF m 12 #[vr a1, vi 0, vr a2, vi 0, vi 3, vi 0, un] [(.int 0), (.ref a1)])) rfl rfl (B d11_12) _ ?_
    refine XS.istore X0.here hx rfl (B d11_13) rfl (l' := #[vr a1, vi 0, vr a2, vi 0, vi 3, vi 0, vi i3]) rfl ?_
    refine sJ X0 hx (B d11_15) rfl ?_
    refine XS.sipush X0.here hx rfl (B d11_17) ?_
    refine XS.icmpNo X0.here hx rfl (B d11_20) rfl (tlt c7).2.2.2 ?_
    refine sJ X0 hx (B d11_23) rfl ?_
    exact retI X0 hx hret (B d11_25) hr
theorem ef_5d6f3a  (m : MethodId) : entryFrame m #[(.int 3)] 1 = mkF m 0 #[.val (.int 3)] [] := by first | (simp [entryFrame, mkF, argsToLocals, Value.category]; done) | rfl
abbrev Rm88 : Room := rmk 0 0 0 0
def Q88 (Z : State)  (h0 : Heap) (n0 : Nat) (v : Option Value) (h : Heap) (L : List Loc) : Prop := v = some (.int 6) ∧ Fr n0 L ∧ h = h0
theorem rm88 (l : Launch) (Z : State) {a0 : Array Value} (hw : OW a0 Z)  (h0 : Heap) (n0 : Nat) (Z0 : n0 ≤ h0.size) :
    OwnMet l Z y_10 jdk_52_method_3_code 1 (some .int) [] Rm88 #[(.int 3)] h0 (Q88 Z  h0 n0) := by
  refine own_body (plainFor_of_name pn_3) (ef_5d6f3a) ?_
  intro p e s m below meth c s₁ hx hby hml hown hnm hret hZ X0 e0
  have N0 := Fr.nil n0
  have B := hbx hby
  refine ⟨s₁, _, _, _, (some (.int 6)), X0, nofun, by decide, by decide, ?_, fun fs hr => ?_⟩
  · rw [e0]
    exact ⟨rfl, N0, rfl⟩
  · refine sI X0 hx (B d14_0) rfl ?_
    refine XS.ifYes X0.here hx rfl (pc0 := 1) (pc' := 12) rfl (B d14_1) rfl ((if0 _ _).trans (flt (by decide : ¬ ((3 : Int32) < (0 : Int32)))).2.1) (by decide) (by decide) ?_
    refine sI X0 hx (B d14_12) rfl ?_
    refine X0.ldcInt hx hown (mvT hZ (w_69 hw)) (g := (mkF m 13 #[vi 3] [(.int 3)])) rfl (B d14_13) _ ?_
    refine XS.icmpYes X0.here hx rfl (pc0 := 15) (pc' := 55) rfl (B d14_15) rfl (tlt (by decide : (3 : Int32) < (1073741823 : Int32))).1 (by decide) (by decide) ?_
    refine sI X0 hx (B d14_55) rfl ?_
    refine sC X0 hx (B d14_56) ?_
    refine XS.ishl X0.here hx rfl (B d14_57) rfl ?_
    exact retI X0 hx hret (B d14_58) hr
abbrev Rm89 : Room := rmk 1 1 6 12
def Q89 (Z : State)  (h0 : Heap) (n0 : Nat) (v : Option Value) (h : Heap) (L : List Loc) : Prop := ∃ b2 : Addr, ∃ k2 : ClassId, v = some (.ref b2) ∧ Fr n0 L ∧ Keep h0 h [] ∧ h0.size ≤ b2 ∧ Exa Z h b2 "[B" ∧ Arv Z h b2 k2 .byte 6 [(.int 0), (.int 0), (.int 0), (.int 0), (.int 0), (.int 0)] (.int 0)
theorem rm89 (l : Launch) (Z : State) {a0 : Array Value} (hw : OW a0 Z)  (h0 : Heap) (n0 : Nat) (Z0 : n0 ≤ h0.size) :
    OwnMet l Z y_11 jdk_52_method_2_code 1 (some (.array .byte)) [] Rm89 #[(.int 3)] h0 (Q89 Z  h0 n0) := by
  refine own_body (plainFor_of_name pn_3) (ef_5d6f3a) ?_
  intro p e s m below meth c s₁ hx hby hml hown hnm hret hZ X0 e0
  have N0 := Fr.nil n0
  have B := hbx hby
  obtain ⟨_, T1, L1, X1, hQ1, st1⟩ := own_callS X0 hx hZ hown (y := y_10) (w_66 hw) (w_67 hw) (w_55 hw) (w_68 hw) (rm88 l Z hw  h0 n0 Z0) e0 (Ls := #[vi 3]) hml.symm (argsL := [(.int 3)]) (rest := []) (lenOf pd_9 rfl) (B d13_1) (W := 0)
  obtain ⟨rfl, Nq1, e1⟩ := hQ1
  have N1 := Fr.app N0 Nq1
  obtain ⟨T2, h2, k2, X2, e2, E2, A2, B2, st2⟩ := newPE (aty := .byte) X1 hx hZ (w_27 hw) e1 (g := (mkF m 4 #[vi 3] [(.int 6)])) rfl (B d13_4) rfl (by decide) (cap := 6) (by decide) (by decide) (by decide) (by decide) (ad := "[B") (by decide)
  obtain ⟨b2, g2⟩ : ∃ z, z = h0.size := ⟨_, rfl⟩
  rw [← g2] at A2 B2 st2
  have s0 := E2.1
  have Vn2 : Arv Z h2 b2 k2 .byte 6 [(.int 0), (.int 0), (.int 0), (.int 0), (.int 0), (.int 0)] (.int 0) := (Arv.new A2 (by decide)).pad (pad_rep [] (.int 0) 6)
  have sz_b2 : h0.size ≤ b2 := (Nat.le_of_eq g2.symm)
  have Kp0 := (Keep.refl h0 []).ext E2
  refine ⟨T2, _, _, _, (some (.ref b2)), X2, nofun, by decide, by decide, ?_, fun fs hr => ?_⟩
  · rw [e2]
    exact ⟨b2, k2, rfl, N1, Kp0, sz_b2, B2, Vn2⟩
  · refine sI X0 hx (B d13_0) rfl ?_
    refine st1 _ ?_
    refine st2 _ ?_
    exact retOut X2 hx hret rfl (Or.inr (Or.inr (Or.inr (Or.inr ⟨rfl, rfl, rfl⟩)))) (B d13_6) hr
abbrev Rm90 : Room := rmk 0 0 0 0
def Q90 (Z : State) (a1 : Addr) (i2 : Int32) (ck3 : ClassId) (h0 : Heap) (n0 : Nat) (v : Option Value) (h : Heap) (L : List Loc) : Prop := v = none ∧ Fr n0 L ∧ Keep h0 h [a1] ∧ Exa Z h a1 "[B" ∧ Arv Z h a1 ck3 .byte 6 [(.int (nar .byte ((i2 >>> ((0 : Int32) &&& 31)).toInt8.toInt32))), (.int (nar .byte ((i2 >>> ((8 : Int32) &&& 31)).toInt8.toInt32))), (.int 0), (.int 0), (.int 0), (.int 0)] (.int 0)
theorem rm90 (l : Launch) (Z : State) {a0 : Array Value} (hw : OW a0 Z) (a1 : Addr) (i2 : Int32) (ck3 : ClassId) (h0 : Heap) (n0 : Nat) (Z0 : n0 ≤ h0.size) (S__assertionsDisabled : Sta Z Z.heap "java/lang/StringUTF16" "$assertionsDisabled" "Z" (.int 1)) (Od0 : Old Z n0 h0) (S_HI_BYTE_SHIFT : Sta Z Z.heap "java/lang/StringUTF16" "HI_BYTE_SHIFT" "I" (.int 0)) (V_a1 : Arv Z h0 a1 ck3 .byte 6 [(.int 0), (.int 0), (.int 0), (.int 0), (.int 0), (.int 0)] (.int 0)) (g_a1 : n0 ≤ a1) (S_LO_BYTE_SHIFT : Sta Z Z.heap "java/lang/StringUTF16" "LO_BYTE_SHIFT" "I" (.int 8)) (E_a1 : Exa Z h0 a1 "[B") :
    OwnMet l Z y_12 jdk_52_method_4_code 3 none [] Rm90 #[(.ref a1), (.int 0), (.int i2)] h0 (Q90 Z a1 i2 ck3 h0 n0) := by
  refine own_body (plainFor_of_name pn_3) (ef_3f9849 a1 i2) ?_
  intro p e s m below meth c s₁ hx hby hml hown hnm hret hZ X0 e0
  have N0 := Fr.nil n0
  have B := hbx hby
  obtain ⟨T1, X1, e1, st1⟩ := getS2 X0 hx hZ hown (host := "") (Or.inl (w_73 hw)) Via.refl e0 (S__assertionsDisabled.ext Od0.2) (g := (mkF m 0 #[vr a1, vi 0, vi i2] [])) rfl (B d15_0)
  obtain ⟨T2, X2, e2, st2⟩ := getS2 X1 hx hZ hown (host := "") (Or.inl (w_74 hw)) Via.refl e1 (S_HI_BYTE_SHIFT.ext Od0.2) (g := (mkF m 38 #[vr a1, vi 1, vi i2] [(.int i2), (.int 0), (.ref a1)])) rfl (B d15_38)
  obtain ⟨cl3, Ar3, q3, S3, M3, Hs3, G3⟩ := id V_a1
  have hin4 := inb_of (j := 0) S3 ⟨by decide, by decide⟩
  obtain ⟨T5, h5, X5, e5, W5, st5⟩ := stB X2 hx hZ e2 Ar3 (j := 0) hin4 (g := (mkF m 43 #[vr a1, vi 1, vi i2] [(.int ((i2 >>> ((0 : Int32) &&& 31)).toInt8.toInt32)), (.int 0), (.ref a1)])) rfl rfl (B d15_43)
  have s0 := (Keep.of_wr W5).1
  have N5 := Fr.snoc X5 N0 g_a1
  have Vs5 : Arv Z h5 a1 ck3 .byte 6 [(.int (nar .byte ((i2 >>> ((0 : Int32) &&& 31)).toInt8.toInt32))), (.int 0), (.int 0), (.int 0), (.int 0), (.int 0)] (.int 0) := Arv.set Ar3 q3 S3 M3 Hs3 G3 (fits_nar_byte _) W5 0 rfl (nl rfl)
  have Od1 := Od0.wr W5 g_a1
  obtain ⟨T6, X6, e6, st6⟩ := getS2 X5 hx hZ hown (host := "") (Or.inl (w_75 hw)) Via.refl e5 (S_LO_BYTE_SHIFT.ext Od1.2) (g := (mkF m 47 #[vr a1, vi 1, vi i2] [(.int i2), (.int 1), (.ref a1)])) rfl (B d15_47)
  obtain ⟨cl7, Ar7, q7, S7, M7, Hs7, G7⟩ := id Vs5
  have hin8 := inb_of (j := 1) S7 ⟨by decide, by decide⟩
  obtain ⟨T9, h9, X9, e9, W9, st9⟩ := stB X6 hx hZ e6 Ar7 (j := 1) hin8 (g := (mkF m 52 #[vr a1, vi 1, vi i2] [(.int ((i2 >>> ((8 : Int32) &&& 31)).toInt8.toInt32)), (.int 1), (.ref a1)])) rfl rfl (B d15_52)
  have s1 := (Keep.of_wr W9).1
  have N9 := Fr.snoc X9 N5 g_a1
  have Vs9 : Arv Z h9 a1 ck3 .byte 6 [(.int (nar .byte ((i2 >>> ((0 : Int32) &&& 31)).toInt8.toInt32))), (.int (nar .byte ((i2 >>> ((8 : Int32) &&& 31)).toInt8.toInt32))), (.int 0), (.int 0), (.int 0), (.int 0)] (.int 0) := Arv.set Ar7 q7 S7 M7 Hs7 G7 (fits_nar_byte _) W9 1 rfl (nl rfl)
  have Ex10 := ((E_a1.wr W5).wr W9)
  have Kp0 := (Keep.refl h0 [a1]).wr W5 own_m0
  have Kp1 := Kp0.wr W9 own_m0
  refine ⟨T9, _, _, _, none, X9, (fun _ => rfl), by decide, by decide, ?_, fun fs hr => ?_⟩
  · rw [e9]
    exact ⟨rfl, N9, Kp1, Ex10, Vs9⟩
  · refine st1 _ ?_
    refine XS.ifYes X1.here hx rfl (pc0 := 3) (pc' := 28) rfl (B d15_3) rfl ((if0 _ _).trans (feq (by decide : ¬ ((1 : Int32) = (0 : Int32)))).2) (by decide) (by decide) ?_
    refine sI X1 hx (B d15_28) rfl ?_
    refine sC X1 hx (B d15_29) ?_
    refine XS.ishl X1.here hx rfl (B d15_30) rfl ?_
    refine XS.istoreN X1.here hx rfl (B d15_31) rfl (l' := #[vr a1, vi 0, vi i2]) rfl ?_
    refine sA X1 hx (B d15_32) rfl rfl ?_
    refine sI X1 hx (B d15_33) rfl ?_
    refine XS.iinc X1.here hx rfl (B d15_34) rfl (l' := #[vr a1, vi 1, vi i2]) rfl ?_
    refine sI X1 hx (B d15_37) rfl ?_
    refine st2 _ ?_
    refine XS.ishr X2.here hx rfl (B d15_41) rfl ?_
    refine XS.i2b X2.here hx rfl (B d15_42) rfl ?_
    refine st5 _ ?_
    refine sA X5 hx (B d15_44) rfl rfl ?_
    refine sI X5 hx (B d15_45) rfl ?_
    refine sI X5 hx (B d15_46) rfl ?_
    refine st6 _ ?_
    refine XS.ishr X6.here hx rfl (B d15_50) rfl ?_
    refine XS.i2b X6.here hx rfl (B d15_51) rfl ?_
    refine st9 _ ?_
    exact X9.returnOut hx hret (B d15_53) hr
abbrev Rm91 : Room := rmk 0 0 0 0
def Q91 (Z : State) (a1 : Addr) (i2 i3 i4 : Int32) (ck5 : ClassId) (h0 : Heap) (n0 : Nat) (v : Option Value) (h : Heap) (L : List Loc) : Prop := v = none ∧ Fr n0 L ∧ Keep h0 h [a1] ∧ Exa Z h a1 "[B" ∧ Arv Z h a1 ck5 .byte 6 [(.int i3), (.int i4), (.int (nar .byte ((i2 >>> ((0 : Int32) &&& 31)).toInt8.toInt32))), (.int (nar .byte ((i2 >>> ((8 : Int32) &&& 31)).toInt8.toInt32))), (.int 0), (.int 0)] (.int 0)
theorem rm91 (l : Launch) (Z : State) {a0 : Array Value} (hw : OW a0 Z) (a1 : Addr) (i2 i3 i4 : Int32) (ck5 : ClassId) (h0 : Heap) (n0 : Nat) (Z0 : n0 ≤ h0.size) (S__assertionsDisabled : Sta Z Z.heap "java/lang/StringUTF16" "$assertionsDisabled" "Z" (.int 1)) (Od0 : Old Z n0 h0) (S_HI_BYTE_SHIFT : Sta Z Z.heap "java/lang/StringUTF16" "HI_BYTE_SHIFT" "I" (.int 0)) (V_a1 : Arv Z h0 a1 ck5 .byte 6 [(.int i3), (.int i4), (.int 0), (.int 0), (.int 0), (.int 0)] (.int 0)) (g_a1 : n0 ≤ a1) (S_LO_BYTE_SHIFT : Sta Z Z.heap "java/lang/StringUTF16" "LO_BYTE_SHIFT" "I" (.int 8)) (E_a1 : Exa Z h0 a1 "[B") :
    OwnMet l Z y_12 jdk_52_method_4_code 3 none [] Rm91 #[(.ref a1), (.int 1), (.int i2)] h0 (Q91 Z a1 i2 i3 i4 ck5 h0 n0) := by
  refine own_body (plainFor_of_name pn_3) (ef_6ab81b a1 i2) ?_
  intro p e s m below meth c s₁ hx hby hml hown hnm hret hZ X0 e0
  have N0 := Fr.nil n0
  have B := hbx hby
  obtain ⟨T1, X1, e1, st1⟩ := getS2 X0 hx hZ hown (host := "") (Or.inl (w_73 hw)) Via.refl e0 (S__assertionsDisabled.ext Od0.2) (g := (mkF m 0 #[vr a1, vi 1, vi i2] [])) rfl (B d15_0)
  obtain ⟨T2, X2, e2, st2⟩ := getS2 X1 hx hZ hown (host := "") (Or.inl (w_74 hw)) Via.refl e1 (S_HI_BYTE_SHIFT.ext Od0.2) (g := (mkF m 38 #[vr a1, vi 3, vi i2] [(.int i2), (.int 2), (.ref a1)])) rfl (B d15_38)
  obtain ⟨cl3, Ar3, q3, S3, M3, Hs3, G3⟩ := id V_a1
  have hin4 := inb_of (j := 2) S3 ⟨by decide, by decide⟩
  obtain ⟨T5, h5, X5, e5, W5, st5⟩ := stB X2 hx hZ e2 Ar3 (j := 2) hin4 (g := (mkF m 43 #[vr a1, vi 3, vi i2] [(.int ((i2 >>> ((0 : Int32) &&& 31)).toInt8.toInt32)), (.int 2), (.ref a1)])) rfl rfl (B d15_43)
  have s0 := (Keep.of_wr W5).1
  have N5 := Fr.snoc X5 N0 g_a1
  have Vs5 : Arv Z h5 a1 ck5 .byte 6 [(.int i3), (.int i4), (.int (nar .byte ((i2 >>> ((0 : Int32) &&& 31)).toInt8.toInt32))), (.int 0), (.int 0), (.int 0)] (.int 0) := Arv.set Ar3 q3 S3 M3 Hs3 G3 (fits_nar_byte _) W5 2 rfl (nl rfl)
  have Od1 := Od0.wr W5 g_a1
  obtain ⟨T6, X6, e6, st6⟩ := getS2 X5 hx hZ hown (host := "") (Or.inl (w_75 hw)) Via.refl e5 (S_LO_BYTE_SHIFT.ext Od1.2) (g := (mkF m 47 #[vr a1, vi 3, vi i2] [(.int i2), (.int 3), (.ref a1)])) rfl (B d15_47)
  obtain ⟨cl7, Ar7, q7, S7, M7, Hs7, G7⟩ := id Vs5
  have hin8 := inb_of (j := 3) S7 ⟨by decide, by decide⟩
  obtain ⟨T9, h9, X9, e9, W9, st9⟩ := stB X6 hx hZ e6 Ar7 (j := 3) hin8 (g := (mkF m 52 #[vr a1, vi 3, vi i2] [(.int ((i2 >>> ((8 : Int32) &&& 31)).toInt8.toInt32)), (.int 3), (.ref a1)])) rfl rfl (B d15_52)
  have s1 := (Keep.of_wr W9).1
  have N9 := Fr.snoc X9 N5 g_a1
  have Vs9 : Arv Z h9 a1 ck5 .byte 6 [(.int i3), (.int i4), (.int (nar .byte ((i2 >>> ((0 : Int32) &&& 31)).toInt8.toInt32))), (.int (nar .byte ((i2 >>> ((8 : Int32) &&& 31)).toInt8.toInt32))), (.int 0), (.int 0)] (.int 0) := Arv.set Ar7 q7 S7 M7 Hs7 G7 (fits_nar_byte _) W9 3 rfl (nl rfl)
  have Ex10 := ((E_a1.wr W5).wr W9)
  have Kp0 := (Keep.refl h0 [a1]).wr W5 own_m0
  have Kp1 := Kp0.wr W9 own_m0
  refine ⟨T9, _, _, _, none, X9, (fun _ => rfl), by decide, by decide, ?_, fun fs hr => ?_⟩
  · rw [e9]
    exact ⟨rfl, N9, Kp1, Ex10, Vs9⟩
  · refine st1 _ ?_
    refine XS.ifYes X1.here hx rfl (pc0 := 3) (pc' := 28) rfl (B d15_3) rfl ((if0 _ _).trans (feq (by decide : ¬ ((1 : Int32) = (0 : Int32)))).2) (by decide) (by decide) ?_
    refine sI X1 hx (B d15_28) rfl ?_
    refine sC X1 hx (B d15_29) ?_
    refine XS.ishl X1.here hx rfl (B d15_30) rfl ?_
    refine XS.istoreN X1.here hx rfl (B d15_31) rfl (l' := #[vr a1, vi 2, vi i2]) rfl ?_
    refine sA X1 hx (B d15_32) rfl rfl ?_
    refine sI X1 hx (B d15_33) rfl ?_
    refine XS.iinc X1.here hx rfl (B d15_34) rfl (l' := #[vr a1, vi 3, vi i2]) rfl ?_
    refine sI X1 hx (B d15_37) rfl ?_
    refine st2 _ ?_
    refine XS.ishr X2.here hx rfl (B d15_41) rfl ?_
    refine XS.i2b X2.here hx rfl (B d15_42) rfl ?_
    refine st5 _ ?_
    refine sA X5 hx (B d15_44) rfl rfl ?_
    refine sI X5 hx (B d15_45) rfl ?_
    refine sI X5 hx (B d15_46) rfl ?_
    refine st6 _ ?_
    refine XS.ishr X6.here hx rfl (B d15_50) rfl ?_
    refine XS.i2b X6.here hx rfl (B d15_51) rfl ?_
    refine st9 _ ?_
    exact X9.returnOut hx hret (B d15_53) hr
theorem ef_ca8b96 (a1 : Addr) (i2 : Int32) (m : MethodId) : entryFrame m #[(.ref a1), (.int 2), (.int i2)] 3 = mkF m 0 #[.val (.ref a1), .val (.int 2), .val (.int i2)] [] := by first | (simp [entryFrame, mkF, argsToLocals, Value.category]; done) | rfl
abbrev Rm92 : Room := rmk 0 0 0 0
def Q92 (Z : State) (a1 : Addr) (i2 i3 i4 i5 i6 : Int32) (ck7 : ClassId) (h0 : Heap) (n0 : Nat) (v : Option Value) (h : Heap) (L : List Loc) : Prop := v = none ∧ Fr n0 L ∧ Keep h0 h [a1] ∧ Exa Z h a1 "[B" ∧ Arv Z h a1 ck7 .byte 6 [(.int i3), (.int i4), (.int i5), (.int i6), (.int (nar .byte ((i2 >>> ((0 : Int32) &&& 31)).toInt8.toInt32))), (.int (nar .byte ((i2 >>> ((8 : Int32) &&& 31)).toInt8.toInt32)))] (.int 0)
theorem rm92 (l : Launch) (Z : State) {a0 : Array Value} (hw : OW a0 Z) (a1 : Addr) (i2 i3 i4 i5 i6 : Int32) (ck7 : ClassId) (h0 : Heap) (n0 : Nat) (Z0 : n0 ≤ h0.size) (S__assertionsDisabled : Sta Z Z.heap "java/lang/StringUTF16" "$assertionsDisabled" "Z" (.int 1)) (Od0 : Old Z n0 h0) (S_HI_BYTE_SHIFT : Sta Z Z.heap "java/lang/StringUTF16" "HI_BYTE_SHIFT" "I" (.int 0)) (V_a1 : Arv Z h0 a1 ck7 .byte 6 [(.int i3), (.int i4), (.int i5), (.int i6), (.int 0), (.int 0)] (.int 0)) (g_a1 : n0 ≤ a1) (S_LO_BYTE_SHIFT : Sta Z Z.heap "java/lang/StringUTF16" "LO_BYTE_SHIFT" "I" (.int 8)) (E_a1 : Exa Z h0 a1 "[B") :
    OwnMet l Z y_12 jdk_52_method_4_code 3 none [] Rm92 #[(.ref a1), (.int 2), (.int i2)] h0 (Q92 Z a1 i2 i3 i4 i5 i6 ck7 h0 n0) := by
  refine own_body (plainFor_of_name pn_3) (ef_ca8b96 a1 i2) ?_
  intro p e s m below meth c s₁ hx hby hml hown hnm hret hZ X0 e0
  have N0 := Fr.nil n0
  have B := hbx hby
  obtain ⟨T1, X1, e1, st1⟩ := getS2 X0 hx hZ hown (host := "") (Or.inl (w_73 hw)) Via.refl e0 (S__assertionsDisabled.ext Od0.2) (g := (mkF m 0 #[vr a1, vi 2, vi i2] [])) rfl (B d15_0)
  obtain ⟨T2, X2, e2, st2⟩ := getS2 X1 hx hZ hown (host := "") (Or.inl (w_74 hw)) Via.refl e1 (S_HI_BYTE_SHIFT.ext Od0.2) (g := (mkF m 38 #[vr a1, vi 5, vi i2] [(.int i2), (.int 4), (.ref a1)])) rfl (B d15_38)
  obtain ⟨cl3, Ar3, q3, S3, M3, Hs3, G3⟩ := id V_a1
  have hin4 := inb_of (j := 4) S3 ⟨by decide, by decide⟩
  obtain ⟨T5, h5, X5, e5, W5, st5⟩ := stB X2 hx hZ e2 Ar3 (j := 4) hin4 (g := (mkF m 43 #[vr a1, vi 5, vi i2] [(.int ((i2 >>> ((0 : Int32) &&& 31)).toInt8.toInt32)), (.int 4), (.ref a1)])) rfl rfl (B d15_43)
  have s0 := (Keep.of_wr W5).1
  have N5 := Fr.snoc X5 N0 g_a1
  have Vs5 : Arv Z h5 a1 ck7 .byte 6 [(.int i3), (.int i4), (.int i5), (.int i6), (.int (nar .byte ((i2 >>> ((0 : Int32) &&& 31)).toInt8.toInt32))), (.int 0)] (.int 0) := Arv.set Ar3 q3 S3 M3 Hs3 G3 (fits_nar_byte _) W5 4 rfl (nl rfl)
  have Od1 := Od0.wr W5 g_a1
  obtain ⟨T6, X6, e6, st6⟩ := getS2 X5 hx hZ hown (host := "") (Or.inl (w_75 hw)) Via.refl e5 (S_LO_BYTE_SHIFT.ext Od1.2) (g := (mkF m 47 #[vr a1, vi 5, vi i2] [(.int i2), (.int 5), (.ref a1)])) rfl (B d15_47)
  obtain ⟨cl7, Ar7, q7, S7, M7, Hs7, G7⟩ := id Vs5
  have hin8 := inb_of (j := 5) S7 ⟨by decide, by decide⟩
  obtain ⟨T9, h9, X9, e9, W9, st9⟩ := stB X6 hx hZ e6 Ar7 (j := 5) hin8 (g := (mkF m 52 #[vr a1, vi 5, vi i2] [(.int ((i2 >>> ((8 : Int32) &&& 31)).toInt8.toInt32)), (.int 5), (.ref a1)])) rfl rfl (B d15_52)
  have s1 := (Keep.of_wr W9).1
  have N9 := Fr.snoc X9 N5 g_a1
  have Vs9 : Arv Z h9 a1 ck7 .byte 6 [(.int i3), (.int i4), (.int i5), (.int i6), (.int (nar .byte ((i2 >>> ((0 : Int32) &&& 31)).toInt8.toInt32))), (.int (nar .byte ((i2 >>> ((8 : Int32) &&& 31)).toInt8.toInt32)))] (.int 0) := Arv.set Ar7 q7 S7 M7 Hs7 G7 (fits_nar_byte _) W9 5 rfl (nl rfl)
  have Ex10 := ((E_a1.wr W5).wr W9)
  have Kp0 := (Keep.refl h0 [a1]).wr W5 own_m0
  have Kp1 := Kp0.wr W9 own_m0
  refine ⟨T9, _, _, _, none, X9, (fun _ => rfl), by decide, by decide, ?_, fun fs hr => ?_⟩
  · rw [e9]
    exact ⟨rfl, N9, Kp1, Ex10, Vs9⟩
  · refine st1 _ ?_
    refine XS.ifYes X1.here hx rfl (pc0 := 3) (pc' := 28) rfl (B d15_3) rfl ((if0 _ _).trans (feq (by decide : ¬ ((1 : Int32) = (0 : Int32)))).2) (by decide) (by decide) ?_
    refine sI X1 hx (B d15_28) rfl ?_
    refine sC X1 hx (B d15_29) ?_
    refine XS.ishl X1.here hx rfl (B d15_30) rfl ?_
    refine XS.istoreN X1.here hx rfl (B d15_31) rfl (l' := #[vr a1, vi 4, vi i2]) rfl ?_
    refine sA X1 hx (B d15_32) rfl rfl ?_
    refine sI X1 hx (B d15_33) rfl ?_
    refine XS.iinc X1.here hx rfl (B d15_34) rfl (l' := #[vr a1, vi 5, vi i2]) rfl ?_
    refine sI X1 hx (B d15_37) rfl ?_
    refine st2 _ ?_
    refine XS.ishr X2.here hx rfl (B d15_41) rfl ?_
    refine XS.i2b X2.here hx rfl (B d15_42) rfl ?_
    refine st5 _ ?_
    refine sA X5 hx (B d15_44) rfl rfl ?_
    refine sI X5 hx (B d15_45) rfl ?_
    refine sI X5 hx (B d15_46) rfl ?_
    refine st6 _ ?_
    refine XS.ishr X6.here hx rfl (B d15_50) rfl ?_
    refine XS.i2b X6.here hx rfl (B d15_51) rfl ?_
    refine st9 _ ?_
    exact X9.returnOut hx hret (B d15_53) hr
theorem ef_005845 (a1 : Addr) (m : MethodId) : entryFrame m #[(.ref a1), (.int 0), (.int 3)] 5 = mkF m 0 #[.val (.ref a1), .val (.int 0), .val (.int 3), .unset, .unset] [] := by first | (simp [entryFrame, mkF, argsToLocals, Value.category]; done) | rfl
abbrev Rm93 : Room := rmk 2 1 6 24
def Q93 (Z : State) (a1 : Addr) (i2 i3 i4 : Int32) (ck5 : ClassId) (h0 : Heap) (n0 : Nat) (v : Option Value) (h : Heap) (L : List Loc) : Prop := ∃ b1_0 : Addr, ∃ k1_1 : ClassId, v = some (.ref b1_0) ∧ Fr n0 L ∧ Keep h0 h [] ∧ h0.size ≤ b1_0 ∧ Exa Z h b1_0 "[B" ∧ Arv Z h b1_0 k1_1 .byte 6 [(.int (nar .byte ((i2 >>> ((0 : Int32) &&& 31)).toInt8.toInt32))), (.int (nar .byte ((i2 >>> ((8 : Int32) &&& 31)).toInt8.toInt32))), (.int (nar .byte ((i3 >>> ((0 : Int32) &&& 31)).toInt8.toInt32))), (.int (nar .byte ((i3 >>> ((8 : Int32) &&& 31)).toInt8.toInt32))), (.int (nar .byte ((i4 >>> ((0 : Int32) &&& 31)).toInt8.toInt32))), (.int (nar .byte ((i4 >>> ((8 : Int32) &&& 31)).toInt8.toInt32)))] (.int 0)
theorem rm93 (l : Launch) (Z : State) {a0 : Array Value} (hw : OW a0 Z) (a1 : Addr) (i2 i3 i4 : Int32) (ck5 : ClassId) (h0 : Heap) (n0 : Nat) (Z0 : n0 ≤ h0.size) (V_a1 : Arv Z h0 a1 ck5 .char 3 [(.int i2), (.int i3), (.int i4)] (.int 0)) (S__assertionsDisabled : Sta Z Z.heap "java/lang/StringUTF16" "$assertionsDisabled" "Z" (.int 1)) (Od0 : Old Z n0 h0) (S_HI_BYTE_SHIFT : Sta Z Z.heap "java/lang/StringUTF16" "HI_BYTE_SHIFT" "I" (.int 0)) (S_LO_BYTE_SHIFT : Sta Z Z.heap "java/lang/StringUTF16" "LO_BYTE_SHIFT" "I" (.int 8)) :
    OwnMet l Z y_13 jdk_52_method_14_code 5 (some (.array .byte)) [] Rm93 #[(.ref a1), (.int 0), (.int 3)] h0 (Q93 Z a1 i2 i3 i4 ck5 h0 n0) := by
  refine own_body (plainFor_of_name pn_3) (ef_005845 a1) ?_
  intro p e s m below meth c s₁ hx hby hml hown hnm hret hZ X0 e0
  have N0 := Fr.nil n0
  have B := hbx hby
  obtain ⟨_, T1, L1, X1, hQ1, st1⟩ := own_callS X0 hx hZ hown (y := y_11) (w_63 hw) (w_64 hw) (w_55 hw) (w_65 hw) (rm89 l Z hw  h0 n0 Z0) e0 (Ls := #[vr a1, vi 0, vi 3, un, un]) hml.symm (argsL := [(.int 3)]) (rest := []) (lenOf pd_10 rfl) (B d12_1) (W := 0)
  obtain ⟨b1_0, k1_1, rfl, Nq1, K1, o1_0, o1_1, o1_2⟩ := hQ1
  have N1 := Fr.app N0 Nq1
  have s0 := K1.1
  have Va2 := (V_a1.keep K1 nin0)
  obtain ⟨cl3, Ar3, q3, S3, M3, Hs3, G3⟩ := id Va2
  have hin4 := inb_of (j := 0) S3 ⟨by decide, by decide⟩
  have Od1 := Od0.keep K1 all0
  have g_b1_0 : n0 ≤ b1_0 := Nat.le_trans Z0 o1_0
  have z1 := Nat.le_trans Z0 s0
  obtain ⟨_, T5, L5, X5, hQ5, st5⟩ := own_callS X1 hx hZ hown (y := y_12) (w_70 hw) (w_71 hw) (w_55 hw) (w_72 hw) (rm90 l Z hw b1_0 i2 k1_1 T1.heap n0 z1 S__assertionsDisabled Od1 S_HI_BYTE_SHIFT o1_2 g_b1_0 S_LO_BYTE_SHIFT o1_1) rfl (Ls := #[vr a1, vi 0, vi 3, vr b1_0, vi 0]) hml.symm (argsL := [(.ref b1_0), (.int 0), (.int i2)]) (rest := []) (lenOf pd_11 rfl) (B d12_20) (W := 0)
  obtain ⟨rfl, Nq5, K5, o5_0, o5_1⟩ := hQ5
  have N5 := Fr.app N1 Nq5
  have s1 := K5.1
  have ne_a1_b1_0 := Nat.ne_of_lt (Nat.lt_of_lt_of_le V_a1.lt o1_0)
  have Va6 := (Va2.keep K5 (ninS ne_a1_b1_0 nin0))
  obtain ⟨cl7, Ar7, q7, S7, M7, Hs7, G7⟩ := id Va6
  have hin8 := inb_of (j := 1) S7 ⟨by decide, by decide⟩
  have Od2 := Od1.keep K5 (allS g_b1_0 all0)
  have z2 := Nat.le_trans Z0 (Nat.le_trans s0 s1)
  obtain ⟨_, T9, L9, X9, hQ9, st9⟩ := own_callS X5 hx hZ hown (y := y_12) (w_70 hw) (w_71 hw) (w_55 hw) (w_72 hw) (rm91 l Z hw b1_0 i3 (nar .byte ((i2 >>> ((0 : Int32) &&& 31)).toInt8.toInt32)) (nar .byte ((i2 >>> ((8 : Int32) &&& 31)).toInt8.toInt32)) k1_1 T5.heap n0 z2 S__assertionsDisabled Od2 S_HI_BYTE_SHIFT o5_1 g_b1_0 S_LO_BYTE_SHIFT o5_0) rfl (Ls := #[vr a1, vi 1, vi 3, vr b1_0, vi 1]) hml.symm (argsL := [(.ref b1_0), (.int 1), (.int i3)]) (rest := []) (lenOf pd_11 rfl) (B d12_20) (W := 0)
  obtain ⟨rfl, Nq9, K9, o9_0, o9_1⟩ := hQ9
  have N9 := Fr.app N5 Nq9
  have s2 := K9.1
  have Va10 := (Va6.keep K9 (ninS ne_a1_b1_0 nin0))
  obtain ⟨cl11, Ar11, q11, S11, M11, Hs11, G11⟩ := id Va10
  have hin12 := inb_of (j := 2) S11 ⟨by decide, by decide⟩
  have Od3 := Od2.keep K9 (allS g_b1_0 all0)
  have z3 := Nat.le_trans Z0 (Nat.le_trans (Nat.le_trans s0 s1) s2)
  obtain ⟨_, T13, L13, X13, hQ13, st13⟩ := own_callS X9 hx hZ hown (y := y_12) (w_70 hw) (w_71 hw) (w_55 hw) (w_72 hw) (rm92 l Z hw b1_0 i4 (nar .byte ((i2 >>> ((0 : Int32) &&& 31)).toInt8.toInt32)) (nar .byte ((i2 >>> ((8 : Int32) &&& 31)).toInt8.toInt32)) (nar .byte ((i3 >>> ((0 : Int32) &&& 31)).toInt8.toInt32)) (nar .byte ((i3 >>> ((8 : Int32) &&& 31)).toInt8.toInt32)) k1_1 T9.heap n0 z3 S__assertionsDisabled Od3 S_HI_BYTE_SHIFT o9_1 g_b1_0 S_LO_BYTE_SHIFT o9_0) rfl (Ls := #[vr a1, vi 2, vi 3, vr b1_0, vi 2]) hml.symm (argsL := [(.ref b1_0), (.int 2), (.int i4)]) (rest := []) (lenOf pd_11 rfl) (B d12_20) (W := 0)
  obtain ⟨rfl, Nq13, K13, o13_0, o13_1⟩ := hQ13
  have N13 := Fr.app N9 Nq13
  have s3 := K13.1
  have sz_b1_0 : h0.size ≤ b1_0 := o1_0
  have Kp0 := (Keep.refl h0 []).trans K1 all0
  have Kp1 := Kp0.trans K5 (allS (Or.inr sz_b1_0) all0)
  have Kp2 := Kp1.trans K9 (allS (Or.inr sz_b1_0) all0)
  have Kp3 := Kp2.trans K13 (allS (Or.inr sz_b1_0) all0)
  refine ⟨T13, _, _, _, (some (.ref b1_0)), X13, nofun, by decide, by decide, ?_, fun fs hr => ?_⟩
  · exact ⟨b1_0, k1_1, rfl, N13, Kp3, sz_b1_0, o13_0, o13_1⟩
  · refine sI X0 hx (B d12_0) rfl ?_
    refine st1 _ ?_
    refine XS.astoreN X1.here hx rfl (B d12_4) rfl rfl (l' := #[vr a1, vi 0, vi 3, vr b1_0, un]) rfl ?_
    refine sC X1 hx (B d12_5) ?_
    refine XS.istore X1.here hx rfl (B d12_6) rfl (l' := #[vr a1, vi 0, vi 3, vr b1_0, vi 0]) rfl ?_
    refine sJ X1 hx (B d12_8) rfl ?_
    refine sI X1 hx (B d12_10) rfl ?_
    refine XS.icmpNo X1.here hx rfl (B d12_11) rfl (tlt (by decide : (0 : Int32) < (3 : Int32))).2.1 ?_
    refine sA X1 hx (B d12_14) rfl rfl ?_
    refine sJ X1 hx (B d12_15) rfl ?_
    refine sA X1 hx (B d12_17) rfl rfl ?_
    refine sI X1 hx (B d12_18) rfl ?_
    refine X1.caload hx (j := 0) (v := (.int i2)) (Ar3.1) (State.isArrayOf_alike hZ.alike Ar3.2.1) Ar3.2.2 hin4 (Has.at Hs3 hin4 rfl) (g := (mkF m 19 #[vr a1, vi 0, vi 3, vr b1_0, vi 0] [(.int 0), (.ref a1), (.int 0), (.ref b1_0)])) rfl rfl (B d12_19) _ ?_
    refine st5 _ ?_
    refine XS.iinc X5.here hx rfl (B d12_23) rfl (l' := #[vr a1, vi 1, vi 3, vr b1_0, vi 0]) rfl ?_
    refine XS.iinc X5.here hx rfl (B d12_26) rfl (l' := #[vr a1, vi 1, vi 3, vr b1_0, vi 1]) rfl ?_
    refine XS.goto X5.here hx rfl (pc0 := 29) (pc' := 8) rfl (B d12_29) (by decide) (by decide) ?_
    refine sJ X5 hx (B d12_8) rfl ?_
    refine sI X5 hx (B d12_10) rfl ?_
    refine XS.icmpNo X5.here hx rfl (B d12_11) rfl (tlt (by decide : (1 : Int32) < (3 : Int32))).2.1 ?_
    refine sA X5 hx (B d12_14) rfl rfl ?_
    refine sJ X5 hx (B d12_15) rfl ?_
    refine sA X5 hx (B d12_17) rfl rfl ?_
    refine sI X5 hx (B d12_18) rfl ?_
    refine X5.caload hx (j := 1) (v := (.int i3)) (Ar7.1) (State.isArrayOf_alike hZ.alike Ar7.2.1) Ar7.2.2 hin8 (Has.at Hs7 hin8 rfl) (g := (mkF m 19 #[vr a1, vi 1, vi 3, vr b1_0, vi 1] [(.int 1), (.ref a1), (.int 1), (.ref b1_0)])) rfl rfl (B d12_19) _ ?_
    refine st9 _ ?_
    refine XS.iinc X9.here hx rfl (B d12_23) rfl (l' := #[vr a1, vi 2, vi 3, vr b1_0, vi 1]) rfl ?_
    refine XS.iinc X9.here hx rfl (B d12_26) rfl (l' := #[vr a1, vi 2, vi 3, vr b1_0, vi 2]) rfl ?_
    refine XS.goto X9.here hx rfl (pc0 := 29) (pc' := 8) rfl (B d12_29) (by decide) (by decide) ?_
    refine sJ X9 hx (B d12_8) rfl ?_
    refine sI X9 hx (B d12_10) rfl ?_
    refine XS.icmpNo X9.here hx rfl (B d12_11) rfl (tlt (by decide : (2 : Int32) < (3 : Int32))).2.1 ?_
    refine sA X9 hx (B d12_14) rfl rfl ?_
    refine sJ X9 hx (B d12_15) rfl ?_
    refine sA X9 hx (B d12_17) rfl rfl ?_
    refine sI X9 hx (B d12_18) rfl ?_
    refine X9.caload hx (j := 2) (v := (.int i4)) (Ar11.1) (State.isArrayOf_alike hZ.alike Ar11.2.1) Ar11.2.2 hin12 (Has.at Hs11 hin12 rfl) (g := (mkF m 19 #[vr a1, vi 2, vi 3, vr b1_0, vi 2] [(.int 2), (.ref a1), (.int 2), (.ref b1_0)])) rfl rfl (B d12_19) _ ?_
    refine st13 _ ?_
    refine XS.iinc X13.here hx rfl (B d12_23) rfl (l' := #[vr a1, vi 3, vi 3, vr b1_0, vi 2]) rfl ?_
    refine XS.iinc X13.here hx rfl (B d12_26) rfl (l' := #[vr a1, vi 3, vi 3, vr b1_0, vi 3]) rfl ?_
    refine XS.goto X13.here hx rfl (pc0 := 29) (pc' := 8) rfl (B d12_29) (by decide) (by decide) ?_
    refine sJ X13 hx (B d12_8) rfl ?_
    refine sI X13 hx (B d12_10) rfl ?_
    refine XS.icmpYes X13.here hx rfl (pc0 := 11) (pc' := 32) rfl (B d12_11) rfl (flt (by decide : ¬ ((3 : Int32) < (3 : Int32)))).2.1 (by decide) (by decide) ?_
    refine sA X13 hx (B d12_32) rfl rfl ?_
    exact retOut X13 hx hret rfl (Or.inr (Or.inr (Or.inr (Or.inr ⟨rfl, rfl, rfl⟩)))) (B d12_33) hr
abbrev Rm94 : Room := rmk 0 0 0 0
def Q94 (Z : State) (a1 a2 : Addr) (i3 i4 i5 : Int32) (ck6 ck8 : ClassId) (h0 : Heap) (n0 : Nat) (v : Option Value) (h : Heap) (L : List Loc) : Prop := v = some (.int 1) ∧ Fr n0 L ∧ Keep h0 h [a2] ∧ Exa Z h a2 "[B" ∧ Arv Z h a2 ck8 .byte 3 [(.int (nar .byte (i3.toInt8.toInt32))), (.int 0), (.int 0)] (.int 0)
theorem rm94 (l : Launch) (Z : State) {a0 : Array Value} (hw : OW a0 Z) (a1 a2 : Addr) (i3 i4 i5 : Int32) (ck6 ck8 : ClassId) (h0 : Heap) (n0 : Nat) (Z0 : n0 ≤ h0.size) (V_a1 : Arv Z h0 a1 ck6 .char 3 [(.int i3), (.int i4), (.int i5)] (.int 0)) (c7 : ¬ (255 < i3)) (V_a2 : Arv Z h0 a2 ck8 .byte 3 [(.int 0), (.int 0), (.int 0)] (.int 0)) (g_a2 : n0 ≤ a2) (ne_a1_a2 : a1 ≠ a2) (c9 : 255 < i4) (E_a2 : Exa Z h0 a2 "[B") :
    OwnMet l Z y_9 jdk_52_method_21_code 7 (some .int) [] Rm94 #[(.ref a1), (.int 0), (.ref a2), (.int 0), (.int 3)] h0 (Q94 Z a1 a2 i3 i4 i5 ck6 ck8 h0 n0) := by
  refine own_body (plainFor_of_name pn_3) (ef_ff2d24 a1 a2) ?_
  intro p e s m below meth c s₁ hx hby hml hown hnm hret hZ X0 e0
  have N0 := Fr.nil n0
  have B := hbx hby
  obtain ⟨cl1, Ar1, q1, S1, M1, Hs1, G1⟩ := id V_a1
  have hin2 := inb_of (j := 0) S1 ⟨by decide, by decide⟩
  obtain ⟨cl3, Ar3, q3, S3, M3, Hs3, G3⟩ := id V_a2
  have hin4 := inb_of (j := 0) S3 ⟨by decide, by decide⟩
  obtain ⟨T5, h5, X5, e5, W5, st5⟩ := stB X0 hx hZ e0 Ar3 (j := 0) hin4 (g := (mkF m 31 #[vr a1, vi 0, vr a2, vi 0, vi 3, vi 0, vi i3] [(.int (i3.toInt8.toInt32)), (.int 0), (.ref a2)])) rfl rfl (B d11_31)
  have s0 := (Keep.of_wr W5).1
  have N5 := Fr.snoc X5 N0 g_a2
  have Vs5 : Arv Z h5 a2 ck8 .byte 3 [(.int (nar .byte (i3.toInt8.toInt32))), (.int 0), (.int 0)] (.int 0) := Arv.set Ar3 q3 S3 M3 Hs3 G3 (fits_nar_byte _) W5 0 rfl (nl rfl)
  have Va6 := (V_a1.other W5 ne_a1_a2)
  obtain ⟨cl7, Ar7, q7, S7, M7, Hs7, G7⟩ := id Va6
  have hin8 := inb_of (j := 1) S7 ⟨by decide, by decide⟩
  have Ex9 := (E_a2.wr W5)
  have Kp0 := (Keep.refl h0 [a2]).wr W5 own_m0
  refine ⟨T5, _, _, _, (some (.int 1)), X5, nofun, by decide, by decide, ?_, fun fs hr => ?_⟩
  · rw [e5]
    exact ⟨rfl, N5, Kp0, Ex9, Vs5⟩
  · refine sC X0 hx (B d11_0) ?_
    refine XS.istore X0.here hx rfl (B d11_1) rfl (l' := #[vr a1, vi 0, vr a2, vi 0, vi 3, vi 0, un]) rfl ?_
    refine sJ X0 hx (B d11_3) rfl ?_
    refine sJ X0 hx (B d11_5) rfl ?_
    refine XS.icmpNo X0.here hx rfl (B d11_7) rfl (tlt (by decide : (0 : Int32) < (3 : Int32))).2.1 ?_
    refine sA X0 hx (B d11_10) rfl rfl ?_
    refine sI X0 hx (B d11_11) rfl ?_
    refine X0.caload hx (j := 0) (v := (.int i3)) (by rw [e0]; exact Ar1.1) (State.isArrayOf_alike hZ.alike Ar1.2.1) Ar1.2.2 hin2 (Has.at Hs1 hin2 rfl) (g := (mkF m 12 #[vr a1, vi 0, vr a2, vi 0, vi 3, vi 0, un] [(.int 0), (.ref a1)])) rfl rfl (B d11_12) _ ?_
    refine XS.istore X0.here hx rfl (B d11_13) rfl (l' := #[vr a1, vi 0, vr a2, vi 0, vi 3, vi 0, vi i3]) rfl ?_
    refine sJ X0 hx (B d11_15) rfl ?_
    refine XS.sipush X0.here hx rfl (B d11_17) ?_
    refine XS.icmpYes X0.here hx rfl (pc0 := 20) (pc' := 26) rfl (B d11_20) rfl (flt c7).2.2.2 (by decide) (by decide) ?_
    refine sA X0 hx (B d11_26) rfl rfl ?_
    refine sI X0 hx (B d11_27) rfl ?_
    refine sJ X0 hx (B d11_28) rfl ?_
    refine XS.i2b X0.here hx rfl (B d11_30) rfl ?_
    refine st5 _ ?_
    refine XS.iinc X5.here hx rfl (B d11_32) rfl (l' := #[vr a1, vi 1, vr a2, vi 0, vi 3, vi 0, vi i3]) rfl ?_
    refine XS.iinc X5.here hx rfl (B d11_35) rfl (l' := #[vr a1, vi 1, vr a2, vi 1, vi 3, vi 0, vi i3]) rfl ?_
    refine XS.iinc X5.here hx rfl (B d11_38) rfl (l' := #[vr a1, vi 1, vr a2, vi 1, vi 3, vi 1, vi i3]) rfl ?_
    refine XS.goto X5.here hx rfl (pc0 := 41) (pc' := 3) rfl (B d11_41) (by decide) (by decide) ?_
    refine sJ X5 hx (B d11_3) rfl ?_
    refine sJ X5 hx (B d11_5) rfl ?_
    refine XS.icmpNo X5.here hx rfl (B d11_7) rfl (tlt (by decide : (1 : Int32) < (3 : Int32))).2.1 ?_
    refine sA X5 hx (B d11_10) rfl rfl ?_
    refine sI X5 hx (B d11_11) rfl ?_
    refine X5.caload hx (j := 1) (v := (.int i4)) (by rw [e5]; exact Ar7.1) (State.isArrayOf_alike hZ.alike Ar7.2.1) Ar7.2.2 hin8 (Has.at Hs7 hin8 rfl) (g := (mkF m 12 #[vr a1, vi 1, vr a2, vi 1, vi 3, vi 1, vi i3] [(.int 1), (.ref a1)])) rfl rfl (B d11_12) _ ?_
    refine XS.istore X5.here hx rfl (B d11_13) rfl (l' := #[vr a1, vi 1, vr a2, vi 1, vi 3, vi 1, vi i4]) rfl ?_
    refine sJ X5 hx (B d11_15) rfl ?_
    refine XS.sipush X5.here hx rfl (B d11_17) ?_
    refine XS.icmpNo X5.here hx rfl (B d11_20) rfl (tlt c9).2.2.2 ?_
    refine sJ X5 hx (B d11_23) rfl ?_
    exact retI X5 hx hret (B d11_25) hr
abbrev Rm95 : Room := rmk 0 0 0 0
def Q95 (Z : State) (a1 a2 : Addr) (i3 i4 i5 : Int32) (ck6 ck8 : ClassId) (h0 : Heap) (n0 : Nat) (v : Option Value) (h : Heap) (L : List Loc) : Prop := v = some (.int 2) ∧ Fr n0 L ∧ Keep h0 h [a2] ∧ Exa Z h a2 "[B" ∧ Arv Z h a2 ck8 .byte 3 [(.int (nar .byte (i3.toInt8.toInt32))), (.int (nar .byte (i4.toInt8.toInt32))), (.int 0)] (.int 0)
theorem rm95 (l : Launch) (Z : State) {a0 : Array Value} (hw : OW a0 Z) (a1 a2 : Addr) (i3 i4 i5 : Int32) (ck6 ck8 : ClassId) (h0 : Heap) (n0 : Nat) (Z0 : n0 ≤ h0.size) (V_a1 : Arv Z h0 a1 ck6 .char 3 [(.int i3), (.int i4), (.int i5)] (.int 0)) (c7 : ¬ (255 < i3)) (V_a2 : Arv Z h0 a2 ck8 .byte 3 [(.int 0), (.int 0), (.int 0)] (.int 0)) (g_a2 : n0 ≤ a2) (ne_a1_a2 : a1 ≠ a2) (c9 : ¬ (255 < i4)) (c10 : 255 < i5) (E_a2 : Exa Z h0 a2 "[B") :
    OwnMet l Z y_9 jdk_52_method_21_code 7 (some .int) [] Rm95 #[(.ref a1), (.int 0), (.ref a2), (.int 0), (.int 3)] h0 (Q95 Z a1 a2 i3 i4 i5 ck6 ck8 h0 n0) := by
  refine own_body (plainFor_of_name pn_3) (ef_ff2d24 a1 a2) ?_
  intro p e s m below meth c s₁ hx hby hml hown hnm hret hZ X0 e0
  have N0 := Fr.nil n0
  have B := hbx hby
  obtain ⟨cl1, Ar1, q1, S1, M1, Hs1, G1⟩ := id V_a1
  have hin2 := inb_of (j := 0) S1 ⟨by decide, by decide⟩
  obtain ⟨cl3, Ar3, q3, S3, M3, Hs3, G3⟩ := id V_a2
  have hin4 := inb_of (j := 0) S3 ⟨by decide, by decide⟩
  obtain ⟨T5, h5, X5, e5, W5, st5⟩ := stB X0 hx hZ e0 Ar3 (j := 0) hin4 (g := (mkF m 31 #[vr a1, vi 0, vr a2, vi 0, vi 3, vi 0, vi i3] [(.int (i3.toInt8.toInt32)), (.int 0), (.ref a2)])) rfl rfl (B d11_31)
  have s0 := (Keep.of_wr W5).1
  have N5 := Fr.snoc X5 N0 g_a2
  have Vs5 : Arv Z h5 a2 ck8 .byte 3 [(.int (nar .byte (i3.toInt8.toInt32))), (.int 0), (.int 0)] (.int 0) := Arv.set Ar3 q3 S3 M3 Hs3 G3 (fits_nar_byte _) W5 0 rfl (nl rfl)
  have Va6 := (V_a1.other W5 ne_a1_a2)
  obtain ⟨cl7, Ar7, q7, S7, M7, Hs7, G7⟩ := id Va6
  have hin8 := inb_of (j := 1) S7 ⟨by decide, by decide⟩
  obtain ⟨cl9, Ar9, q9, S9, M9, Hs9, G9⟩ := id Vs5
  have hin10 := inb_of (j := 1) S9 ⟨by decide, by decide⟩
  obtain ⟨T11, h11, X11, e11, W11, st11⟩ := stB X5 hx hZ e5 Ar9 (j := 1) hin10 (g := (mkF m 31 #[vr a1, vi 1, vr a2, vi 1, vi 3, vi 1, vi i4] [(.int (i4.toInt8.toInt32)), (.int 1), (.ref a2)])) rfl rfl (B d11_31)
  have s1 := (Keep.of_wr W11).1
  have N11 := Fr.snoc X11 N5 g_a2
  have Vs11 : Arv Z h11 a2 ck8 .byte 3 [(.int (nar .byte (i3.toInt8.toInt32))), (.int (nar .byte (i4.toInt8.toInt32))), (.int 0)] (.int 0) := Arv.set Ar9 q9 S9 M9 Hs9 G9 (fits_nar_byte _) W11 1 rfl (nl rfl)
  have Va12 := (Va6.other W11 ne_a1_a2)
  obtain ⟨cl13, Ar13, q13, S13, M13, Hs13, G13⟩ := id Va12
  have hin14 := inb_of (j := 2) S13 ⟨by decide, by decide⟩
  have Ex15 := ((E_a2.wr W5).wr W11)
  have Kp0 := (Keep.refl h0 [a2]).wr W5 own_m0
  have Kp1 := Kp0.wr W11 own_m0
  refine ⟨T11, _, _, _, (some (.int 2)), X11, nofun, by decide, by decide, ?_, fun fs hr => ?_⟩
  · rw [e11]
    exact ⟨rfl, N11, Kp1, Ex15, Vs11⟩
  · refine sC X0 hx (B d11_0) ?_
    refine XS.istore X0.here hx rfl (B d11_1) rfl (l' := #[vr a1, vi 0, vr a2, vi 0, vi 3, vi 0, un]) rfl ?_
    refine sJ X0 hx (B d11_3) rfl ?_
    refine sJ X0 hx (B d11_5) rfl ?_
    refine XS.icmpNo X0.here hx rfl (B d11_7) rfl (tlt (by decide : (0 : Int32) < (3 : Int32))).2.1 ?_
    refine sA X0 hx (B d11_10) rfl rfl ?_
    refine sI X0 hx (B d11_11) rfl ?_
    refine X0.caload hx (j := 0) (v := (.int i3)) (by rw [e0]; exact Ar1.1) (State.isArrayOf_alike hZ.alike Ar1.2.1) Ar1.2.2 hin2 (Has.at Hs1 hin2 rfl) (g := (mkF m 12 #[vr a1, vi 0, vr a2, vi 0, vi 3, vi 0, un] [(.int 0), (.ref a1)])) rfl rfl (B d11_12) _ ?_
    refine XS.istore X0.here hx rfl (B d11_13) rfl (l' := #[vr a1, vi 0, vr a2, vi 0, vi 3, vi 0, vi i3]) rfl ?_
    refine sJ X0 hx (B d11_15) rfl ?_
    refine XS.sipush X0.here hx rfl (B d11_17) ?_
    refine XS.icmpYes X0.here hx rfl (pc0 := 20) (pc' := 26) rfl (B d11_20) rfl (flt c7).2.2.2 (by decide) (by decide) ?_
    refine sA X0 hx (B d11_26) rfl rfl ?_
    refine sI X0 hx (B d11_27) rfl ?_
    refine sJ X0 hx (B d11_28) rfl ?_
    refine XS.i2b X0.here hx rfl (B d11_30) rfl ?_
    refine st5 _ ?_
    refine XS.iinc X5.here hx rfl (B d11_32) rfl (l' := #[vr a1, vi 1, vr a2, vi 0, vi 3, vi 0, vi i3]) rfl ?_
    refine XS.iinc X5.here hx rfl (B d11_35) rfl (l' := #[vr a1, vi 1, vr a2, vi 1, vi 3, vi 0, vi i3]) rfl ?_
    refine XS.iinc X5.here hx rfl (B d11_38) rfl (l' := #[vr a1, vi 1, vr a2, vi 1, vi 3, vi 1, vi i3]) rfl ?_
    refine XS.goto X5.here hx rfl (pc0 := 41) (pc' := 3) rfl (B d11_41) (by decide) (by decide) ?_
    refine sJ X5 hx (B d11_3) rfl ?_
    refine sJ X5 hx (B d11_5) rfl ?_
    refine XS.icmpNo X5.here hx rfl (B d11_7) rfl (tlt (by decide : (1 : Int32) < (3 : Int32))).2.1 ?_
    refine sA X5 hx (B d11_10) rfl rfl ?_
    refine sI X5 hx (B d11_11) rfl ?_
    refine X5.caload hx (j := 1) (v := (.int i4)) (by rw [e5]; exact Ar7.1) (State.isArrayOf_alike hZ.alike Ar7.2.1) Ar7.2.2 hin8 (Has.at Hs7 hin8 rfl) (g := (mkF m 12 #[vr a1, vi 1, vr a2, vi 1, vi 3, vi 1, vi i3] [(.int 1), (.ref a1)])) rfl rfl (B d11_12) _ ?_
    refine XS.istore X5.here hx rfl (B d11_13) rfl (l' := #[vr a1, vi 1, vr a2, vi 1, vi 3, vi 1, vi i4]) rfl ?_
    refine sJ X5 hx (B d11_15) rfl ?_
    refine XS.sipush X5.here hx rfl (B d11_17) ?_
    refine XS.icmpYes X5.here hx rfl (pc0 := 20) (pc' := 26) rfl (B d11_20) rfl (flt c9).2.2.2 (by decide) (by decide) ?_
    refine sA X5 hx (B d11_26) rfl rfl ?_
    refine sI X5 hx (B d11_27) rfl ?_
    refine sJ X5 hx (B d11_28) rfl ?_
    refine XS.i2b X5.here hx rfl (B d11_30) rfl ?_
    refine st11 _ ?_
    refine XS.iinc X11.here hx rfl (B d11_32) rfl (l' := #[vr a1, vi 2, vr a2, vi 1, vi 3, vi 1, vi i4]) rfl ?_
    refine XS.iinc X11.here hx rfl (B d11_35) rfl (l' := #[vr a1, vi 2, vr a2, vi 2, vi 3, vi 1, vi i4]) rfl ?_
    refine XS.iinc X11.here hx rfl (B d11_38) rfl (l' := #[vr a1, vi 2, vr a2, vi 2, vi 3, vi 2, vi i4]) rfl ?_
    refine XS.goto X11.here hx rfl (pc0 := 41) (pc' := 3) rfl (B d11_41) (by decide) (by decide) ?_
    refine sJ X11 hx (B d11_3) rfl ?_
    refine sJ X11 hx (B d11_5) rfl ?_
    refine XS.icmpNo X11.here hx rfl (B d11_7) rfl (tlt (by decide : (2 : Int32) < (3 : Int32))).2.1 ?_
    refine sA X11 hx (B d11_10) rfl rfl ?_
    refine sI X11 hx (B d11_11) rfl ?_
    refine X11.caload hx (j := 2) (v := (.int i5)) (by rw [e11]; exact Ar13.1) (State.isArrayOf_alike hZ.alike Ar13.2.1) Ar13.2.2 hin14 (Has.at Hs13 hin14 rfl) (g := (mkF m 12 #[vr a1, vi 2, vr a2, vi 2, vi 3, vi 2, vi i4] [(.int 2), (.ref a1)])) rfl rfl (B d11_12) _ ?_
    refine XS.istore X11.here hx rfl (B d11_13) rfl (l' := #[vr a1, vi 2, vr a2, vi 2, vi 3, vi 2, vi i5]) rfl ?_
    refine sJ X11 hx (B d11_15) rfl ?_
    refine XS.sipush X11.here hx rfl (B d11_17) ?_
    refine XS.icmpNo X11.here hx rfl (B d11_20) rfl (tlt c10).2.2.2 ?_
    refine sJ X11 hx (B d11_23) rfl ?_
    exact retI X11 hx hret (B d11_25) hr
abbrev Rm96 : Room := rmk 0 0 0 0
def Q96 (Z : State) (a1 a2 : Addr) (i3 i4 i5 : Int32) (ck6 ck8 : ClassId) (h0 : Heap) (n0 : Nat) (v : Option Value) (h : Heap) (L : List Loc) : Prop := v = some (.int 3) ∧ Fr n0 L ∧ Keep h0 h [a2] ∧ Exa Z h a2 "[B" ∧ Arv Z h a2 ck8 .byte 3 [(.int (nar .byte (i3.toInt8.toInt32))), (.int (nar .byte (i4.toInt8.toInt32))), (.int (nar .byte (i5.toInt8.toInt32)))] (.int 0)
theorem rm96 (l : Launch) (Z : State) {a0 : Array Value} (hw : OW a0 Z) (a1 a2 : Addr) (i3 i4 i5 : Int32) (ck6 ck8 : ClassId) (h0 : Heap) (n0 : Nat) (Z0 : n0 ≤ h0.size) (V_a1 : Arv Z h0 a1 ck6 .char 3 [(.int i3), (.int i4), (.int i5)] (.int 0)) (c7 : ¬ (255 < i3)) (V_a2 : Arv Z h0 a2 ck8 .byte 3 [(.int 0), (.int 0), (.int 0)] (.int 0)) (g_a2 : n0 ≤ a2) (ne_a1_a2 : a1 ≠ a2) (c9 : ¬ (255 < i4)) (c10 : ¬ (255 < i5)) (E_a2 : Exa Z h0 a2 "[B") :
    OwnMet l Z y_9 jdk_52_method_21_code 7 (some .int) [] Rm96 #[(.ref a1), (.int 0), (.ref a2), (.int 0), (.int 3)] h0 (Q96 Z a1 a2 i3 i4 i5 ck6 ck8 h0 n0) := by
  refine own_body (plainFor_of_name pn_3) (ef_ff2d24 a1 a2) ?_
  intro p e s m below meth c s₁ hx hby hml hown hnm hret hZ X0 e0
  have N0 := Fr.nil n0
  have B := hbx hby
  obtain ⟨cl1, Ar1, q1, S1, M1, Hs1, G1⟩ := id V_a1
  have hin2 := inb_of (j := 0) S1 ⟨by decide, by decide⟩
  obtain ⟨cl3, Ar3, q3, S3, M3, Hs3, G3⟩ := id V_a2
  have hin4 := inb_of (j := 0) S3 ⟨by decide, by decide⟩
  obtain ⟨T5, h5, X5, e5, W5, st5⟩ := stB X0 hx hZ e0 Ar3 (j := 0) hin4 (g := (mkF m 31 #[vr a1, vi 0, vr a2, vi 0, vi 3, vi 0, vi i3] [(.int (i3.toInt8.toInt32)), (.int 0), (.ref a2)])) rfl rfl (B d11_31)
  have s0 := (Keep.of_wr W5).1
  have N5 := Fr.snoc X5 N0 g_a2
  have Vs5 : Arv Z h5 a2 ck8 .byte 3 [(.int (nar .byte (i3.toInt8.toInt32))), (.int 0), (.int 0)] (.int 0) := Arv.set Ar3 q3 S3 M3 Hs3 G3 (fits_nar_byte _) W5 0 rfl (nl rfl)
  have Va6 := (V_a1.other W5 ne_a1_a2)
  obtain ⟨cl7, Ar7, q7, S7, M7, Hs7, G7⟩ := id Va6
  have hin8 := inb_of (j := 1) S7 ⟨by decide, by decide⟩
  obtain ⟨cl9, Ar9, q9, S9, M9, Hs9, G9⟩ := id Vs5
  have hin10 := inb_of (j := 1) S9 ⟨by decide, by decide⟩
  obtain ⟨T11, h11, X11, e11, W11, st11⟩ := stB X5 hx hZ e5 Ar9 (j := 1) hin10 (g := (mkF m 31 #[vr a1, vi 1, vr a2, vi 1, vi 3, vi 1, vi i4] [(.int (i4.toInt8.toInt32)), (.int 1), (.ref a2)])) rfl rfl (B d11_31)
  have s1 := (Keep.of_wr W11).1
  have N11 := Fr.snoc X11 N5 g_a2
  have Vs11 : Arv Z h11 a2 ck8 .byte 3 [(.int (nar .byte (i3.toInt8.toInt32))), (.int (nar .byte (i4.toInt8.toInt32))), (.int 0)] (.int 0) := Arv.set Ar9 q9 S9 M9 Hs9 G9 (fits_nar_byte _) W11 1 rfl (nl rfl)
  have Va12 := (Va6.other W11 ne_a1_a2)
  obtain ⟨cl13, Ar13, q13, S13, M13, Hs13, G13⟩ := id Va12
  have hin14 := inb_of (j := 2) S13 ⟨by decide, by decide⟩
  obtain ⟨cl15, Ar15, q15, S15, M15, Hs15, G15⟩ := id Vs11
  have hin16 := inb_of (j := 2) S15 ⟨by decide, by decide⟩
  obtain ⟨T17, h17, X17, e17, W17, st17⟩ := stB X11 hx hZ e11 Ar15 (j := 2) hin16 (g := (mkF m 31 #[vr a1, vi 2, vr a2, vi 2, vi 3, vi 2, vi i5] [(.int (i5.toInt8.toInt32)), (.int 2), (.ref a2)])) rfl rfl (B d11_31)
  have s2 := (Keep.of_wr W17).1
  have N17 := Fr.snoc X17 N11 g_a2
  have Vs17 : Arv Z h17 a2 ck8 .byte 3 [(.int (nar .byte (i3.toInt8.toInt32))), (.int (nar .byte (i4.toInt8.toInt32))), (.int (nar .byte (i5.toInt8.toInt32)))] (.int 0) := Arv.set Ar15 q15 S15 M15 Hs15 G15 (fits_nar_byte _) W17 2 rfl (nl rfl)
  have Ex18 := (((E_a2.wr W5).wr W11).wr W17)
  have Kp0 := (Keep.refl h0 [a2]).wr W5 own_m0
  have Kp1 := Kp0.wr W11 own_m0
  have Kp2 := Kp1.wr W17 own_m0
  refine ⟨T17, _, _, _, (some (.int 3)), X17, nofun, by decide, by decide, ?_, fun fs hr => ?_⟩
  · rw [e17]
    exact ⟨rfl, N17, Kp2, Ex18, Vs17⟩
  · refine sC X0 hx (B d11_0) ?_
    refine XS.istore X0.here hx rfl (B d11_1) rfl (l' := #[vr a1, vi 0, vr a2, vi 0, vi 3, vi 0, un]) rfl ?_
    refine sJ X0 hx (B d11_3) rfl ?_
    refine sJ X0 hx (B d11_5) rfl ?_
    refine XS.icmpNo X0.here hx rfl (B d11_7) rfl (tlt (by decide : (0 : Int32) < (3 : Int32))).2.1 ?_
    refine sA X0 hx (B d11_10) rfl rfl ?_
    refine sI X0 hx (B d11_11) rfl ?_
    refine X0.caload hx (j := 0) (v := (.int i3)) (by rw [e0]; exact Ar1.1) (State.isArrayOf_alike hZ.alike Ar1.2.1) Ar1.2.2 hin2 (Has.at Hs1 hin2 rfl) (g := (mkF m 12 #[vr a1, vi 0, vr a2, vi 0, vi 3, vi 0, un] [(.int 0), (.ref a1)])) rfl rfl (B d11_12) _ ?_
    refine XS.istore X0.here hx rfl (B d11_13) rfl (l' := #[vr a1, vi 0, vr a2, vi 0, vi 3, vi 0, vi i3]) rfl ?_
    refine sJ X0 hx (B d11_15) rfl ?_
    refine XS.sipush X0.here hx rfl (B d11_17) ?_
    refine XS.icmpYes X0.here hx rfl (pc0 := 20) (pc' := 26) rfl (B d11_20) rfl (flt c7).2.2.2 (by decide) (by decide) ?_
    refine sA X0 hx (B d11_26) rfl rfl ?_
    refine sI X0 hx (B d11_27) rfl ?_
    refine sJ X0 hx (B d11_28) rfl ?_
    refine XS.i2b X0.here hx rfl (B d11_30) rfl ?_
    refine st5 _ ?_
    refine XS.iinc X5.here hx rfl (B d11_32) rfl (l' := #[vr a1, vi 1, vr a2, vi 0, vi 3, vi 0, vi i3]) rfl ?_
    refine XS.iinc X5.here hx rfl (B d11_35) rfl (l' := #[vr a1, vi 1, vr a2, vi 1, vi 3, vi 0, vi i3]) rfl ?_
    refine XS.iinc X5.here hx rfl (B d11_38) rfl (l' := #[vr a1, vi 1, vr a2, vi 1, vi 3, vi 1, vi i3]) rfl ?_
    refine XS.goto X5.here hx rfl (pc0 := 41) (pc' := 3) rfl (B d11_41) (by decide) (by decide) ?_
    refine sJ X5 hx (B d11_3) rfl ?_
    refine sJ X5 hx (B d11_5) rfl ?_
    refine XS.icmpNo X5.here hx rfl (B d11_7) rfl (tlt (by decide : (1 : Int32) < (3 : Int32))).2.1 ?_
    refine sA X5 hx (B d11_10) rfl rfl ?_
    refine sI X5 hx (B d11_11) rfl ?_
    refine X5.caload hx (j := 1) (v := (.int i4)) (by rw [e5]; exact Ar7.1) (State.isArrayOf_alike hZ.alike Ar7.2.1) Ar7.2.2 hin8 (Has.at Hs7 hin8 rfl) (g := (mkF m 12 #[vr a1, vi 1, vr a2, vi 1, vi 3, vi 1, vi i3] [(.int 1), (.ref a1)])) rfl rfl (B d11_12) _ ?_
    refine XS.istore X5.here hx rfl (B d11_13) rfl (l' := #[vr a1, vi 1, vr a2, vi 1, vi 3, vi 1, vi i4]) rfl ?_
    refine sJ X5 hx (B d11_15) rfl ?_
    refine XS.sipush X5.here hx rfl (B d11_17) ?_
    refine XS.icmpYes X5.here hx rfl (pc0 := 20) (pc' := 26) rfl (B d11_20) rfl (flt c9).2.2.2 (by decide) (by decide) ?_
    refine sA X5 hx (B d11_26) rfl rfl ?_
    refine sI X5 hx (B d11_27) rfl ?_
    refine sJ X5 hx (B d11_28) rfl ?_
    refine XS.i2b X5.here hx rfl (B d11_30) rfl ?_
    refine st11 _ ?_
    refine XS.iinc X11.here hx rfl (B d11_32) rfl (l' := #[vr a1, vi 2, vr a2, vi 1, vi 3, vi 1, vi i4]) rfl ?_
    refine XS.iinc X11.here hx rfl (B d11_35) rfl (l' := #[vr a1, vi 2, vr a2, vi 2, vi 3, vi 1, vi i4]) rfl ?_
    refine XS.iinc X11.here hx rfl (B d11_38) rfl (l' := #[vr a1, vi 2, vr a2, vi 2, vi 3, vi 2, vi i4]) rfl ?_
    refine XS.goto X11.here hx rfl (pc0 := 41) (pc' := 3) rfl (B d11_41) (by decide) (by decide) ?_
    refine sJ X11 hx (B d11_3) rfl ?_
    refine sJ X11 hx (B d11_5) rfl ?_
    refine XS.icmpNo X11.here hx rfl (B d11_7) rfl (tlt (by decide : (2 : Int32) < (3 : Int32))).2.1 ?_
    refine sA X11 hx (B d11_10) rfl rfl ?_
    refine sI X11 hx (B d11_11) rfl ?_
    refine X11.caload hx (j := 2) (v := (.int i5)) (by rw [e11]; exact Ar13.1) (State.isArrayOf_alike hZ.alike Ar13.2.1) Ar13.2.2 hin14 (Has.at Hs13 hin14 rfl) (g := (mkF m 12 #[vr a1, vi 2, vr a2, vi 2, vi 3, vi 2, vi i4] [(.int 2), (.ref a1)])) rfl rfl (B d11_12) _ ?_
    refine XS.istore X11.here hx rfl (B d11_13) rfl (l' := #[vr a1, vi 2, vr a2, vi 2, vi 3, vi 2, vi i5]) rfl ?_
    refine sJ X11 hx (B d11_15) rfl ?_
    refine XS.sipush X11.here hx rfl (B d11_17) ?_
    refine XS.icmpYes X11.here hx rfl (pc0 := 20) (pc' := 26) rfl (B d11_20) rfl (flt c10).2.2.2 (by decide) (by decide) ?_
    refine sA X11 hx (B d11_26) rfl rfl ?_
    refine sI X11 hx (B d11_27) rfl ?_
    refine sJ X11 hx (B d11_28) rfl ?_
    refine XS.i2b X11.here hx rfl (B d11_30) rfl ?_
    refine st17 _ ?_
    refine XS.iinc X17.here hx rfl (B d11_32) rfl (l' := #[vr a1, vi 3, vr a2, vi 2, vi 3, vi 2, vi i5]) rfl ?_
    refine XS.iinc X17.here hx rfl (B d11_35) rfl (l' := #[vr a1, vi 3, vr a2, vi 3, vi 3, vi 2, vi i5]) rfl ?_
    refine XS.iinc X17.here hx rfl (B d11_38) rfl (l' := #[vr a1, vi 3, vr a2, vi 3, vi 3, vi 3, vi i5]) rfl ?_
    refine XS.goto X17.here hx rfl (pc0 := 41) (pc' := 3) rfl (B d11_41) (by decide) (by decide) ?_
    refine sJ X17 hx (B d11_3) rfl ?_
    refine sJ X17 hx (B d11_5) rfl ?_
    refine XS.icmpYes X17.here hx rfl (pc0 := 7) (pc' := 44) rfl (B d11_7) rfl (flt (by decide : ¬ ((3 : Int32) < (3 : Int32)))).2.1 (by decide) (by decide) ?_
    refine sJ X17 hx (B d11_44) rfl ?_
    exact retI X17 hx hret (B d11_46) hr
def own_cc2 (v0 v1 v2 : Int32) : Int32 := (if 255 < v0 then (0 : Int32) else (if 255 < v1 then (0 : Int32) else (if 255 < v2 then (0 : Int32) else (1 : Int32))))
theorem ef_7ff9cc (a1 : Addr) (m : MethodId) : entryFrame m #[(.ref a1), (.int 0), (.int 3)] 6 = mkF m 0 #[.val (.ref a1), .val (.int 0), .val (.int 3), .unset, .unset, .unset] [] := by first | (simp [entryFrame, mkF, argsToLocals, Value.category]; done) | rfl
abbrev Rm97 : Room := rmk 3 2 9 40
def Q97 (Z : State) (a1 : Addr) (i2 i3 i4 : Int32) (ck5 : ClassId) (h0 : Heap) (n0 : Nat) (v : Option Value) (h : Heap) (L : List Loc) : Prop := ∃ m0 : Addr, ∃ kk1 : ClassId, v = some (.ref m0) ∧ Fr n0 L ∧ Keep h0 h [] ∧ h0.size ≤ m0 ∧ Exa Z h m0 "[B" ∧ Arv Z h m0 kk1 .byte 6 [(.int (nar .byte ((i2 >>> ((0 : Int32) &&& 31)).toInt8.toInt32))), (.int (nar .byte ((i2 >>> ((8 : Int32) &&& 31)).toInt8.toInt32))), (.int (nar .byte ((i3 >>> ((0 : Int32) &&& 31)).toInt8.toInt32))), (.int (nar .byte ((i3 >>> ((8 : Int32) &&& 31)).toInt8.toInt32))), (.int (nar .byte ((i4 >>> ((0 : Int32) &&& 31)).toInt8.toInt32))), (.int (nar .byte ((i4 >>> ((8 : Int32) &&& 31)).toInt8.toInt32)))] (.int 0)
theorem rm97 (l : Launch) (Z : State) {a0 : Array Value} (hw : OW a0 Z) (a1 : Addr) (i2 i3 i4 : Int32) (ck5 : ClassId) (h0 : Heap) (n0 : Nat) (Z0 : n0 ≤ h0.size) (V_a1 : Arv Z h0 a1 ck5 .char 3 [(.int i2), (.int i3), (.int i4)] (.int 0)) (S__assertionsDisabled : Sta Z Z.heap "java/lang/StringUTF16" "$assertionsDisabled" "Z" (.int 1)) (Od0 : Old Z n0 h0) (S_HI_BYTE_SHIFT : Sta Z Z.heap "java/lang/StringUTF16" "HI_BYTE_SHIFT" "I" (.int 0)) (S_LO_BYTE_SHIFT : Sta Z Z.heap "java/lang/StringUTF16" "LO_BYTE_SHIFT" "I" (.int 8)) (c6 : ¬ (65535 < i2)) (c7 : ¬ (65535 < i3)) (c8 : ¬ (65535 < i4)) (c9 : (own_cc2 i2 i3 i4) = 0) :
    OwnMet l Z y_15 jdk_52_method_16_code 6 (some (.array .byte)) [] Rm97 #[(.ref a1), (.int 0), (.int 3)] h0 (Q97 Z a1 i2 i3 i4 ck5 h0 n0) := by
  refine own_body (plainFor_of_name pn_3) (ef_7ff9cc a1) ?_
  intro p e s m below meth c s₁ hx hby hml hown hnm hret hZ X0 e0
  have N0 := Fr.nil n0
  have B := hbx hby
  obtain ⟨T1, h1, k1, X1, e1, E1, A1, B1, st1⟩ := newPE (aty := .byte) X0 hx hZ (w_27 hw) e0 (g := (mkF m 1 #[vr a1, vi 0, vi 3, un, un, un] [(.int 3)])) rfl (B d10_1) rfl (by decide) (cap := 3) (by decide) (by decide) (by decide) (by decide) (ad := "[B") (by decide)
  obtain ⟨b1, g1⟩ : ∃ z, z = h0.size := ⟨_, rfl⟩
  rw [← g1] at A1 B1 st1
  have s0 := E1.1
  have Vn1 : Arv Z h1 b1 k1 .byte 3 [(.int 0), (.int 0), (.int 0)] (.int 0) := (Arv.new A1 (by decide)).pad (pad_rep [] (.int 0) 3)
  have Va2 := (V_a1.ext E1)
  by_cases cc1 : 255 < i2
  · have z1 := Nat.le_trans Z0 s0
    obtain ⟨_, T3, L3, X3, hQ3, st3⟩ := own_callS X1 hx hZ hown (y := y_9) (w_57 hw) (w_58 hw) (w_55 hw) (w_59 hw) (rm87 l Z hw a1 b1 i2 i3 i4 ck5 h1 n0 z1 Va2 cc1) e1 (Ls := #[vr a1, vi 0, vi 3, vr b1, un, un]) hml.symm (argsL := [(.ref a1), (.int 0), (.ref b1), (.int 0), (.int 3)]) (rest := []) (lenOf pd_8 rfl) (B d10_9) (W := 0)
    obtain ⟨rfl, Nq3, e3⟩ := hQ3
    have N3 := Fr.app N0 Nq3
    have Od1 := Od0.ext E1
    obtain ⟨_, T4, L4, X4, hQ4, st4⟩ := own_callS X3 hx hZ hown (y := y_13) (w_60 hw) (w_61 hw) (w_55 hw) (w_62 hw) (rm93 l Z hw a1 i2 i3 i4 ck5 h1 n0 z1 Va2 S__assertionsDisabled Od1 S_HI_BYTE_SHIFT S_LO_BYTE_SHIFT) e3 (Ls := #[vr a1, vi 0, vi 3, vr b1, vi 0, un]) hml.symm (argsL := [(.ref a1), (.int 0), (.int 3)]) (rest := []) (lenOf pd_12 rfl) (B d10_23) (W := 0)
    obtain ⟨b4_0, k4_1, rfl, Nq4, K4, o4_0, o4_1, o4_2⟩ := hQ4
    have N4 := Fr.app N3 Nq4
    have s1 := K4.1
    have Od2 := Od1.keep K4 all0
    have z2 := Nat.le_trans Z0 (Nat.le_trans s0 s1)
    obtain ⟨_, T5, L5, X5, hQ5, st5⟩ := own_callS X4 hx hZ hown (y := y_14) (w_76 hw) (w_77 hw) (w_55 hw) (w_78 hw) (rm16 l Z hw b4_0 (0 : Int32) [(.int (nar .byte ((i2 >>> ((0 : Int32) &&& 31)).toInt8.toInt32))), (.int (nar .byte ((i2 >>> ((8 : Int32) &&& 31)).toInt8.toInt32))), (.int (nar .byte ((i3 >>> ((0 : Int32) &&& 31)).toInt8.toInt32))), (.int (nar .byte ((i3 >>> ((8 : Int32) &&& 31)).toInt8.toInt32))), (.int (nar .byte ((i4 >>> ((0 : Int32) &&& 31)).toInt8.toInt32))), (.int (nar .byte ((i4 >>> ((8 : Int32) &&& 31)).toInt8.toInt32)))] k4_1 (6 : Int32) (nar .byte ((i2 >>> ((0 : Int32) &&& 31)).toInt8.toInt32)) (nar .byte ((i2 >>> ((8 : Int32) &&& 31)).toInt8.toInt32)) T4.heap n0 z2 S__assertionsDisabled Od2 o4_2 (by decide) (by decide) rfl S_HI_BYTE_SHIFT (by decide) (by decide) rfl S_LO_BYTE_SHIFT) rfl (Ls := #[vr a1, vi 0, vi 3, vr b1, vi 0, vr b4_0]) hml.symm (argsL := [(.ref b4_0), (.int 0)]) (rest := []) (lenOf pd_13 rfl) (B d10_32) (W := 0)
    obtain ⟨rfl, Nq5, e5⟩ := hQ5
    have N5 := Fr.app N4 Nq5
    have cd6 : ¬ (i2 < 0) := (by rw [Int32.lt_iff_toInt_lt]; have := And.intro (own_lb cc1 255 (by decide)) (trivial); have := rng32 i2; have : ((0 : Int32)).toInt = 0 := (by decide); omega)
    have cd7 : 255 < (own_gc (nar .byte ((i2 >>> ((0 : Int32) &&& 31)).toInt8.toInt32)) (nar .byte ((i2 >>> ((8 : Int32) &&& 31)).toInt8.toInt32))) := (by rw [own_gcN i2 cd6 c6]; exact cc1)
    have sz_b4_0 : h0.size ≤ b4_0 := Nat.le_trans s0 o4_0
    have Kp0 := (Keep.refl h0 []).ext E1
    have Kp1 := Kp0.trans K4 all0
    refine ⟨T5, _, _, _, (some (.ref b4_0)), X5, nofun, by decide, by decide, ?_, fun fs hr => ?_⟩
    · rw [e5]
      exact ⟨b4_0, k4_1, rfl, N5, Kp1, sz_b4_0, o4_1, o4_2⟩
    · refine sI X0 hx (B d10_0) rfl ?_
      refine st1 _ ?_
      refine XS.astoreN X1.here hx rfl (B d10_3) rfl rfl (l' := #[vr a1, vi 0, vi 3, vr b1, un, un]) rfl ?_
      refine sA X1 hx (B d10_4) rfl rfl ?_
      refine sI X1 hx (B d10_5) rfl ?_
      refine sA X1 hx (B d10_6) rfl rfl ?_
      refine sC X1 hx (B d10_7) ?_
      refine sI X1 hx (B d10_8) rfl ?_
      refine st3 _ ?_
      refine XS.istore X3.here hx rfl (B d10_12) rfl (l' := #[vr a1, vi 0, vi 3, vr b1, vi 0, un]) rfl ?_
      refine sJ X3 hx (B d10_14) rfl ?_
      refine sI X3 hx (B d10_16) rfl ?_
      refine XS.icmpNo X3.here hx rfl (B d10_17) rfl (feq (by decide : ¬ ((0 : Int32) = (3 : Int32)))).1 ?_
      refine sA X3 hx (B d10_20) rfl rfl ?_
      refine sI X3 hx (B d10_21) rfl ?_
      refine sI X3 hx (B d10_22) rfl ?_
      refine st4 _ ?_
      refine XS.astore X4.here hx rfl (B d10_26) rfl rfl (l' := #[vr a1, vi 0, vi 3, vr b1, vi 0, vr b4_0]) rfl ?_
      refine sB X4 hx (B d10_28) rfl rfl ?_
      refine sJ X4 hx (B d10_30) rfl ?_
      refine st5 _ ?_
      refine XS.sipush X5.here hx rfl (B d10_35) ?_
      refine XS.icmpYes X5.here hx rfl (pc0 := 38) (pc' := 54) rfl (B d10_38) rfl (tlt cd7).2.2.1 (by decide) (by decide) ?_
      refine sB X5 hx (B d10_54) rfl rfl ?_
      exact retOut X5 hx hret rfl (Or.inr (Or.inr (Or.inr (Or.inr ⟨rfl, rfl, rfl⟩)))) (B d10_56) hr
  · have g_b1 : n0 ≤ b1 := Nat.le_trans Z0 (Nat.le_of_eq g1.symm)
    have ne_a1_b1 := Nat.ne_of_lt (Nat.lt_of_lt_of_le V_a1.lt (Nat.le_of_eq g1.symm))
    have z1 := Nat.le_trans Z0 s0
    by_cases cc2 : 255 < i3
    · obtain ⟨_, T3, L3, X3, hQ3, st3⟩ := own_callS X1 hx hZ hown (y := y_9) (w_57 hw) (w_58 hw) (w_55 hw) (w_59 hw) (rm94 l Z hw a1 b1 i2 i3 i4 ck5 k1 h1 n0 z1 Va2 cc1 Vn1 g_b1 ne_a1_b1 cc2 B1) e1 (Ls := #[vr a1, vi 0, vi 3, vr b1, un, un]) hml.symm (argsL := [(.ref a1), (.int 0), (.ref b1), (.int 0), (.int 3)]) (rest := []) (lenOf pd_8 rfl) (B d10_9) (W := 0)
      obtain ⟨rfl, Nq3, K3, o3_0, o3_1⟩ := hQ3
      have N3 := Fr.app N0 Nq3
      have s1 := K3.1
      have Va4 := (Va2.keep K3 (ninS ne_a1_b1 nin0))
      have Od1 := Od0.ext E1
      have Od2 := Od1.keep K3 (allS g_b1 all0)
      have z2 := Nat.le_trans Z0 (Nat.le_trans s0 s1)
      obtain ⟨_, T5, L5, X5, hQ5, st5⟩ := own_callS X3 hx hZ hown (y := y_13) (w_60 hw) (w_61 hw) (w_55 hw) (w_62 hw) (rm93 l Z hw a1 i2 i3 i4 ck5 T3.heap n0 z2 Va4 S__assertionsDisabled Od2 S_HI_BYTE_SHIFT S_LO_BYTE_SHIFT) rfl (Ls := #[vr a1, vi 0, vi 3, vr b1, vi 1, un]) hml.symm (argsL := [(.ref a1), (.int 0), (.int 3)]) (rest := []) (lenOf pd_12 rfl) (B d10_23) (W := 0)
      obtain ⟨b5_0, k5_1, rfl, Nq5, K5, o5_0, o5_1, o5_2⟩ := hQ5
      have N5 := Fr.app N3 Nq5
      have s2 := K5.1
      have Od3 := Od2.keep K5 all0
      have z3 := Nat.le_trans Z0 (Nat.le_trans (Nat.le_trans s0 s1) s2)
      obtain ⟨_, T6, L6, X6, hQ6, st6⟩ := own_callS X5 hx hZ hown (y := y_14) (w_76 hw) (w_77 hw) (w_55 hw) (w_78 hw) (rm16 l Z hw b5_0 (1 : Int32) [(.int (nar .byte ((i2 >>> ((0 : Int32) &&& 31)).toInt8.toInt32))), (.int (nar .byte ((i2 >>> ((8 : Int32) &&& 31)).toInt8.toInt32))), (.int (nar .byte ((i3 >>> ((0 : Int32) &&& 31)).toInt8.toInt32))), (.int (nar .byte ((i3 >>> ((8 : Int32) &&& 31)).toInt8.toInt32))), (.int (nar .byte ((i4 >>> ((0 : Int32) &&& 31)).toInt8.toInt32))), (.int (nar .byte ((i4 >>> ((8 : Int32) &&& 31)).toInt8.toInt32)))] k5_1 (6 : Int32) (nar .byte ((i3 >>> ((0 : Int32) &&& 31)).toInt8.toInt32)) (nar .byte ((i3 >>> ((8 : Int32) &&& 31)).toInt8.toInt32)) T5.heap n0 z3 S__assertionsDisabled Od3 o5_2 (by decide) (by decide) rfl S_HI_BYTE_SHIFT (by decide) (by decide) rfl S_LO_BYTE_SHIFT) rfl (Ls := #[vr a1, vi 0, vi 3, vr b1, vi 1, vr b5_0]) hml.symm (argsL := [(.ref b5_0), (.int 1)]) (rest := []) (lenOf pd_13 rfl) (B d10_32) (W := 0)
      obtain ⟨rfl, Nq6, e6⟩ := hQ6
      have N6 := Fr.app N5 Nq6
      have cd7 : ¬ (i3 < 0) := (by rw [Int32.lt_iff_toInt_lt]; have := And.intro (own_lb cc2 255 (by decide)) (trivial); have := rng32 i3; have : ((0 : Int32)).toInt = 0 := (by decide); omega)
      have cd8 : 255 < (own_gc (nar .byte ((i3 >>> ((0 : Int32) &&& 31)).toInt8.toInt32)) (nar .byte ((i3 >>> ((8 : Int32) &&& 31)).toInt8.toInt32))) := (by rw [own_gcN i3 cd7 c7]; exact cc2)
      have sz_b5_0 : h0.size ≤ b5_0 := Nat.le_trans (Nat.le_trans s0 s1) o5_0
      have Kp0 := (Keep.refl h0 []).ext E1
      have sz_b1 : h0.size ≤ b1 := (Nat.le_of_eq g1.symm)
      have Kp1 := Kp0.trans K3 (allS (Or.inr sz_b1) all0)
      have Kp2 := Kp1.trans K5 all0
      refine ⟨T6, _, _, _, (some (.ref b5_0)), X6, nofun, by decide, by decide, ?_, fun fs hr => ?_⟩
      · rw [e6]
        exact ⟨b5_0, k5_1, rfl, N6, Kp2, sz_b5_0, o5_1, o5_2⟩
      · refine sI X0 hx (B d10_0) rfl ?_
        refine st1 _ ?_
        refine XS.astoreN X1.here hx rfl (B d10_3) rfl rfl (l' := #[vr a1, vi 0, vi 3, vr b1, un, un]) rfl ?_
        refine sA X1 hx (B d10_4) rfl rfl ?_
        refine sI X1 hx (B d10_5) rfl ?_
        refine sA X1 hx (B d10_6) rfl rfl ?_
        refine sC X1 hx (B d10_7) ?_
        refine sI X1 hx (B d10_8) rfl ?_
        refine st3 _ ?_
        refine XS.istore X3.here hx rfl (B d10_12) rfl (l' := #[vr a1, vi 0, vi 3, vr b1, vi 1, un]) rfl ?_
        refine sJ X3 hx (B d10_14) rfl ?_
        refine sI X3 hx (B d10_16) rfl ?_
        refine XS.icmpNo X3.here hx rfl (B d10_17) rfl (feq (by decide : ¬ ((1 : Int32) = (3 : Int32)))).1 ?_
        refine sA X3 hx (B d10_20) rfl rfl ?_
        refine sI X3 hx (B d10_21) rfl ?_
        refine sI X3 hx (B d10_22) rfl ?_
        refine st5 _ ?_
        refine XS.astore X5.here hx rfl (B d10_26) rfl rfl (l' := #[vr a1, vi 0, vi 3, vr b1, vi 1, vr b5_0]) rfl ?_
        refine sB X5 hx (B d10_28) rfl rfl ?_
        refine sJ X5 hx (B d10_30) rfl ?_
        refine st6 _ ?_
        refine XS.sipush X6.here hx rfl (B d10_35) ?_
        refine XS.icmpYes X6.here hx rfl (pc0 := 38) (pc' := 54) rfl (B d10_38) rfl (tlt cd8).2.2.1 (by decide) (by decide) ?_
        refine sB X6 hx (B d10_54) rfl rfl ?_
        exact retOut X6 hx hret rfl (Or.inr (Or.inr (Or.inr (Or.inr ⟨rfl, rfl, rfl⟩)))) (B d10_56) hr
    · by_cases cc3 : 255 < i4
      · obtain ⟨_, T3, L3, X3, hQ3, st3⟩ := own_callS X1 hx hZ hown (y := y_9) (w_57 hw) (w_58 hw) (w_55 hw) (w_59 hw) (rm95 l Z hw a1 b1 i2 i3 i4 ck5 k1 h1 n0 z1 Va2 cc1 Vn1 g_b1 ne_a1_b1 cc2 cc3 B1) e1 (Ls := #[vr a1, vi 0, vi 3, vr b1, un, un]) hml.symm (argsL := [(.ref a1), (.int 0), (.ref b1), (.int 0), (.int 3)]) (rest := []) (lenOf pd_8 rfl) (B d10_9) (W := 0)
        obtain ⟨rfl, Nq3, K3, o3_0, o3_1⟩ := hQ3
        have N3 := Fr.app N0 Nq3
        have s1 := K3.1
        have Va4 := (Va2.keep K3 (ninS ne_a1_b1 nin0))
        have Od1 := Od0.ext E1
        have Od2 := Od1.keep K3 (allS g_b1 all0)
        have z2 := Nat.le_trans Z0 (Nat.le_trans s0 s1)
        obtain ⟨_, T5, L5, X5, hQ5, st5⟩ := own_callS X3 hx hZ hown (y := y_13) (w_60 hw) (w_61 hw) (w_55 hw) (w_62 hw) (rm93 l Z hw a1 i2 i3 i4 ck5 T3.heap n0 z2 Va4 S__assertionsDisabled Od2 S_HI_BYTE_SHIFT S_LO_BYTE_SHIFT) rfl (Ls := #[vr a1, vi 0, vi 3, vr b1, vi 2, un]) hml.symm (argsL := [(.ref a1), (.int 0), (.int 3)]) (rest := []) (lenOf pd_12 rfl) (B d10_23) (W := 0)
        obtain ⟨b5_0, k5_1, rfl, Nq5, K5, o5_0, o5_1, o5_2⟩ := hQ5
        have N5 := Fr.app N3 Nq5
        have s2 := K5.1
        have Od3 := Od2.keep K5 all0
        have z3 := Nat.le_trans Z0 (Nat.le_trans (Nat.le_trans s0 s1) s2)
        obtain ⟨_, T6, L6, X6, hQ6, st6⟩ := own_callS X5 hx hZ hown (y := y_14) (w_76 hw) (w_77 hw) (w_55 hw) (w_78 hw) (rm16 l Z hw b5_0 (2 : Int32) [(.int (nar .byte ((i2 >>> ((0 : Int32) &&& 31)).toInt8.toInt32))), (.int (nar .byte ((i2 >>> ((8 : Int32) &&& 31)).toInt8.toInt32))), (.int (nar .byte ((i3 >>> ((0 : Int32) &&& 31)).toInt8.toInt32))), (.int (nar .byte ((i3 >>> ((8 : Int32) &&& 31)).toInt8.toInt32))), (.int (nar .byte ((i4 >>> ((0 : Int32) &&& 31)).toInt8.toInt32))), (.int (nar .byte ((i4 >>> ((8 : Int32) &&& 31)).toInt8.toInt32)))] k5_1 (6 : Int32) (nar .byte ((i4 >>> ((0 : Int32) &&& 31)).toInt8.toInt32)) (nar .byte ((i4 >>> ((8 : Int32) &&& 31)).toInt8.toInt32)) T5.heap n0 z3 S__assertionsDisabled Od3 o5_2 (by decide) (by decide) rfl S_HI_BYTE_SHIFT (by decide) (by decide) rfl S_LO_BYTE_SHIFT) rfl (Ls := #[vr a1, vi 0, vi 3, vr b1, vi 2, vr b5_0]) hml.symm (argsL := [(.ref b5_0), (.int 2)]) (rest := []) (lenOf pd_13 rfl) (B d10_32) (W := 0)
        obtain ⟨rfl, Nq6, e6⟩ := hQ6
        have N6 := Fr.app N5 Nq6
        have cd7 : ¬ (i4 < 0) := (by rw [Int32.lt_iff_toInt_lt]; have := And.intro (own_lb cc3 255 (by decide)) (trivial); have := rng32 i4; have : ((0 : Int32)).toInt = 0 := (by decide); omega)
        have cd8 : 255 < (own_gc (nar .byte ((i4 >>> ((0 : Int32) &&& 31)).toInt8.toInt32)) (nar .byte ((i4 >>> ((8 : Int32) &&& 31)).toInt8.toInt32))) := (by rw [own_gcN i4 cd7 c8]; exact cc3)
        have sz_b5_0 : h0.size ≤ b5_0 := Nat.le_trans (Nat.le_trans s0 s1) o5_0
        have Kp0 := (Keep.refl h0 []).ext E1
        have sz_b1 : h0.size ≤ b1 := (Nat.le_of_eq g1.symm)
        have Kp1 := Kp0.trans K3 (allS (Or.inr sz_b1) all0)
        have Kp2 := Kp1.trans K5 all0
        refine ⟨T6, _, _, _, (some (.ref b5_0)), X6, nofun, by decide, by decide, ?_, fun fs hr => ?_⟩
        · rw [e6]
          exact ⟨b5_0, k5_1, rfl, N6, Kp2, sz_b5_0, o5_1, o5_2⟩
        · refine sI X0 hx (B d10_0) rfl ?_
          refine st1 _ ?_
          refine XS.astoreN X1.here hx rfl (B d10_3) rfl rfl (l' := #[vr a1, vi 0, vi 3, vr b1, un, un]) rfl ?_
          refine sA X1 hx (B d10_4) rfl rfl ?_
          refine sI X1 hx (B d10_5) rfl ?_
          refine sA X1 hx (B d10_6) rfl rfl ?_
          refine sC X1 hx (B d10_7) ?_
          refine sI X1 hx (B d10_8) rfl ?_
          refine st3 _ ?_
          refine XS.istore X3.here hx rfl (B d10_12) rfl (l' := #[vr a1, vi 0, vi 3, vr b1, vi 2, un]) rfl ?_
          refine sJ X3 hx (B d10_14) rfl ?_
          refine sI X3 hx (B d10_16) rfl ?_
          refine XS.icmpNo X3.here hx rfl (B d10_17) rfl (feq (by decide : ¬ ((2 : Int32) = (3 : Int32)))).1 ?_
          refine sA X3 hx (B d10_20) rfl rfl ?_
          refine sI X3 hx (B d10_21) rfl ?_
          refine sI X3 hx (B d10_22) rfl ?_
          refine st5 _ ?_
          refine XS.astore X5.here hx rfl (B d10_26) rfl rfl (l' := #[vr a1, vi 0, vi 3, vr b1, vi 2, vr b5_0]) rfl ?_
          refine sB X5 hx (B d10_28) rfl rfl ?_
          refine sJ X5 hx (B d10_30) rfl ?_
          refine st6 _ ?_
          refine XS.sipush X6.here hx rfl (B d10_35) ?_
          refine XS.icmpYes X6.here hx rfl (pc0 := 38) (pc' := 54) rfl (B d10_38) rfl (tlt cd8).2.2.1 (by decide) (by decide) ?_
          refine sB X6 hx (B d10_54) rfl rfl ?_
          exact retOut X6 hx hret rfl (Or.inr (Or.inr (Or.inr (Or.inr ⟨rfl, rfl, rfl⟩)))) (B d10_56) hr
      · exact absurd c9 (by unfold own_cc2; rw [if_neg cc1, if_neg cc2, if_neg cc3]; decide)
theorem ef_eba9e4 (a1 : Addr) (a2 : Addr) (m : MethodId) : entryFrame m #[(.ref a1), (.ref a2), (.int 0), (.int 3), .null] 6 = mkF m 0 #[.val (.ref a1), .val (.ref a2), .val (.int 0), .val (.int 3), .val .null, .unset] [] := by first | (simp [entryFrame, mkF, argsToLocals, Value.category]; done) | rfl
abbrev Rm98 : Room := rmk 4 2 9 57
def Q98 (Z : State) (a1 a2 : Addr) (i3 i5 i6 i7 : Int32) (ck8 : ClassId) (h0 : Heap) (n0 : Nat) (v : Option Value) (h : Heap) (L : List Loc) : Prop := ∃ b3_0 : Addr, ∃ k3_1 : ClassId, v = none ∧ Fr n0 L ∧ Keep h0 h [a1] ∧ Exa Z h a1 jS ∧ Fld Z h a1 jS "coder" "B" (.int 1) ∧ Fld Z h a1 jS "value" "[B" (.ref b3_0) ∧ h0.size ≤ b3_0 ∧ Exa Z h b3_0 "[B" ∧ Arv Z h b3_0 k3_1 .byte 6 [(.int (nar .byte ((i5 >>> ((0 : Int32) &&& 31)).toInt8.toInt32))), (.int (nar .byte ((i5 >>> ((8 : Int32) &&& 31)).toInt8.toInt32))), (.int (nar .byte ((i6 >>> ((0 : Int32) &&& 31)).toInt8.toInt32))), (.int (nar .byte ((i6 >>> ((8 : Int32) &&& 31)).toInt8.toInt32))), (.int (nar .byte ((i7 >>> ((0 : Int32) &&& 31)).toInt8.toInt32))), (.int (nar .byte ((i7 >>> ((8 : Int32) &&& 31)).toInt8.toInt32)))] (.int 0)
theorem rm98 (l : Launch) (Z : State) {a0 : Array Value} (hw : OW a0 Z) (a1 a2 : Addr) (i3 i5 i6 i7 : Int32) (ck8 : ClassId) (h0 : Heap) (n0 : Nat) (Z0 : n0 ≤ h0.size) (S_COMPACT_STRINGS : Sta Z Z.heap "java/lang/String" "COMPACT_STRINGS" "Z" (.int i3)) (Od0 : Old Z n0 h0) (c4 : ¬ (i3 = 0)) (V_a2 : Arv Z h0 a2 ck8 .char 3 [(.int i5), (.int i6), (.int i7)] (.int 0)) (S__assertionsDisabled : Sta Z Z.heap "java/lang/StringUTF16" "$assertionsDisabled" "Z" (.int 1)) (S_HI_BYTE_SHIFT : Sta Z Z.heap "java/lang/StringUTF16" "HI_BYTE_SHIFT" "I" (.int 0)) (S_LO_BYTE_SHIFT : Sta Z Z.heap "java/lang/StringUTF16" "LO_BYTE_SHIFT" "I" (.int 8)) (c9 : ¬ (65535 < i5)) (c10 : ¬ (65535 < i6)) (c11 : ¬ (65535 < i7)) (c12 : (own_cc2 i5 i6 i7) = 0) (F_coder_a1 : Fld Z h0 a1 jS "coder" "B" (.int 0)) (E_a1 : Exa Z h0 a1 jS) (g_a1 : n0 ≤ a1) (F_value_a1 : Fld Z h0 a1 jS "value" "[B" .null) :
    OwnMet l Z y_2 jdk_42_method_149_code 6 none [] Rm98 #[(.ref a1), (.ref a2), (.int 0), (.int 3), .null] h0 (Q98 Z a1 a2 i3 i5 i6 i7 ck8 h0 n0) := by
  refine own_body (plainFor_of_name pn_1) (ef_eba9e4 a1 a2) ?_
  intro p e s m below meth c s₁ hx hby hml hown hnm hret hZ X0 e0
  have N0 := Fr.nil n0
  have B := hbx hby
  obtain ⟨T1, X1, e1, st1⟩ := initO X0 hx hZ hown (w_23 hw) (w_24 hw) (w_25 hw) e0 (g := (mkF m 1 #[vr a1, vr a2, vi 0, vi 3, .val .null, un] [(.ref a1)])) rfl hml.symm rfl (B d4_1) (by decide) (W := 0) (by show 2 * 0 + _ ≤ _; exact Nat.le_of_eq rfl) (by decide)
  obtain ⟨T2, X2, e2, st2⟩ := getS2 X1 hx hZ hown (host := "") (Or.inl (w_51 hw)) Via.refl e1 (S_COMPACT_STRINGS.ext Od0.2) (g := (mkF m 27 #[vr a1, vr a2, vi 0, vi 3, .val .null, un] [])) rfl (B d4_27)
  obtain ⟨_, T3, L3, X3, hQ3, st3⟩ := own_callS X2 hx hZ hown (y := y_15) (w_53 hw) (w_54 hw) (w_55 hw) (w_56 hw) (rm97 l Z hw a2 i5 i6 i7 ck8 h0 n0 Z0 V_a2 S__assertionsDisabled Od0 S_HI_BYTE_SHIFT S_LO_BYTE_SHIFT c9 c10 c11 c12) e2 (Ls := #[vr a1, vr a2, vi 0, vi 3, .val .null, un]) hml.symm (argsL := [(.ref a2), (.int 0), (.int 3)]) (rest := []) (lenOf pd_12 rfl) (B d4_36) (W := 0)
  obtain ⟨b3_0, k3_1, rfl, Nq3, K3, o3_0, o3_1, o3_2⟩ := hQ3
  have N3 := Fr.app N0 Nq3
  have s0 := K3.1
  have z1 := Nat.le_trans Z0 s0
  obtain ⟨_, T4, L4, X4, hQ4, st4⟩ := own_callS X3 hx hZ hown (y := y_16) (w_79 hw) (w_80 hw) (w_55 hw) (w_81 hw) (rm19 l Z hw b3_0 (3 : Int32) [(.int (nar .byte ((i5 >>> ((0 : Int32) &&& 31)).toInt8.toInt32))), (.int (nar .byte ((i5 >>> ((8 : Int32) &&& 31)).toInt8.toInt32))), (.int (nar .byte ((i6 >>> ((0 : Int32) &&& 31)).toInt8.toInt32))), (.int (nar .byte ((i6 >>> ((8 : Int32) &&& 31)).toInt8.toInt32))), (.int (nar .byte ((i7 >>> ((0 : Int32) &&& 31)).toInt8.toInt32))), (.int (nar .byte ((i7 >>> ((8 : Int32) &&& 31)).toInt8.toInt32)))] k3_1 (6 : Int32) T3.heap n0 z1 o3_2) rfl (Ls := #[vr a1, vr a2, vi 0, vi 3, .val .null, vr b3_0]) hml.symm (argsL := [(.ref b3_0), (.int 3)]) (rest := [(.ref a1)]) (lenOf pd_14 rfl) (B d4_45) (W := 1)
  obtain ⟨rfl, Nq4, e4⟩ := hQ4
  have N4 := Fr.app N3 Nq4
  have Fl5 := (F_coder_a1.keep K3 nin0)
  have Ex6 := (E_a1.keep K3)
  obtain ⟨T7, h7, X7, e7, W7, st7⟩ := putFN X4 hx hZ hown (w_33 hw) Via.refl e4 Fl5 Ex6 (Or.inr ⟨(w_29 hw), rfl, hnm⟩) (w_13 hw) (ty := .byte) (v' := (.int (nar .byte (1 : Int32)))) (by decide) rfl (fits_nar_byte _) (g := (mkF m 48 #[vr a1, vr a2, vi 0, vi 3, .val .null, vr b3_0] [(.int 1), (.ref a1)])) rfl rfl (B d4_48)
  have s1 := (Keep.of_wr W7).1
  have N7 := Fr.snoc X7 N4 g_a1
  have Fw7 : Fld Z h7 a1 jS "coder" "B" (.int 1) := Fl5.same W7
  have Ex8 := (Ex6.wr W7)
  have Fl9 := ((F_value_a1.keep K3 nin0).other W7 (Or.inr (slot_ne (Or.inr (w_28 hw)) (Or.inr (w_29 hw)) (by decide) (t := (.array .byte)) (t' := .byte) (by decide) (by decide))))
  obtain ⟨T10, h10, X10, e10, W10, st10⟩ := putF X7 hx hZ hown (host := "") (Or.inl (w_32 hw)) Via.refl e7 Fl9 Ex8 (Or.inr ⟨(w_28 hw), rfl, hnm⟩) (w_13 hw) (ty := (.array .byte)) (by decide) rfl rfl (g := (mkF m 54 #[vr a1, vr a2, vi 0, vi 3, .val .null, vr b3_0] [(.ref b3_0), (.ref a1)])) rfl rfl (B d4_54)
  have s2 := (Keep.of_wr W10).1
  have N10 := Fr.snoc X10 N7 g_a1
  have Fw10 : Fld Z h10 a1 jS "value" "[B" (.ref b3_0) := Fl9.same W10
  have Ex11 := (Ex8.wr W10)
  have Fl12 := (Fw7.other W10 (Or.inr (slot_ne (Or.inr (w_29 hw)) (Or.inr (w_28 hw)) (by decide) (t := .byte) (t' := (.array .byte)) (by decide) (by decide))))
  have sz_b3_0 : h0.size ≤ b3_0 := o3_0
  have Ex13 := ((o3_1.wr W7).wr W10)
  have ne_a1_b3_0 := Nat.ne_of_lt (Nat.lt_of_lt_of_le F_value_a1.lt o3_0)
  have Va14 := ((o3_2.other W7 (Ne.symm ne_a1_b3_0)).other W10 (Ne.symm ne_a1_b3_0))
  have Kp0 := (Keep.refl h0 [a1]).trans K3 all0
  have Kp1 := Kp0.wr W7 own_m0
  have Kp2 := Kp1.wr W10 own_m0
  refine ⟨T10, _, _, _, none, X10, (fun _ => rfl), by decide, by decide, ?_, fun fs hr => ?_⟩
  · rw [e10]
    exact ⟨b3_0, k3_1, rfl, N10, Kp2, Ex11, Fl12, Fw10, sz_b3_0, Ex13, Va14⟩
  · refine sA X0 hx (B d4_0) rfl rfl ?_
    refine st1 _ ?_
    refine sI X1 hx (B d4_4) rfl ?_
    refine XS.ifYes X1.here hx rfl (pc0 := 5) (pc' := 27) rfl (B d4_5) rfl ((if0 _ _).trans (feq (by decide : ¬ ((3 : Int32) = (0 : Int32)))).2) (by decide) (by decide) ?_
    refine st2 _ ?_
    refine XS.ifNo X2.here hx rfl (B d4_30) rfl ((if0 _ _).trans (feq c4).1) ?_
    refine sA X2 hx (B d4_33) rfl rfl ?_
    refine sI X2 hx (B d4_34) rfl ?_
    refine sI X2 hx (B d4_35) rfl ?_
    refine st3 _ ?_
    refine XS.astore X3.here hx rfl (B d4_39) rfl rfl (l' := #[vr a1, vr a2, vi 0, vi 3, .val .null, vr b3_0]) rfl ?_
    refine sA X3 hx (B d4_41) rfl rfl ?_
    refine sB X3 hx (B d4_42) rfl rfl ?_
    refine sI X3 hx (B d4_44) rfl ?_
    refine st4 _ ?_
    refine st7 _ ?_
    refine sA X7 hx (B d4_51) rfl rfl ?_
    refine sB X7 hx (B d4_52) rfl rfl ?_
    refine st10 _ ?_
    exact X10.returnOut hx hret (B d4_57) hr
abbrev Rm99 : Room := rmk 5 2 9 74
def Q99 (Z : State) (a1 a2 : Addr) (i3 i4 i5 : Int32) (ck6 : ClassId) (i7 : Int32) (h0 : Heap) (n0 : Nat) (v : Option Value) (h : Heap) (L : List Loc) : Prop := ∃ b2_0 : Addr, ∃ k2_1 : ClassId, v = none ∧ Fr n0 L ∧ Keep h0 h [a1] ∧ Exa Z h a1 jS ∧ Fld Z h a1 jS "coder" "B" (.int 1) ∧ Fld Z h a1 jS "value" "[B" (.ref b2_0) ∧ h0.size ≤ b2_0 ∧ Exa Z h b2_0 "[B" ∧ Arv Z h b2_0 k2_1 .byte 6 [(.int (nar .byte ((i3 >>> ((0 : Int32) &&& 31)).toInt8.toInt32))), (.int (nar .byte ((i3 >>> ((8 : Int32) &&& 31)).toInt8.toInt32))), (.int (nar .byte ((i4 >>> ((0 : Int32) &&& 31)).toInt8.toInt32))), (.int (nar .byte ((i4 >>> ((8 : Int32) &&& 31)).toInt8.toInt32))), (.int (nar .byte ((i5 >>> ((0 : Int32) &&& 31)).toInt8.toInt32))), (.int (nar .byte ((i5 >>> ((8 : Int32) &&& 31)).toInt8.toInt32)))] (.int 0)
theorem rm99 (l : Launch) (Z : State) {a0 : Array Value} (hw : OW a0 Z) (a1 a2 : Addr) (i3 i4 i5 : Int32) (ck6 : ClassId) (i7 : Int32) (h0 : Heap) (n0 : Nat) (Z0 : n0 ≤ h0.size) (V_a2 : Arv Z h0 a2 ck6 .char 3 [(.int i3), (.int i4), (.int i5)] (.int 0)) (S_COMPACT_STRINGS : Sta Z Z.heap "java/lang/String" "COMPACT_STRINGS" "Z" (.int i7)) (Od0 : Old Z n0 h0) (c8 : ¬ (i7 = 0)) (S__assertionsDisabled : Sta Z Z.heap "java/lang/StringUTF16" "$assertionsDisabled" "Z" (.int 1)) (S_HI_BYTE_SHIFT : Sta Z Z.heap "java/lang/StringUTF16" "HI_BYTE_SHIFT" "I" (.int 0)) (S_LO_BYTE_SHIFT : Sta Z Z.heap "java/lang/StringUTF16" "LO_BYTE_SHIFT" "I" (.int 8)) (c9 : ¬ (65535 < i3)) (c10 : ¬ (65535 < i4)) (c11 : ¬ (65535 < i5)) (c12 : (own_cc2 i3 i4 i5) = 0) (F_coder_a1 : Fld Z h0 a1 jS "coder" "B" (.int 0)) (E_a1 : Exa Z h0 a1 jS) (g_a1 : n0 ≤ a1) (F_value_a1 : Fld Z h0 a1 jS "value" "[B" .null) :
    OwnMet l Z y_3 jdk_42_method_3_code 2 none [] Rm99 #[(.ref a1), (.ref a2)] h0 (Q99 Z a1 a2 i3 i4 i5 ck6 i7 h0 n0) := by
  refine own_body (plainFor_of_name pn_1) (ef_463e93 a1 a2) ?_
  intro p e s m below meth c s₁ hx hby hml hown hnm hret hZ X0 e0
  have N0 := Fr.nil n0
  have B := hbx hby
  obtain ⟨cl1, Ar1, q1, S1, M1, Hs1, G1⟩ := id V_a2
  obtain ⟨_, T2, L2, X2, hQ2, st2⟩ := own_special X0 hx hZ hown (y := y_2) (a := a1) (w_19 hw) (w_20 hw) (w_14 hw) (w_22 hw) (rm98 l Z hw a1 a2 i7 i3 i4 i5 ck6 h0 n0 Z0 S_COMPACT_STRINGS Od0 c8 V_a2 S__assertionsDisabled S_HI_BYTE_SHIFT S_LO_BYTE_SHIFT c9 c10 c11 c12 F_coder_a1 E_a1 g_a1 F_value_a1) e0 (Ls := #[vr a1, vr a2]) hml.symm (argsL := [(.ref a2), (.int 0), (.int 3), .null]) (rest := []) (lenOf pd_1 rfl) (B d3_6) (W := 0)
  obtain ⟨b2_0, k2_1, rfl, Nq2, K2, o2_0, o2_1, o2_2, o2_3, o2_4, o2_5⟩ := hQ2
  have N2 := Fr.app N0 Nq2
  have s0 := K2.1
  have sz_b2_0 : h0.size ≤ b2_0 := o2_3
  have Kp0 := (Keep.refl h0 [a1]).trans K2 (allS own_m0 all0)
  refine ⟨T2, _, _, _, none, X2, (fun _ => rfl), by decide, by decide, ?_, fun fs hr => ?_⟩
  · exact ⟨b2_0, k2_1, rfl, N2, Kp0, o2_0, o2_1, o2_2, sz_b2_0, o2_4, o2_5⟩
  · refine sA X0 hx (B d3_0) rfl rfl ?_
    refine sA X0 hx (B d3_1) rfl rfl ?_
    refine sC X0 hx (B d3_2) ?_
    refine sA X0 hx (B d3_3) rfl rfl ?_
    refine X0.arraylength hx (by rw [e0]; exact Ar1.1) (State.isArrayOf_alike hZ.alike Ar1.2.1) (g := (mkF m 4 #[vr a1, vr a2] [(.ref a2), (.int 0), (.ref a2), (.ref a1)])) rfl rfl (B d3_4) _ ?_
    show Steps p.tables e below (s₁.setTop (mkF m 5 #[vr a1, vr a2] [(.int cl1.slots.size.toInt32), (.int 0), (.ref a2), (.ref a1)])) _
    rw [len_of S1 M1]
    refine XS.aconstNull X0.here hx rfl (B d3_5) ?_
    refine st2 _ ?_
    exact X2.returnOut hx hret (B d3_9) hr
theorem d2_86 : decode Kc2 86 = .ok (.areturn, 1) := by decide +kernel
theorem ef_b5ba17 (i1 : Int32) (i2 : Int32) (i3 : Int32) (i4 : Int32) (m : MethodId) : entryFrame m #[(.int 3), (.int i1), (.int i2), (.int i3), (.int i4)] 5 = mkF m 0 #[.val (.int 3), .val (.int i1), .val (.int i2), .val (.int i3), .val (.int i4)] [] := by first | (simp [entryFrame, mkF, argsToLocals, Value.category]; done) | rfl
abbrev Rm100 : Room := rmk 6 4 16 88
def Q100 (Z : State) (i1 i2 i3 i4 i5 : Int32) (h0 : Heap) (n0 : Nat) (v : Option Value) (h : Heap) (L : List Loc) : Prop := ∃ b1 : Addr, ∃ b18_0 : Addr, ∃ k18_1 : ClassId, v = some (.ref b1) ∧ Fr n0 L ∧ Keep h0 h [] ∧ h0.size ≤ b1 ∧ Exa Z h b1 jS ∧ Fld Z h b1 jS "coder" "B" (.int 1) ∧ Fld Z h b1 jS "value" "[B" (.ref b18_0) ∧ h0.size ≤ b18_0 ∧ Exa Z h b18_0 "[B" ∧ Arv Z h b18_0 k18_1 .byte 6 [(.int (nar .byte (((nar .char i1) >>> ((0 : Int32) &&& 31)).toInt8.toInt32))), (.int (nar .byte (((nar .char i1) >>> ((8 : Int32) &&& 31)).toInt8.toInt32))), (.int (nar .byte (((nar .char i2) >>> ((0 : Int32) &&& 31)).toInt8.toInt32))), (.int (nar .byte (((nar .char i2) >>> ((8 : Int32) &&& 31)).toInt8.toInt32))), (.int (nar .byte (((nar .char i3) >>> ((0 : Int32) &&& 31)).toInt8.toInt32))), (.int (nar .byte (((nar .char i3) >>> ((8 : Int32) &&& 31)).toInt8.toInt32)))] (.int 0) ∧ b1 ≠ b18_0
theorem rm100 (l : Launch) (Z : State) {a0 : Array Value} (hw : OW a0 Z) (i1 i2 i3 i4 i5 : Int32) (h0 : Heap) (n0 : Nat) (Z0 : n0 ≤ h0.size) (S_COMPACT_STRINGS : Sta Z Z.heap "java/lang/String" "COMPACT_STRINGS" "Z" (.int i5)) (Od0 : Old Z n0 h0) (c6 : ¬ (i5 = 0)) (S__assertionsDisabled : Sta Z Z.heap "java/lang/StringUTF16" "$assertionsDisabled" "Z" (.int 1)) (S_HI_BYTE_SHIFT : Sta Z Z.heap "java/lang/StringUTF16" "HI_BYTE_SHIFT" "I" (.int 0)) (S_LO_BYTE_SHIFT : Sta Z Z.heap "java/lang/StringUTF16" "LO_BYTE_SHIFT" "I" (.int 8)) (c7 : (own_cc2 (nar .char i1) (nar .char i2) (nar .char i3)) = 0) :
    OwnMet l Z y_4 method_4_code 5 (some (.object "java/lang/String")) [] Rm100 #[(.int 3), (.int i1), (.int i2), (.int i3), (.int i4)] h0 (Q100 Z i1 i2 i3 i4 i5 h0 n0) := by
  refine own_body (plainFor_of_name pn_0) (ef_b5ba17 i1 i2 i3 i4) ?_
  intro p e s m below meth c s₁ hx hby hml hown hnm hret hZ X0 e0
  have N0 := Fr.nil n0
  have B := hbx hby
  obtain ⟨T1, h1, X1, e1, E1, A1, D1, -, st1⟩ := newO X0 hx hZ hown (w_12 hw) (w_13 hw) (w_14 hw) e0 (g := (mkF m 64 #[vi 3, vi i1, vi i2, vi i3, vi i4] [])) rfl (B d2_64) (by decide) (by decide)
  obtain ⟨b1, g1⟩ : ∃ z, z = h0.size := ⟨_, rfl⟩
  rw [← g1] at A1 D1 st1
  have s0 := E1.1
  have Fn1_value : Fld Z h1 b1 jS "value" "[B" .null := D1 (Or.inr (w_28 hw)) (ty := (.array .byte)) (by decide)
  have Fn1_coder : Fld Z h1 b1 jS "coder" "B" (.int 0) := D1 (Or.inr (w_29 hw)) (ty := .byte) (by decide)
  obtain ⟨T2, h2, k2, X2, e2, E2, A2, B2, st2⟩ := newPE (aty := .char) X1 hx hZ (w_15 hw) e1 (g := (mkF m 69 #[vi 3, vi i1, vi i2, vi i3, vi i4] [(.int 3), (.ref b1), (.ref b1)])) rfl (B d2_69) rfl (by decide) (cap := 3) (by decide) (by decide) (by decide) (by decide) (ad := "[C") (by decide)
  obtain ⟨b2, g2⟩ : ∃ z, z = h1.size := ⟨_, rfl⟩
  rw [← g2] at A2 B2 st2
  have s1 := E2.1
  have Vn2 : Arv Z h2 b2 k2 .char 3 [(.int 0), (.int 0), (.int 0)] (.int 0) := (Arv.new A2 (by decide)).pad (pad_rep [] (.int 0) 3)
  obtain ⟨cl3, Ar3, q3, S3, M3, Hs3, G3⟩ := id Vn2
  have hin4 := inb_of (j := 0) S3 ⟨by decide, by decide⟩
  obtain ⟨T5, h5, X5, e5, W5, st5⟩ := stC X2 hx hZ e2 Ar3 (j := 0) hin4 (g := (mkF m 74 #[vi 3, vi i1, vi i2, vi i3, vi i4] [(.int i1), (.int 0), (.ref b2), (.ref b2), (.ref b1), (.ref b1)])) rfl rfl (B d2_74)
  have s2 := (Keep.of_wr W5).1
  have z1 := Nat.le_trans Z0 s0
  have g_b2 : n0 ≤ b2 := Nat.le_trans z1 (Nat.le_of_eq g2.symm)
  have N5 := Fr.snoc X5 N0 g_b2
  have Vs5 : Arv Z h5 b2 k2 .char 3 [(.int (nar .char i1)), (.int 0), (.int 0)] (.int 0) := Arv.set Ar3 q3 S3 M3 Hs3 G3 (fits_nar_char _) W5 0 rfl (nl rfl)
  obtain ⟨cl6, Ar6, q6, S6, M6, Hs6, G6⟩ := id Vs5
  have hin7 := inb_of (j := 1) S6 ⟨by decide, by decide⟩
  obtain ⟨T8, h8, X8, e8, W8, st8⟩ := stC X5 hx hZ e5 Ar6 (j := 1) hin7 (g := (mkF m 78 #[vi 3, vi i1, vi i2, vi i3, vi i4] [(.int i2), (.int 1), (.ref b2), (.ref b2), (.ref b1), (.ref b1)])) rfl rfl (B d2_78)
  have s3 := (Keep.of_wr W8).1
  have N8 := Fr.snoc X8 N5 g_b2
  have Vs8 : Arv Z h8 b2 k2 .char 3 [(.int (nar .char i1)), (.int (nar .char i2)), (.int 0)] (.int 0) := Arv.set Ar6 q6 S6 M6 Hs6 G6 (fits_nar_char _) W8 1 rfl (nl rfl)
  obtain ⟨cl9, Ar9, q9, S9, M9, Hs9, G9⟩ := id Vs8
  have hin10 := inb_of (j := 2) S9 ⟨by decide, by decide⟩
  obtain ⟨T11, h11, X11, e11, W11, st11⟩ := stC X8 hx hZ e8 Ar9 (j := 2) hin10 (g := (mkF m 82 #[vi 3, vi i1, vi i2, vi i3, vi i4] [(.int i3), (.int 2), (.ref b2), (.ref b2), (.ref b1), (.ref b1)])) rfl rfl (B d2_82)
  have s4 := (Keep.of_wr W11).1
  have N11 := Fr.snoc X11 N8 g_b2
  have Vs11 : Arv Z h11 b2 k2 .char 3 [(.int (nar .char i1)), (.int (nar .char i2)), (.int (nar .char i3))] (.int 0) := Arv.set Ar9 q9 S9 M9 Hs9 G9 (fits_nar_char _) W11 2 rfl (nl rfl)
  have Od1 := Od0.ext E1
  have Od2 := Od1.ext E2
  have Od3 := Od2.wr W5 g_b2
  have Od4 := Od3.wr W8 g_b2
  have Od5 := Od4.wr W11 g_b2
  have cd12 : ¬ (65535 < (nar .char i1)) := (by rw [Int32.lt_iff_toInt_lt]; have : ((65535 : Int32)).toInt = 65535 := (by decide); have := rng32 (nar .char i1); have := rng32 i1; have := own_c_nar_char i1; omega)
  have cd13 : ¬ (65535 < (nar .char i2)) := (by rw [Int32.lt_iff_toInt_lt]; have : ((65535 : Int32)).toInt = 65535 := (by decide); have := rng32 (nar .char i2); have := rng32 i2; have := own_c_nar_char i2; omega)
  have cd14 : ¬ (65535 < (nar .char i3)) := (by rw [Int32.lt_iff_toInt_lt]; have : ((65535 : Int32)).toInt = 65535 := (by decide); have := rng32 (nar .char i3); have := rng32 i3; have := own_c_nar_char i3; omega)
  have ne_b1_b2 := Nat.ne_of_lt (Nat.lt_of_lt_of_le Fn1_value.lt (Nat.le_of_eq g2.symm))
  have Fl15 := ((((Fn1_coder.ext E2).other W5 (Or.inl ne_b1_b2)).other W8 (Or.inl ne_b1_b2)).other W11 (Or.inl ne_b1_b2))
  have Ex16 := ((((A1.ext E2).wr W5).wr W8).wr W11)
  have g_b1 : n0 ≤ b1 := Nat.le_trans Z0 (Nat.le_of_eq g1.symm)
  have Fl17 := ((((Fn1_value.ext E2).other W5 (Or.inl ne_b1_b2)).other W8 (Or.inl ne_b1_b2)).other W11 (Or.inl ne_b1_b2))
  have z5 := Nat.le_trans Z0 (Nat.le_trans (Nat.le_trans (Nat.le_trans (Nat.le_trans s0 s1) s2) s3) s4)
  obtain ⟨_, T18, L18, X18, hQ18, st18⟩ := own_special X11 hx hZ hown (y := y_3) (a := b1) (w_16 hw) (w_17 hw) (w_14 hw) (w_18 hw) (rm99 l Z hw b1 b2 (nar .char i1) (nar .char i2) (nar .char i3) k2 i5 h11 n0 z5 Vs11 S_COMPACT_STRINGS Od5 c6 S__assertionsDisabled S_HI_BYTE_SHIFT S_LO_BYTE_SHIFT cd12 cd13 cd14 c7 Fl15 Ex16 g_b1 Fl17) e11 (Ls := #[vi 3, vi i1, vi i2, vi i3, vi i4]) hml.symm (argsL := [(.ref b2)]) (rest := [(.ref b1)]) (lenOf pd_2 rfl) (B d2_83) (W := 1)
  obtain ⟨b18_0, k18_1, rfl, Nq18, K18, o18_0, o18_1, o18_2, o18_3, o18_4, o18_5⟩ := hQ18
  have N18 := Fr.app N11 Nq18
  have s5 := K18.1
  have sz_b1 : h0.size ≤ b1 := (Nat.le_of_eq g1.symm)
  have sz_b18_0 : h0.size ≤ b18_0 := Nat.le_trans (Nat.le_trans (Nat.le_trans (Nat.le_trans (Nat.le_trans s0 s1) s2) s3) s4) o18_3
  have ne_b1_b18_0 := Nat.ne_of_lt (Nat.lt_of_lt_of_le Fl17.lt o18_3)
  have Kp0 := (Keep.refl h0 []).ext E1
  have Kp1 := Kp0.ext E2
  have sz_b2 : h0.size ≤ b2 := Nat.le_trans s0 (Nat.le_of_eq g2.symm)
  have Kp2 := Kp1.wr W5 (Or.inr sz_b2)
  have Kp3 := Kp2.wr W8 (Or.inr sz_b2)
  have Kp4 := Kp3.wr W11 (Or.inr sz_b2)
  have Kp5 := Kp4.trans K18 (allS (Or.inr sz_b1) all0)
  refine ⟨T18, _, _, _, (some (.ref b1)), X18, nofun, by decide, by decide, ?_, fun fs hr => ?_⟩
  · exact ⟨b1, b18_0, k18_1, rfl, N18, Kp5, sz_b1, o18_0, o18_1, o18_2, sz_b18_0, o18_4, o18_5, ne_b1_b18_0⟩
  · refine sI X0 hx (B d2_0) rfl ?_
    refine XS.ifYes X0.here hx rfl (pc0 := 1) (pc' := 15) rfl (B d2_1) rfl ((if0 _ _).trans (feq (by decide : ¬ ((3 : Int32) = (0 : Int32)))).2) (by decide) (by decide) ?_
    refine sI X0 hx (B d2_15) rfl ?_
    refine sC X0 hx (B d2_16) ?_
    refine XS.icmpYes X0.here hx rfl (pc0 := 17) (pc' := 35) rfl (B d2_17) rfl (feq (by decide : ¬ ((3 : Int32) = (1 : Int32)))).2 (by decide) (by decide) ?_
    refine sI X0 hx (B d2_35) rfl ?_
    refine sC X0 hx (B d2_36) ?_
    refine XS.icmpYes X0.here hx rfl (pc0 := 37) (pc' := 59) rfl (B d2_37) rfl (feq (by decide : ¬ ((3 : Int32) = (2 : Int32)))).2 (by decide) (by decide) ?_
    refine sI X0 hx (B d2_59) rfl ?_
    refine sC X0 hx (B d2_60) ?_
    refine XS.icmpNo X0.here hx rfl (B d2_61) rfl (teq (by decide : (3 : Int32) = (3 : Int32))).2 ?_
    refine st1 _ ?_
    refine XS.dup X1.here hx rfl (B d2_67) rfl rfl ?_
    refine sC X1 hx (B d2_68) ?_
    refine st2 _ ?_
    refine XS.dup X2.here hx rfl (B d2_71) rfl rfl ?_
    refine sC X2 hx (B d2_72) ?_
    refine sI X2 hx (B d2_73) rfl ?_
    refine st5 _ ?_
    refine XS.dup X5.here hx rfl (B d2_75) rfl rfl ?_
    refine sC X5 hx (B d2_76) ?_
    refine sI X5 hx (B d2_77) rfl ?_
    refine st8 _ ?_
    refine XS.dup X8.here hx rfl (B d2_79) rfl rfl ?_
    refine sC X8 hx (B d2_80) ?_
    refine sI X8 hx (B d2_81) rfl ?_
    refine st11 _ ?_
    refine st18 _ ?_
    exact retOut X18 hx hret rfl (Or.inr (Or.inr (Or.inr (Or.inr ⟨rfl, rfl, rfl⟩)))) (B d2_86) hr
def own_ln3 (v0 v1 v2 : Int32) : Int32 := (if (own_hi v0) = 0 then (if (own_lw v0) = 0 then (0 : Int32) else (if (own_hi v1) = 0 then (1 : Int32) else (0 : Int32))) else (if (own_lw v2) = 0 then (1 : Int32) else (0 : Int32)))
abbrev Rm101 : Room := rmk 1 0 0 12
def Q101 (Z : State) (a1 : Addr) (i2 i3 : Int32) (u5 : List Value) (ck6 : ClassId) (i7 i10 i23 i41 : Int32) (h0 : Heap) (n0 : Nat) (v : Option Value) (h : Heap) (L : List Loc) : Prop := v = some (.int (own_ln3 i10 i23 i41)) ∧ Fr n0 L ∧ h = h0
theorem rm101 (l : Launch) (Z : State) {a0 : Array Value} (hw : OW a0 Z) (a1 : Addr) (i2 i3 : Int32) (u5 : List Value) (ck6 : ClassId) (i7 i10 i23 i41 : Int32) (h0 : Heap) (n0 : Nat) (Z0 : n0 ≤ h0.size) (c4 : i3 < i2) (V_a1 : Arv Z h0 a1 ck6 .char i7 u5 (.int 0)) (c8 : ¬ (i3 < 0)) (c9 : i3 < i7) (rd11 : u5.getD (i3).toNatClampNeg (.int 0) = (.int i10)) (c21 : 0 < i3) (c22 : (i3 - (1 : Int32)) < i7) (rd24 : u5.getD ((i3 - (1 : Int32))).toNatClampNeg (.int 0) = (.int i23)) (c38 : (i3 + (1 : Int32)) < i2) (c39 : ¬ ((i3 + (1 : Int32)) < 0)) (c40 : (i3 + (1 : Int32)) < i7) (rd42 : u5.getD ((i3 + (1 : Int32))).toNatClampNeg (.int 0) = (.int i41)) :
    OwnMet l Z y_5 method_7_code 4 (some .boolean) [] Rm101 #[(.ref a1), (.int i2), (.int i3)] h0 (Q101 Z a1 i2 i3 u5 ck6 i7 i10 i23 i41 h0 n0) := by
  refine own_body (plainFor_of_name pn_0) (ef_a4b94a a1 i2 i3) ?_
  intro p e s m below meth c s₁ hx hby hml hown hnm hret hZ X0 e0
  have N0 := Fr.nil n0
  have B := hbx hby
  obtain ⟨cl1, Ar1, q1, S1, M1, Hs1, G1⟩ := id V_a1
  have hin2 := inb_of (j := i3) S1 ⟨c8, c9⟩
  obtain ⟨_, T3, L3, X3, hQ3, st3⟩ := own_callS X0 hx hZ hown (y := y_17) (w_82 hw) (w_83 hw) (w_3 hw) (w_84 hw) (rm23 l Z hw i10 h0 n0 Z0) e0 (Ls := #[vr a1, vi i2, vi i3, vi i10]) hml.symm (argsL := [(.int i10)]) (rest := []) (lenOf pd_15 rfl) (B d6_12) (W := 0)
  obtain ⟨rfl, Nq3, e3⟩ := hQ3
  have N3 := Fr.app N0 Nq3
  by_cases cc1 : (own_hi i10) = 0
  · obtain ⟨_, T4, L4, X4, hQ4, st4⟩ := own_callS X3 hx hZ hown (y := y_18) (w_85 hw) (w_86 hw) (w_3 hw) (w_87 hw) (rm24 l Z hw i10 h0 n0 Z0) e3 (Ls := #[vr a1, vi i2, vi i3, vi i10]) hml.symm (argsL := [(.int i10)]) (rest := []) (lenOf pd_15 rfl) (B d6_43) (W := 0)
    obtain ⟨rfl, Nq4, e4⟩ := hQ4
    have N4 := Fr.app N3 Nq4
    by_cases cc2 : (own_lw i10) = 0
    · refine ⟨T4, _, _, _, (some (.int 0)), X4, nofun, by decide, by decide, ?_, fun fs hr => ?_⟩
      · rw [e4]
        unfold Q101
        rw [show (own_ln3 i10 i23 i41) = (0 : Int32) from by unfold own_ln3; rw [if_pos cc1, if_pos cc2]]
        exact ⟨rfl, N4, rfl⟩
      · refine sI X0 hx (B d6_0) rfl ?_
        refine sI X0 hx (B d6_1) rfl ?_
        refine XS.icmpYes X0.here hx rfl (pc0 := 2) (pc' := 7) rfl (B d6_2) rfl (tlt c4).1 (by decide) (by decide) ?_
        refine sA X0 hx (B d6_7) rfl rfl ?_
        refine sI X0 hx (B d6_8) rfl ?_
        refine X0.caload hx (j := i3) (v := (.int i10)) (by rw [e0]; exact Ar1.1) (State.isArrayOf_alike hZ.alike Ar1.2.1) Ar1.2.2 hin2 (Has.at Hs1 hin2 rd11) (g := (mkF m 9 #[vr a1, vi i2, vi i3, un] [(.int i3), (.ref a1)])) rfl rfl (B d6_9) _ ?_
        refine XS.istoreN X0.here hx rfl (B d6_10) rfl (l' := #[vr a1, vi i2, vi i3, vi i10]) rfl ?_
        refine sI X0 hx (B d6_11) rfl ?_
        refine st3 _ ?_
        refine XS.ifYes X3.here hx rfl (pc0 := 15) (pc' := 42) rfl (B d6_15) rfl ((if0 _ _).trans (teq cc1).1) (by decide) (by decide) ?_
        refine sI X3 hx (B d6_42) rfl ?_
        refine st4 _ ?_
        refine XS.ifYes X4.here hx rfl (pc0 := 46) (pc' := 70) rfl (B d6_46) rfl ((if0 _ _).trans (teq cc2).1) (by decide) (by decide) ?_
        refine sC X4 hx (B d6_70) ?_
        exact retN X4 hx (t := .boolean) hret (by simp) (B d6_71) hr
    · have cd5 : ¬ ((i3 - (1 : Int32)) < 0) := (by rw [Int32.lt_iff_toInt_lt]; have := rng32 (i3 - (1 : Int32)); have := And.intro (own_lb c21 0 (by decide)) (trivial); have := rng32 i3; have : ((1 : Int32)).toInt = 1 := (by decide); have := c_isub i3 (1 : Int32); have : ((0 : Int32)).toInt = 0 := (by decide); omega)
      have hin6 := inb_of (j := (i3 - (1 : Int32))) S1 ⟨cd5, c22⟩
      obtain ⟨_, T7, L7, X7, hQ7, st7⟩ := own_callS X4 hx hZ hown (y := y_17) (w_82 hw) (w_83 hw) (w_3 hw) (w_84 hw) (rm23 l Z hw i23 h0 n0 Z0) e4 (Ls := #[vr a1, vi i2, vi i3, vi i10]) hml.symm (argsL := [(.int i23)]) (rest := []) (lenOf pd_15 rfl) (B d6_58) (W := 0)
      obtain ⟨rfl, Nq7, e7⟩ := hQ7
      have N7 := Fr.app N4 Nq7
      by_cases cc3 : (own_hi i23) = 0
      · refine ⟨T7, _, _, _, (some (.int 1)), X7, nofun, by decide, by decide, ?_, fun fs hr => ?_⟩
        · rw [e7]
          unfold Q101
          rw [show (own_ln3 i10 i23 i41) = (1 : Int32) from by unfold own_ln3; rw [if_pos cc1, if_neg cc2, if_pos cc3]]
          exact ⟨rfl, N7, rfl⟩
        · refine sI X0 hx (B d6_0) rfl ?_
          refine sI X0 hx (B d6_1) rfl ?_
          refine XS.icmpYes X0.here hx rfl (pc0 := 2) (pc' := 7) rfl (B d6_2) rfl (tlt c4).1 (by decide) (by decide) ?_
          refine sA X0 hx (B d6_7) rfl rfl ?_
          refine sI X0 hx (B d6_8) rfl ?_
          refine X0.caload hx (j := i3) (v := (.int i10)) (by rw [e0]; exact Ar1.1) (State.isArrayOf_alike hZ.alike Ar1.2.1) Ar1.2.2 hin2 (Has.at Hs1 hin2 rd11) (g := (mkF m 9 #[vr a1, vi i2, vi i3, un] [(.int i3), (.ref a1)])) rfl rfl (B d6_9) _ ?_
          refine XS.istoreN X0.here hx rfl (B d6_10) rfl (l' := #[vr a1, vi i2, vi i3, vi i10]) rfl ?_
          refine sI X0 hx (B d6_11) rfl ?_
          refine st3 _ ?_
          refine XS.ifYes X3.here hx rfl (pc0 := 15) (pc' := 42) rfl (B d6_15) rfl ((if0 _ _).trans (teq cc1).1) (by decide) (by decide) ?_
          refine sI X3 hx (B d6_42) rfl ?_
          refine st4 _ ?_
          refine XS.ifNo X4.here hx rfl (B d6_46) rfl ((if0 _ _).trans (feq cc2).1) ?_
          refine sI X4 hx (B d6_49) rfl ?_
          refine XS.ifNo X4.here hx rfl (B d6_50) rfl ((if0 _ _).trans (tlt c21).2.2.2) ?_
          refine sA X4 hx (B d6_53) rfl rfl ?_
          refine sI X4 hx (B d6_54) rfl ?_
          refine sC X4 hx (B d6_55) ?_
          refine XS.isub X4.here hx rfl (B d6_56) rfl ?_
          refine X4.caload hx (j := (i3 - (1 : Int32))) (v := (.int i23)) (by rw [e4]; exact Ar1.1) (State.isArrayOf_alike hZ.alike Ar1.2.1) Ar1.2.2 hin6 (Has.at Hs1 hin6 rd24) (g := (mkF m 57 #[vr a1, vi i2, vi i3, vi i10] [(.int (i3 - (1 : Int32))), (.ref a1)])) rfl rfl (B d6_57) _ ?_
          refine st7 _ ?_
          refine XS.ifNo X7.here hx rfl (B d6_61) rfl ((if0 _ _).trans (teq cc3).2) ?_
          refine sC X7 hx (B d6_64) ?_
          refine XS.goto X7.here hx rfl (pc0 := 65) (pc' := 69) rfl (B d6_65) (by decide) (by decide) ?_
          exact retN X7 hx (t := .boolean) hret (by simp) (B d6_69) hr
      · refine ⟨T7, _, _, _, (some (.int 0)), X7, nofun, by decide, by decide, ?_, fun fs hr => ?_⟩
        · rw [e7]
          unfold Q101
          rw [show (own_ln3 i10 i23 i41) = (0 : Int32) from by unfold own_ln3; rw [if_pos cc1, if_neg cc2, if_neg cc3]]
          exact ⟨rfl, N7, rfl⟩
        · refine sI X0 hx (B d6_0) rfl ?_
          refine sI X0 hx (B d6_1) rfl ?_
          refine XS.icmpYes X0.here hx rfl (pc0 := 2) (pc' := 7) rfl (B d6_2) rfl (tlt c4).1 (by decide) (by decide) ?_
          refine sA X0 hx (B d6_7) rfl rfl ?_
          refine sI X0 hx (B d6_8) rfl ?_
          refine X0.caload hx (j := i3) (v := (.int i10)) (by rw [e0]; exact Ar1.1) (State.isArrayOf_alike hZ.alike Ar1.2.1) Ar1.2.2 hin2 (Has.at Hs1 hin2 rd11) (g := (mkF m 9 #[vr a1, vi i2, vi i3, un] [(.int i3), (.ref a1)])) rfl rfl (B d6_9) _ ?_
          refine XS.istoreN X0.here hx rfl (B d6_10) rfl (l' := #[vr a1, vi i2, vi i3, vi i10]) rfl ?_
          refine sI X0 hx (B d6_11) rfl ?_
          refine st3 _ ?_
          refine XS.ifYes X3.here hx rfl (pc0 := 15) (pc' := 42) rfl (B d6_15) rfl ((if0 _ _).trans (teq cc1).1) (by decide) (by decide) ?_
          refine sI X3 hx (B d6_42) rfl ?_
          refine st4 _ ?_
          refine XS.ifNo X4.here hx rfl (B d6_46) rfl ((if0 _ _).trans (feq cc2).1) ?_
          refine sI X4 hx (B d6_49) rfl ?_
          refine XS.ifNo X4.here hx rfl (B d6_50) rfl ((if0 _ _).trans (tlt c21).2.2.2) ?_
          refine sA X4 hx (B d6_53) rfl rfl ?_
          refine sI X4 hx (B d6_54) rfl ?_
          refine sC X4 hx (B d6_55) ?_
          refine XS.isub X4.here hx rfl (B d6_56) rfl ?_
          refine X4.caload hx (j := (i3 - (1 : Int32))) (v := (.int i23)) (by rw [e4]; exact Ar1.1) (State.isArrayOf_alike hZ.alike Ar1.2.1) Ar1.2.2 hin6 (Has.at Hs1 hin6 rd24) (g := (mkF m 57 #[vr a1, vi i2, vi i3, vi i10] [(.int (i3 - (1 : Int32))), (.ref a1)])) rfl rfl (B d6_57) _ ?_
          refine st7 _ ?_
          refine XS.ifYes X7.here hx rfl (pc0 := 61) (pc' := 68) rfl (B d6_61) rfl ((if0 _ _).trans (feq cc3).2) (by decide) (by decide) ?_
          refine sC X7 hx (B d6_68) ?_
          exact retN X7 hx (t := .boolean) hret (by simp) (B d6_69) hr
  · have hin4 := inb_of (j := (i3 + (1 : Int32))) S1 ⟨c39, c40⟩
    obtain ⟨_, T5, L5, X5, hQ5, st5⟩ := own_callS X3 hx hZ hown (y := y_18) (w_85 hw) (w_86 hw) (w_3 hw) (w_87 hw) (rm24 l Z hw i41 h0 n0 Z0) e3 (Ls := #[vr a1, vi i2, vi i3, vi i10]) hml.symm (argsL := [(.int i41)]) (rest := []) (lenOf pd_15 rfl) (B d6_30) (W := 0)
    obtain ⟨rfl, Nq5, e5⟩ := hQ5
    have N5 := Fr.app N3 Nq5
    by_cases cc2 : (own_lw i41) = 0
    · refine ⟨T5, _, _, _, (some (.int 1)), X5, nofun, by decide, by decide, ?_, fun fs hr => ?_⟩
      · rw [e5]
        unfold Q101
        rw [show (own_ln3 i10 i23 i41) = (1 : Int32) from by unfold own_ln3; rw [if_neg cc1, if_pos cc2]]
        exact ⟨rfl, N5, rfl⟩
      · refine sI X0 hx (B d6_0) rfl ?_
        refine sI X0 hx (B d6_1) rfl ?_
        refine XS.icmpYes X0.here hx rfl (pc0 := 2) (pc' := 7) rfl (B d6_2) rfl (tlt c4).1 (by decide) (by decide) ?_
        refine sA X0 hx (B d6_7) rfl rfl ?_
        refine sI X0 hx (B d6_8) rfl ?_
        refine X0.caload hx (j := i3) (v := (.int i10)) (by rw [e0]; exact Ar1.1) (State.isArrayOf_alike hZ.alike Ar1.2.1) Ar1.2.2 hin2 (Has.at Hs1 hin2 rd11) (g := (mkF m 9 #[vr a1, vi i2, vi i3, un] [(.int i3), (.ref a1)])) rfl rfl (B d6_9) _ ?_
        refine XS.istoreN X0.here hx rfl (B d6_10) rfl (l' := #[vr a1, vi i2, vi i3, vi i10]) rfl ?_
        refine sI X0 hx (B d6_11) rfl ?_
        refine st3 _ ?_
        refine XS.ifNo X3.here hx rfl (B d6_15) rfl ((if0 _ _).trans (feq cc1).1) ?_
        refine sI X3 hx (B d6_18) rfl ?_
        refine sC X3 hx (B d6_19) ?_
        refine XS.iadd X3.here hx rfl (B d6_20) rfl ?_
        refine sI X3 hx (B d6_21) rfl ?_
        refine XS.icmpNo X3.here hx rfl (B d6_22) rfl (tlt c38).2.1 ?_
        refine sA X3 hx (B d6_25) rfl rfl ?_
        refine sI X3 hx (B d6_26) rfl ?_
        refine sC X3 hx (B d6_27) ?_
        refine XS.iadd X3.here hx rfl (B d6_28) rfl ?_
        refine X3.caload hx (j := (i3 + (1 : Int32))) (v := (.int i41)) (by rw [e3]; exact Ar1.1) (State.isArrayOf_alike hZ.alike Ar1.2.1) Ar1.2.2 hin4 (Has.at Hs1 hin4 rd42) (g := (mkF m 29 #[vr a1, vi i2, vi i3, vi i10] [(.int (i3 + (1 : Int32))), (.ref a1)])) rfl rfl (B d6_29) _ ?_
        refine st5 _ ?_
        refine XS.ifNo X5.here hx rfl (B d6_33) rfl ((if0 _ _).trans (teq cc2).2) ?_
        refine sC X5 hx (B d6_36) ?_
        refine XS.goto X5.here hx rfl (pc0 := 37) (pc' := 41) rfl (B d6_37) (by decide) (by decide) ?_
        exact retN X5 hx (t := .boolean) hret (by simp) (B d6_41) hr
    · refine ⟨T5, _, _, _, (some (.int 0)), X5, nofun, by decide, by decide, ?_, fun fs hr => ?_⟩
      · rw [e5]
        unfold Q101
        rw [show (own_ln3 i10 i23 i41) = (0 : Int32) from by unfold own_ln3; rw [if_neg cc1, if_neg cc2]]
        exact ⟨rfl, N5, rfl⟩
      · refine sI X0 hx (B d6_0) rfl ?_
        refine sI X0 hx (B d6_1) rfl ?_
        refine XS.icmpYes X0.here hx rfl (pc0 := 2) (pc' := 7) rfl (B d6_2) rfl (tlt c4).1 (by decide) (by decide) ?_
        refine sA X0 hx (B d6_7) rfl rfl ?_
        refine sI X0 hx (B d6_8) rfl ?_
        refine X0.caload hx (j := i3) (v := (.int i10)) (by rw [e0]; exact Ar1.1) (State.isArrayOf_alike hZ.alike Ar1.2.1) Ar1.2.2 hin2 (Has.at Hs1 hin2 rd11) (g := (mkF m 9 #[vr a1, vi i2, vi i3, un] [(.int i3), (.ref a1)])) rfl rfl (B d6_9) _ ?_
        refine XS.istoreN X0.here hx rfl (B d6_10) rfl (l' := #[vr a1, vi i2, vi i3, vi i10]) rfl ?_
        refine sI X0 hx (B d6_11) rfl ?_
        refine st3 _ ?_
        refine XS.ifNo X3.here hx rfl (B d6_15) rfl ((if0 _ _).trans (feq cc1).1) ?_
        refine sI X3 hx (B d6_18) rfl ?_
        refine sC X3 hx (B d6_19) ?_
        refine XS.iadd X3.here hx rfl (B d6_20) rfl ?_
        refine sI X3 hx (B d6_21) rfl ?_
        refine XS.icmpNo X3.here hx rfl (B d6_22) rfl (tlt c38).2.1 ?_
        refine sA X3 hx (B d6_25) rfl rfl ?_
        refine sI X3 hx (B d6_26) rfl ?_
        refine sC X3 hx (B d6_27) ?_
        refine XS.iadd X3.here hx rfl (B d6_28) rfl ?_
        refine X3.caload hx (j := (i3 + (1 : Int32))) (v := (.int i41)) (by rw [e3]; exact Ar1.1) (State.isArrayOf_alike hZ.alike Ar1.2.1) Ar1.2.2 hin4 (Has.at Hs1 hin4 rd42) (g := (mkF m 29 #[vr a1, vi i2, vi i3, vi i10] [(.int (i3 + (1 : Int32))), (.ref a1)])) rfl rfl (B d6_29) _ ?_
        refine st5 _ ?_
        refine XS.ifYes X5.here hx rfl (pc0 := 33) (pc' := 40) rfl (B d6_33) rfl ((if0 _ _).trans (feq cc2).2) (by decide) (by decide) ?_
        refine sC X5 hx (B d6_40) ?_
        exact retN X5 hx (t := .boolean) hret (by simp) (B d6_41) hr
def own_ex2 (v0 v1 v2 : Int32) : Int32 := (if (own_ln1 v0 v1) = 0 then (if (own_ln3 v1 v0 v2) = 0 then (if (own_ln2 v2 v1) = 0 then (-1 : Int32) else (2 : Int32)) else (1 : Int32)) else (0 : Int32))
theorem tn102 (l : Launch) (Z : State) {a0 : Array Value} (hw : OW a0 Z) (i1 i2 i3 i4 i5 i6 i7 i8 i9 : Int32) (a10 a11 : Addr) (i12 i13 i14 i15 : Int32) (ck16 : ClassId) (h0 : Heap) (n0 : Nat) (Z0 : n0 ≤ h0.size) (V_a11 : Arv Z h0 a11 ck16 .char 4 [(.int i12), (.int i13), (.int i14), (.int i15)] (.int 0)) {p : Program} {e : Env} {s : State} {m : MethodId} {args : Array Value} {below : List Frame} {meth : Method} {c : Code} {s₁ : State} {L0 : List Loc} {ce sl : Nat} (hx : p.tables.exec = Jvm.exec) (hby : c.code = code) (hml : c.maxLocals = maxLocals) (hown : s.vm.findClass "com/example/sidwire/sidwire/cbor/CborWriterUnpairedSurrogatePinLaw" = some m.cls) (hZ : Z.Warmed39 s.vm) (X0 : Stand p l e room_1 s m args below meth c s₁ L0 ce sl) (e0 : s₁.heap = h0) (N0 : Fr n0 L0) (hce : ce ≤ room_1.cells) (hsl : sl ≤ room_1.slots) :
    ∃ (T : State) (L : List Loc), Stand p l e room_1 s m args below meth c T L ce sl ∧ T.heap = h0 ∧ Fr n0 L ∧ ∀ target, Steps p.tables e below (T.setTop (mkF m 144 #[vi i1, vi i2, vi i3, vi i4, vi i5, vi 3, vi i6, vi i7, vi i8, vi i9, vr a10, vr a11, vi (own_ex2 i12 i13 i14)] [])) target → Steps p.tables e below (s₁.setTop (mkF m 73 #[vi i1, vi i2, vi i3, vi i4, vi i5, vi 3, vi i6, vi i7, vi i8, vi i9, vr a10, vr a11, un] [])) target := by
  have B := hbx hby
  obtain ⟨_, T1, L1, X1, hQ1, st1⟩ := own_callS X0 hx hZ hown (y := y_5) (w_34 hw) (w_35 hw) (w_3 hw) (w_36 hw) (rm69 l Z hw a11 (3 : Int32) (0 : Int32) [(.int i12), (.int i13), (.int i14), (.int i15)] ck16 (4 : Int32) i12 i13 h0 n0 Z0 (by decide) V_a11 (by decide) (by decide) rfl (by decide) (by decide) (by decide) (by decide) rfl) e0 (Ls := #[vi i1, vi i2, vi i3, vi i4, vi i5, vi 3, vi i6, vi i7, vi i8, vi i9, vr a10, vr a11, un]) hml.symm (argsL := [(.ref a11), (.int 3), (.int 0)]) (rest := []) (lenOf pd_4 rfl) (B at_78) (W := 0) (hc := hce) (hs := hsl)
  obtain ⟨rfl, Nq1, e1⟩ := hQ1
  have N1 := Fr.app N0 Nq1
  by_cases cc1 : (own_ln1 i12 i13) = 0
  · obtain ⟨_, T2, L2, X2, hQ2, st2⟩ := own_callS X1 hx hZ hown (y := y_5) (w_34 hw) (w_35 hw) (w_3 hw) (w_36 hw) (rm101 l Z hw a11 (3 : Int32) (1 : Int32) [(.int i12), (.int i13), (.int i14), (.int i15)] ck16 (4 : Int32) i13 i12 i14 h0 n0 Z0 (by decide) V_a11 (by decide) (by decide) rfl (by decide) (by decide) rfl (by decide) (by decide) (by decide) rfl) e1 (Ls := #[vi i1, vi i2, vi i3, vi i4, vi i5, vi 3, vi i6, vi i7, vi i8, vi i9, vr a10, vr a11, un]) hml.symm (argsL := [(.ref a11), (.int 3), (.int 1)]) (rest := []) (lenOf pd_4 rfl) (B at_95) (W := 0) (hc := hce) (hs := hsl)
    obtain ⟨rfl, Nq2, e2⟩ := hQ2
    have N2 := Fr.app N1 Nq2
    by_cases cc2 : (own_ln3 i13 i12 i14) = 0
    · obtain ⟨_, T3, L3, X3, hQ3, st3⟩ := own_callS X2 hx hZ hown (y := y_5) (w_34 hw) (w_35 hw) (w_3 hw) (w_36 hw) (rm70 l Z hw a11 (3 : Int32) (2 : Int32) [(.int i12), (.int i13), (.int i14), (.int i15)] ck16 (4 : Int32) i14 i13 h0 n0 Z0 (by decide) V_a11 (by decide) (by decide) rfl (by decide) (by decide) rfl (by decide)) e2 (Ls := #[vi i1, vi i2, vi i3, vi i4, vi i5, vi 3, vi i6, vi i7, vi i8, vi i9, vr a10, vr a11, un]) hml.symm (argsL := [(.ref a11), (.int 3), (.int 2)]) (rest := []) (lenOf pd_4 rfl) (B at_112) (W := 0) (hc := hce) (hs := hsl)
      obtain ⟨rfl, Nq3, e3⟩ := hQ3
      have N3 := Fr.app N2 Nq3
      by_cases cc3 : (own_ln2 i14 i13) = 0
      · obtain ⟨_, T4, L4, X4, hQ4, st4⟩ := own_callS X3 hx hZ hown (y := y_5) (w_34 hw) (w_35 hw) (w_3 hw) (w_36 hw) (rm5 l Z hw a11 (3 : Int32) (3 : Int32) h0 n0 Z0 (by decide)) e3 (Ls := #[vi i1, vi i2, vi i3, vi i4, vi i5, vi 3, vi i6, vi i7, vi i8, vi i9, vr a10, vr a11, un]) hml.symm (argsL := [(.ref a11), (.int 3), (.int 3)]) (rest := []) (lenOf pd_4 rfl) (B at_129) (W := 0) (hc := hce) (hs := hsl)
        obtain ⟨rfl, Nq4, e4⟩ := hQ4
        have N4 := Fr.app N3 Nq4
        refine ⟨T4, _, X4, e4, N4, fun target hr => ?_⟩
        refine sB X0 hx (B at_73) rfl rfl ?_
        refine sJ X0 hx (B at_75) rfl ?_
        refine sC X0 hx (B at_77) ?_
        refine st1 _ ?_
        refine XS.ifYes X1.here hx rfl (pc0 := 81) (pc' := 90) rfl (B at_81) rfl ((if0 _ _).trans (teq cc1).1) (by decide) (by decide) ?_
        refine sB X1 hx (B at_90) rfl rfl ?_
        refine sJ X1 hx (B at_92) rfl ?_
        refine sC X1 hx (B at_94) ?_
        refine st2 _ ?_
        refine XS.ifYes X2.here hx rfl (pc0 := 98) (pc' := 107) rfl (B at_98) rfl ((if0 _ _).trans (teq cc2).1) (by decide) (by decide) ?_
        refine sB X2 hx (B at_107) rfl rfl ?_
        refine sJ X2 hx (B at_109) rfl ?_
        refine sC X2 hx (B at_111) ?_
        refine st3 _ ?_
        refine XS.ifYes X3.here hx rfl (pc0 := 115) (pc' := 124) rfl (B at_115) rfl ((if0 _ _).trans (teq cc3).1) (by decide) (by decide) ?_
        refine sB X3 hx (B at_124) rfl rfl ?_
        refine sJ X3 hx (B at_126) rfl ?_
        refine sC X3 hx (B at_128) ?_
        refine st4 _ ?_
        refine XS.ifYes X4.here hx rfl (pc0 := 132) (pc' := 141) rfl (B at_132) rfl ((if0 _ _).trans (teq (by decide : (0 : Int32) = (0 : Int32))).1) (by decide) (by decide) ?_
        refine sC X4 hx (B at_141) ?_
        refine XS.istore X4.here hx rfl (B at_142) rfl (l' := #[vi i1, vi i2, vi i3, vi i4, vi i5, vi 3, vi i6, vi i7, vi i8, vi i9, vr a10, vr a11, vi (-1)]) rfl ?_
        rw [show (own_ex2 i12 i13 i14) = (-1 : Int32) from by unfold own_ex2; rw [if_pos cc1, if_pos cc2, if_pos cc3]] at hr
        exact hr
      · refine ⟨T3, _, X3, e3, N3, fun target hr => ?_⟩
        refine sB X0 hx (B at_73) rfl rfl ?_
        refine sJ X0 hx (B at_75) rfl ?_
        refine sC X0 hx (B at_77) ?_
        refine st1 _ ?_
        refine XS.ifYes X1.here hx rfl (pc0 := 81) (pc' := 90) rfl (B at_81) rfl ((if0 _ _).trans (teq cc1).1) (by decide) (by decide) ?_
        refine sB X1 hx (B at_90) rfl rfl ?_
        refine sJ X1 hx (B at_92) rfl ?_
        refine sC X1 hx (B at_94) ?_
        refine st2 _ ?_
        refine XS.ifYes X2.here hx rfl (pc0 := 98) (pc' := 107) rfl (B at_98) rfl ((if0 _ _).trans (teq cc2).1) (by decide) (by decide) ?_
        refine sB X2 hx (B at_107) rfl rfl ?_
        refine sJ X2 hx (B at_109) rfl ?_
        refine sC X2 hx (B at_111) ?_
        refine st3 _ ?_
        refine XS.ifNo X3.here hx rfl (B at_115) rfl ((if0 _ _).trans (feq cc3).1) ?_
        refine sC X3 hx (B at_118) ?_
        refine XS.istore X3.here hx rfl (B at_119) rfl (l' := #[vi i1, vi i2, vi i3, vi i4, vi i5, vi 3, vi i6, vi i7, vi i8, vi i9, vr a10, vr a11, vi 2]) rfl ?_
        refine XS.goto X3.here hx rfl (pc0 := 121) (pc' := 144) rfl (B at_121) (by decide) (by decide) ?_
        rw [show (own_ex2 i12 i13 i14) = (2 : Int32) from by unfold own_ex2; rw [if_pos cc1, if_pos cc2, if_neg cc3]] at hr
        exact hr
    · refine ⟨T2, _, X2, e2, N2, fun target hr => ?_⟩
      refine sB X0 hx (B at_73) rfl rfl ?_
      refine sJ X0 hx (B at_75) rfl ?_
      refine sC X0 hx (B at_77) ?_
      refine st1 _ ?_
      refine XS.ifYes X1.here hx rfl (pc0 := 81) (pc' := 90) rfl (B at_81) rfl ((if0 _ _).trans (teq cc1).1) (by decide) (by decide) ?_
      refine sB X1 hx (B at_90) rfl rfl ?_
      refine sJ X1 hx (B at_92) rfl ?_
      refine sC X1 hx (B at_94) ?_
      refine st2 _ ?_
      refine XS.ifNo X2.here hx rfl (B at_98) rfl ((if0 _ _).trans (feq cc2).1) ?_
      refine sC X2 hx (B at_101) ?_
      refine XS.istore X2.here hx rfl (B at_102) rfl (l' := #[vi i1, vi i2, vi i3, vi i4, vi i5, vi 3, vi i6, vi i7, vi i8, vi i9, vr a10, vr a11, vi 1]) rfl ?_
      refine XS.goto X2.here hx rfl (pc0 := 104) (pc' := 144) rfl (B at_104) (by decide) (by decide) ?_
      rw [show (own_ex2 i12 i13 i14) = (1 : Int32) from by unfold own_ex2; rw [if_pos cc1, if_neg cc2]] at hr
      exact hr
  · refine ⟨T1, _, X1, e1, N1, fun target hr => ?_⟩
    refine sB X0 hx (B at_73) rfl rfl ?_
    refine sJ X0 hx (B at_75) rfl ?_
    refine sC X0 hx (B at_77) ?_
    refine st1 _ ?_
    refine XS.ifNo X1.here hx rfl (B at_81) rfl ((if0 _ _).trans (feq cc1).1) ?_
    refine sC X1 hx (B at_84) ?_
    refine XS.istore X1.here hx rfl (B at_85) rfl (l' := #[vi i1, vi i2, vi i3, vi i4, vi i5, vi 3, vi i6, vi i7, vi i8, vi i9, vr a10, vr a11, vi 0]) rfl ?_
    refine XS.goto X1.here hx rfl (pc0 := 87) (pc' := 144) rfl (B at_87) (by decide) (by decide) ?_
    rw [show (own_ex2 i12 i13 i14) = (0 : Int32) from by unfold own_ex2; rw [if_neg cc1]] at hr
    exact hr
def own_un2 (v0 v1 v2 v3 v4 v5 : Int32) : Int32 := (if (own_tc1 v0 v1 v2 v3) = 0 then (if (own_tc1 v2 v3 v4 v5) = 0 then (if (own_tc v4 v5) = 0 then (-1 : Int32) else (2 : Int32)) else (if (own_tc1 v2 v3 v4 v5) = 1 then (-1 : Int32) else (1 : Int32))) else (if (own_tc1 v0 v1 v2 v3) = 1 then (if (own_tc v4 v5) = 0 then (-1 : Int32) else (2 : Int32)) else (0 : Int32)))
abbrev Rm103 : Room := rmk 8 0 0 150
def Q103 (Z : State) (a1 a2 : Addr) (i3 i4 i5 i6 i7 i8 : Int32) (ck9 : ClassId) (i10 : Int32) (r12 : Value) (h0 : Heap) (n0 : Nat) (v : Option Value) (h : Heap) (L : List Loc) : Prop := v = some (.int (own_un2 i3 i4 i5 i6 i7 i8)) ∧ Fr n0 L ∧ h = h0
theorem rm103 (l : Launch) (Z : State) {a0 : Array Value} (hw : OW a0 Z) (a1 a2 : Addr) (i3 i4 i5 i6 i7 i8 : Int32) (ck9 : ClassId) (i10 : Int32) (r12 : Value) (h0 : Heap) (n0 : Nat) (Z0 : n0 ≤ h0.size) (E_a1 : Exa Z h0 a1 jS) (F_value_a1 : Fld Z h0 a1 jS "value" "[B" (.ref a2)) (V_a2 : Arv Z h0 a2 ck9 .byte 6 [(.int i3), (.int i4), (.int i5), (.int i6), (.int i7), (.int i8)] (.int 0)) (S_COMPACT_STRINGS : Sta Z Z.heap "java/lang/String" "COMPACT_STRINGS" "Z" (.int i10)) (Od0 : Old Z n0 h0) (c11 : ¬ (i10 = 0)) (F_coder_a1 : Fld Z h0 a1 jS "coder" "B" (.int 1)) (R_r12 : r12.isRef = true) (S_SIOOBE_FORMATTER : Sta Z Z.heap "jdk/internal/util/Preconditions" "SIOOBE_FORMATTER" "Ljava/util/function/BiFunction;" r12) (S__assertionsDisabled : Sta Z Z.heap "java/lang/StringUTF16" "$assertionsDisabled" "Z" (.int 1)) (S_HI_BYTE_SHIFT : Sta Z Z.heap "java/lang/StringUTF16" "HI_BYTE_SHIFT" "I" (.int 0)) (S_LO_BYTE_SHIFT : Sta Z Z.heap "java/lang/StringUTF16" "LO_BYTE_SHIFT" "I" (.int 8)) :
    OwnMet l Z y_8 prog_10_method_10_code 3 (some .int) [] Rm103 #[(.ref a1)] h0 (Q103 Z a1 a2 i3 i4 i5 i6 i7 i8 ck9 i10 r12 h0 n0) := by
  refine own_body (plainFor_of_name pn_2) (ef_aae876 a1) ?_
  intro p e s m below meth c s₁ hx hby hml hown hnm hret hZ X0 e0
  have N0 := Fr.nil n0
  have B := hbx hby
  by_cases cc1 : (own_tc1 i3 i4 i5 i6) = 0
  · obtain ⟨T1, L1, X1, e1, N1, st1⟩ := tn78 l Z hw a1 (0 : Int32) .unset a2 [(.int i3), (.int i4), (.int i5), (.int i6), (.int i7), (.int i8)] ck9 (6 : Int32) i10 r12 i3 i4 i5 i6 h0 n0 Z0 (Or.inl rfl) E_a1 F_value_a1 V_a2 S_COMPACT_STRINGS Od0 c11 F_coder_a1 (by decide) R_r12 S_SIOOBE_FORMATTER (by decide) S__assertionsDisabled (by decide) (by decide) rfl S_HI_BYTE_SHIFT (by decide) (by decide) rfl S_LO_BYTE_SHIFT (by decide) (by decide) (by decide) rfl (by decide) (by decide) rfl cc1 hx hby hml hown hZ X0 e0 N0 (by decide) (by decide)
    by_cases cc2 : (own_tc1 i5 i6 i7 i8) = 0
    · obtain ⟨T2, L2, X2, e2, N2, st2⟩ := tn78 l Z hw a1 (1 : Int32) (vi (own_cp i3 i4 i5 i6)) a2 [(.int i3), (.int i4), (.int i5), (.int i6), (.int i7), (.int i8)] ck9 (6 : Int32) i10 r12 i5 i6 i7 i8 h0 n0 Z0 (Or.inr ⟨_, rfl⟩) E_a1 F_value_a1 V_a2 S_COMPACT_STRINGS Od0 c11 F_coder_a1 (by decide) R_r12 S_SIOOBE_FORMATTER (by decide) S__assertionsDisabled (by decide) (by decide) rfl S_HI_BYTE_SHIFT (by decide) (by decide) rfl S_LO_BYTE_SHIFT (by decide) (by decide) (by decide) rfl (by decide) (by decide) rfl cc2 hx hby hml hown hZ X1 e1 N1 (by decide) (by decide)
      by_cases cc3 : (own_tc i7 i8) = 0
      · obtain ⟨T3, L3, X3, e3, N3, st3⟩ := tn45 l Z hw a1 (2 : Int32) (vi (own_cp i5 i6 i7 i8)) a2 [(.int i3), (.int i4), (.int i5), (.int i6), (.int i7), (.int i8)] ck9 (6 : Int32) i10 r12 i7 i8 h0 n0 Z0 (Or.inr ⟨_, rfl⟩) E_a1 F_value_a1 V_a2 S_COMPACT_STRINGS Od0 c11 F_coder_a1 (by decide) R_r12 S_SIOOBE_FORMATTER (by decide) S__assertionsDisabled (by decide) (by decide) rfl S_HI_BYTE_SHIFT (by decide) (by decide) rfl S_LO_BYTE_SHIFT (by decide) cc3 hx hby hml hown hZ X2 e2 N2 (by decide) (by decide)
        obtain ⟨T4, L4, X4, e4, N4, st4⟩ := tn46 l Z hw a1 (3 : Int32) (vi (own_gc i7 i8)) a2 [(.int i3), (.int i4), (.int i5), (.int i6), (.int i7), (.int i8)] ck9 (6 : Int32) i10 h0 n0 Z0 (Or.inr ⟨_, rfl⟩) E_a1 F_value_a1 V_a2 S_COMPACT_STRINGS Od0 c11 F_coder_a1 (by decide) hx hby hml hown hZ X3 e3 N3 (by decide) (by decide)
        refine ⟨T4, _, _, _, (some (.int (-1))), X4, nofun, by decide, by decide, ?_, fun fs hr => ?_⟩
        · rw [e4]
          unfold Q103
          rw [show (own_un2 i3 i4 i5 i6 i7 i8) = (-1 : Int32) from by unfold own_un2; rw [if_pos cc1, if_pos cc2, if_pos cc3]]
          exact ⟨rfl, N4, rfl⟩
        · refine sC X0 hx (B d7_0) ?_
          refine XS.istoreN X0.here hx rfl (B d7_1) rfl (l' := #[vr a1, vi 0, un]) rfl ?_
          refine st1 _ ?_
          refine st2 _ ?_
          refine st3 _ ?_
          refine st4 _ ?_
          refine sC X4 hx (B d7_40) ?_
          exact retI X4 hx hret (B d7_41) hr
      · obtain ⟨T3, L3, X3, e3, N3, st3⟩ := tn47 l Z hw a1 (2 : Int32) (vi (own_cp i5 i6 i7 i8)) a2 [(.int i3), (.int i4), (.int i5), (.int i6), (.int i7), (.int i8)] ck9 (6 : Int32) i10 r12 i7 i8 h0 n0 Z0 (Or.inr ⟨_, rfl⟩) E_a1 F_value_a1 V_a2 S_COMPACT_STRINGS Od0 c11 F_coder_a1 (by decide) R_r12 S_SIOOBE_FORMATTER (by decide) S__assertionsDisabled (by decide) (by decide) rfl S_HI_BYTE_SHIFT (by decide) (by decide) rfl S_LO_BYTE_SHIFT (by decide) cc3 hx hby hml hown hZ X2 e2 N2 (by decide) (by decide)
        refine ⟨T3, _, _, _, (some (.int 2)), X3, nofun, by decide, by decide, ?_, fun fs hr => ?_⟩
        · rw [e3]
          unfold Q103
          rw [show (own_un2 i3 i4 i5 i6 i7 i8) = (2 : Int32) from by unfold own_un2; rw [if_pos cc1, if_pos cc2, if_neg cc3]]
          exact ⟨rfl, N3, rfl⟩
        · refine sC X0 hx (B d7_0) ?_
          refine XS.istoreN X0.here hx rfl (B d7_1) rfl (l' := #[vr a1, vi 0, un]) rfl ?_
          refine st1 _ ?_
          refine st2 _ ?_
          refine st3 _ ?_
          refine sI X3 hx (B d7_28) rfl ?_
          exact retI X3 hx hret (B d7_29) hr
    · by_cases cc3 : (own_tc1 i5 i6 i7 i8) = 1
      · obtain ⟨T2, L2, X2, e2, N2, st2⟩ := tn79 l Z hw a1 (1 : Int32) (vi (own_cp i3 i4 i5 i6)) a2 [(.int i3), (.int i4), (.int i5), (.int i6), (.int i7), (.int i8)] ck9 (6 : Int32) i10 r12 i5 i6 i7 i8 h0 n0 Z0 (Or.inr ⟨_, rfl⟩) E_a1 F_value_a1 V_a2 S_COMPACT_STRINGS Od0 c11 F_coder_a1 (by decide) R_r12 S_SIOOBE_FORMATTER (by decide) S__assertionsDisabled (by decide) (by decide) rfl S_HI_BYTE_SHIFT (by decide) (by decide) rfl S_LO_BYTE_SHIFT (by decide) (by decide) (by decide) rfl (by decide) (by decide) rfl cc2 cc3 hx hby hml hown hZ X1 e1 N1 (by decide) (by decide)
        obtain ⟨T3, L3, X3, e3, N3, st3⟩ := tn46 l Z hw a1 (3 : Int32) (vi (own_cp i5 i6 i7 i8)) a2 [(.int i3), (.int i4), (.int i5), (.int i6), (.int i7), (.int i8)] ck9 (6 : Int32) i10 h0 n0 Z0 (Or.inr ⟨_, rfl⟩) E_a1 F_value_a1 V_a2 S_COMPACT_STRINGS Od0 c11 F_coder_a1 (by decide) hx hby hml hown hZ X2 e2 N2 (by decide) (by decide)
        refine ⟨T3, _, _, _, (some (.int (-1))), X3, nofun, by decide, by decide, ?_, fun fs hr => ?_⟩
        · rw [e3]
          unfold Q103
          rw [show (own_un2 i3 i4 i5 i6 i7 i8) = (-1 : Int32) from by unfold own_un2; rw [if_pos cc1, if_neg cc2, if_pos cc3]]
          exact ⟨rfl, N3, rfl⟩
        · refine sC X0 hx (B d7_0) ?_
          refine XS.istoreN X0.here hx rfl (B d7_1) rfl (l' := #[vr a1, vi 0, un]) rfl ?_
          refine st1 _ ?_
          refine st2 _ ?_
          refine st3 _ ?_
          refine sC X3 hx (B d7_40) ?_
          exact retI X3 hx hret (B d7_41) hr
      · obtain ⟨T2, L2, X2, e2, N2, st2⟩ := tn80 l Z hw a1 (1 : Int32) (vi (own_cp i3 i4 i5 i6)) a2 [(.int i3), (.int i4), (.int i5), (.int i6), (.int i7), (.int i8)] ck9 (6 : Int32) i10 r12 i5 i6 i7 i8 h0 n0 Z0 (Or.inr ⟨_, rfl⟩) E_a1 F_value_a1 V_a2 S_COMPACT_STRINGS Od0 c11 F_coder_a1 (by decide) R_r12 S_SIOOBE_FORMATTER (by decide) S__assertionsDisabled (by decide) (by decide) rfl S_HI_BYTE_SHIFT (by decide) (by decide) rfl S_LO_BYTE_SHIFT (by decide) (by decide) (by decide) rfl (by decide) (by decide) rfl cc2 cc3 hx hby hml hown hZ X1 e1 N1 (by decide) (by decide)
        refine ⟨T2, _, _, _, (some (.int 1)), X2, nofun, by decide, by decide, ?_, fun fs hr => ?_⟩
        · rw [e2]
          unfold Q103
          rw [show (own_un2 i3 i4 i5 i6 i7 i8) = (1 : Int32) from by unfold own_un2; rw [if_pos cc1, if_neg cc2, if_neg cc3]]
          exact ⟨rfl, N2, rfl⟩
        · refine sC X0 hx (B d7_0) ?_
          refine XS.istoreN X0.here hx rfl (B d7_1) rfl (l' := #[vr a1, vi 0, un]) rfl ?_
          refine st1 _ ?_
          refine st2 _ ?_
          refine sI X2 hx (B d7_28) rfl ?_
          exact retI X2 hx hret (B d7_29) hr
  · by_cases cc2 : (own_tc1 i3 i4 i5 i6) = 1
    · obtain ⟨T1, L1, X1, e1, N1, st1⟩ := tn79 l Z hw a1 (0 : Int32) .unset a2 [(.int i3), (.int i4), (.int i5), (.int i6), (.int i7), (.int i8)] ck9 (6 : Int32) i10 r12 i3 i4 i5 i6 h0 n0 Z0 (Or.inl rfl) E_a1 F_value_a1 V_a2 S_COMPACT_STRINGS Od0 c11 F_coder_a1 (by decide) R_r12 S_SIOOBE_FORMATTER (by decide) S__assertionsDisabled (by decide) (by decide) rfl S_HI_BYTE_SHIFT (by decide) (by decide) rfl S_LO_BYTE_SHIFT (by decide) (by decide) (by decide) rfl (by decide) (by decide) rfl cc1 cc2 hx hby hml hown hZ X0 e0 N0 (by decide) (by decide)
      by_cases cc3 : (own_tc i7 i8) = 0
      · obtain ⟨T2, L2, X2, e2, N2, st2⟩ := tn45 l Z hw a1 (2 : Int32) (vi (own_cp i3 i4 i5 i6)) a2 [(.int i3), (.int i4), (.int i5), (.int i6), (.int i7), (.int i8)] ck9 (6 : Int32) i10 r12 i7 i8 h0 n0 Z0 (Or.inr ⟨_, rfl⟩) E_a1 F_value_a1 V_a2 S_COMPACT_STRINGS Od0 c11 F_coder_a1 (by decide) R_r12 S_SIOOBE_FORMATTER (by decide) S__assertionsDisabled (by decide) (by decide) rfl S_HI_BYTE_SHIFT (by decide) (by decide) rfl S_LO_BYTE_SHIFT (by decide) cc3 hx hby hml hown hZ X1 e1 N1 (by decide) (by decide)
        obtain ⟨T3, L3, X3, e3, N3, st3⟩ := tn46 l Z hw a1 (3 : Int32) (vi (own_gc i7 i8)) a2 [(.int i3), (.int i4), (.int i5), (.int i6), (.int i7), (.int i8)] ck9 (6 : Int32) i10 h0 n0 Z0 (Or.inr ⟨_, rfl⟩) E_a1 F_value_a1 V_a2 S_COMPACT_STRINGS Od0 c11 F_coder_a1 (by decide) hx hby hml hown hZ X2 e2 N2 (by decide) (by decide)
        refine ⟨T3, _, _, _, (some (.int (-1))), X3, nofun, by decide, by decide, ?_, fun fs hr => ?_⟩
        · rw [e3]
          unfold Q103
          rw [show (own_un2 i3 i4 i5 i6 i7 i8) = (-1 : Int32) from by unfold own_un2; rw [if_neg cc1, if_pos cc2, if_pos cc3]]
          exact ⟨rfl, N3, rfl⟩
        · refine sC X0 hx (B d7_0) ?_
          refine XS.istoreN X0.here hx rfl (B d7_1) rfl (l' := #[vr a1, vi 0, un]) rfl ?_
          refine st1 _ ?_
          refine st2 _ ?_
          refine st3 _ ?_
          refine sC X3 hx (B d7_40) ?_
          exact retI X3 hx hret (B d7_41) hr
      · obtain ⟨T2, L2, X2, e2, N2, st2⟩ := tn47 l Z hw a1 (2 : Int32) (vi (own_cp i3 i4 i5 i6)) a2 [(.int i3), (.int i4), (.int i5), (.int i6), (.int i7), (.int i8)] ck9 (6 : Int32) i10 r12 i7 i8 h0 n0 Z0 (Or.inr ⟨_, rfl⟩) E_a1 F_value_a1 V_a2 S_COMPACT_STRINGS Od0 c11 F_coder_a1 (by decide) R_r12 S_SIOOBE_FORMATTER (by decide) S__assertionsDisabled (by decide) (by decide) rfl S_HI_BYTE_SHIFT (by decide) (by decide) rfl S_LO_BYTE_SHIFT (by decide) cc3 hx hby hml hown hZ X1 e1 N1 (by decide) (by decide)
        refine ⟨T2, _, _, _, (some (.int 2)), X2, nofun, by decide, by decide, ?_, fun fs hr => ?_⟩
        · rw [e2]
          unfold Q103
          rw [show (own_un2 i3 i4 i5 i6 i7 i8) = (2 : Int32) from by unfold own_un2; rw [if_neg cc1, if_pos cc2, if_neg cc3]]
          exact ⟨rfl, N2, rfl⟩
        · refine sC X0 hx (B d7_0) ?_
          refine XS.istoreN X0.here hx rfl (B d7_1) rfl (l' := #[vr a1, vi 0, un]) rfl ?_
          refine st1 _ ?_
          refine st2 _ ?_
          refine sI X2 hx (B d7_28) rfl ?_
          exact retI X2 hx hret (B d7_29) hr
    · obtain ⟨T1, L1, X1, e1, N1, st1⟩ := tn80 l Z hw a1 (0 : Int32) .unset a2 [(.int i3), (.int i4), (.int i5), (.int i6), (.int i7), (.int i8)] ck9 (6 : Int32) i10 r12 i3 i4 i5 i6 h0 n0 Z0 (Or.inl rfl) E_a1 F_value_a1 V_a2 S_COMPACT_STRINGS Od0 c11 F_coder_a1 (by decide) R_r12 S_SIOOBE_FORMATTER (by decide) S__assertionsDisabled (by decide) (by decide) rfl S_HI_BYTE_SHIFT (by decide) (by decide) rfl S_LO_BYTE_SHIFT (by decide) (by decide) (by decide) rfl (by decide) (by decide) rfl cc1 cc2 hx hby hml hown hZ X0 e0 N0 (by decide) (by decide)
      refine ⟨T1, _, _, _, (some (.int 0)), X1, nofun, by decide, by decide, ?_, fun fs hr => ?_⟩
      · rw [e1]
        unfold Q103
        rw [show (own_un2 i3 i4 i5 i6 i7 i8) = (0 : Int32) from by unfold own_un2; rw [if_neg cc1, if_neg cc2]]
        exact ⟨rfl, N1, rfl⟩
      · refine sC X0 hx (B d7_0) ?_
        refine XS.istoreN X0.here hx rfl (B d7_1) rfl (l' := #[vr a1, vi 0, un]) rfl ?_
        refine st1 _ ?_
        refine sI X1 hx (B d7_28) rfl ?_
        exact retI X1 hx hret (B d7_29) hr
theorem own_finU_3 (c0 c1 c2 : Int32) (l0 : ¬ c0 < 0) (g0 : ¬ 65535 < c0) (l1 : ¬ c1 < 0) (g1 : ¬ 65535 < c1) (l2 : ¬ c2 < 0) (g2 : ¬ 65535 < c2) : own_un2 (nar .byte ((c0 >>> ((0 : Int32) &&& 31)).toInt8.toInt32)) (nar .byte ((c0 >>> ((8 : Int32) &&& 31)).toInt8.toInt32)) (nar .byte ((c1 >>> ((0 : Int32) &&& 31)).toInt8.toInt32)) (nar .byte ((c1 >>> ((8 : Int32) &&& 31)).toInt8.toInt32)) (nar .byte ((c2 >>> ((0 : Int32) &&& 31)).toInt8.toInt32)) (nar .byte ((c2 >>> ((8 : Int32) &&& 31)).toInt8.toInt32)) = own_ex2 c0 c1 c2 := by
  unfold own_un2 own_ex2 own_ln1 own_ln3 own_ln2
  simp only [own_tc1_k c0 c1 l0 g0 l1 g1, own_tc1_k c1 c2 l1 g1 l2 g2, own_tc_k c2 l2 g2, own_hi_k, own_lw_k]
  rcases own_kk3 c0 with k0 | k0 | k0 <;> rcases own_kk3 c1 with k1 | k1 | k1 <;> rcases own_kk3 c2 with k2 | k2 | k2 <;> simp only [k0, k1, k2] <;> decide
abbrev Rm104 : Room := rmk 1 1 3 18
def Q104 (Z : State) (a1 : Addr) (i2 i3 i4 : Int32) (ck5 : ClassId) (h0 : Heap) (n0 : Nat) (v : Option Value) (h : Heap) (L : List Loc) : Prop := ∃ m0 : Addr, ∃ kk1 : ClassId, v = some (.ref m0) ∧ Fr n0 L ∧ Keep h0 h [] ∧ h0.size ≤ m0 ∧ Exa Z h m0 "[B" ∧ Arv Z h m0 kk1 .byte 3 [(.int (nar .byte (i2.toInt8.toInt32))), (.int (nar .byte (i3.toInt8.toInt32))), (.int (nar .byte (i4.toInt8.toInt32)))] (.int 0)
theorem rm104 (l : Launch) (Z : State) {a0 : Array Value} (hw : OW a0 Z) (a1 : Addr) (i2 i3 i4 : Int32) (ck5 : ClassId) (h0 : Heap) (n0 : Nat) (Z0 : n0 ≤ h0.size) (V_a1 : Arv Z h0 a1 ck5 .char 3 [(.int i2), (.int i3), (.int i4)] (.int 0)) (S__assertionsDisabled : Sta Z Z.heap "java/lang/StringUTF16" "$assertionsDisabled" "Z" (.int 1)) (Od0 : Old Z n0 h0) (S_HI_BYTE_SHIFT : Sta Z Z.heap "java/lang/StringUTF16" "HI_BYTE_SHIFT" "I" (.int 0)) (S_LO_BYTE_SHIFT : Sta Z Z.heap "java/lang/StringUTF16" "LO_BYTE_SHIFT" "I" (.int 8)) (c6 : ¬ (65535 < i2)) (c7 : ¬ (65535 < i3)) (c8 : ¬ (65535 < i4)) (c9 : ¬ ((own_cc2 i2 i3 i4) = 0)) :
    OwnMet l Z y_15 jdk_52_method_16_code 6 (some (.array .byte)) [] Rm104 #[(.ref a1), (.int 0), (.int 3)] h0 (Q104 Z a1 i2 i3 i4 ck5 h0 n0) := by
  refine own_body (plainFor_of_name pn_3) (ef_7ff9cc a1) ?_
  intro p e s m below meth c s₁ hx hby hml hown hnm hret hZ X0 e0
  have N0 := Fr.nil n0
  have B := hbx hby
  obtain ⟨T1, h1, k1, X1, e1, E1, A1, B1, st1⟩ := newPE (aty := .byte) X0 hx hZ (w_27 hw) e0 (g := (mkF m 1 #[vr a1, vi 0, vi 3, un, un, un] [(.int 3)])) rfl (B d10_1) rfl (by decide) (cap := 3) (by decide) (by decide) (by decide) (by decide) (ad := "[B") (by decide)
  obtain ⟨b1, g1⟩ : ∃ z, z = h0.size := ⟨_, rfl⟩
  rw [← g1] at A1 B1 st1
  have s0 := E1.1
  have Vn1 : Arv Z h1 b1 k1 .byte 3 [(.int 0), (.int 0), (.int 0)] (.int 0) := (Arv.new A1 (by decide)).pad (pad_rep [] (.int 0) 3)
  have Va2 := (V_a1.ext E1)
  have g_b1 : n0 ≤ b1 := Nat.le_trans Z0 (Nat.le_of_eq g1.symm)
  have ne_a1_b1 := Nat.ne_of_lt (Nat.lt_of_lt_of_le V_a1.lt (Nat.le_of_eq g1.symm))
  have z1 := Nat.le_trans Z0 s0
  by_cases cc1 : 255 < i2
  · exact absurd (by unfold own_cc2; rw [if_pos cc1]) c9
  · by_cases cc2 : 255 < i3
    · exact absurd (by unfold own_cc2; rw [if_neg cc1, if_pos cc2]) c9
    · by_cases cc3 : 255 < i4
      · exact absurd (by unfold own_cc2; rw [if_neg cc1, if_neg cc2, if_pos cc3]) c9
      · obtain ⟨_, T3, L3, X3, hQ3, st3⟩ := own_callS X1 hx hZ hown (y := y_9) (w_57 hw) (w_58 hw) (w_55 hw) (w_59 hw) (rm96 l Z hw a1 b1 i2 i3 i4 ck5 k1 h1 n0 z1 Va2 cc1 Vn1 g_b1 ne_a1_b1 cc2 cc3 B1) e1 (Ls := #[vr a1, vi 0, vi 3, vr b1, un, un]) hml.symm (argsL := [(.ref a1), (.int 0), (.ref b1), (.int 0), (.int 3)]) (rest := []) (lenOf pd_8 rfl) (B d10_9) (W := 0)
        obtain ⟨rfl, Nq3, K3, o3_0, o3_1⟩ := hQ3
        have N3 := Fr.app N0 Nq3
        have s1 := K3.1
        have sz_b1 : h0.size ≤ b1 := (Nat.le_of_eq g1.symm)
        have Kp0 := (Keep.refl h0 []).ext E1
        have Kp1 := Kp0.trans K3 (allS (Or.inr sz_b1) all0)
        refine ⟨T3, _, _, _, (some (.ref b1)), X3, nofun, by decide, by decide, ?_, fun fs hr => ?_⟩
        · exact ⟨b1, k1, rfl, N3, Kp1, sz_b1, o3_0, o3_1⟩
        · refine sI X0 hx (B d10_0) rfl ?_
          refine st1 _ ?_
          refine XS.astoreN X1.here hx rfl (B d10_3) rfl rfl (l' := #[vr a1, vi 0, vi 3, vr b1, un, un]) rfl ?_
          refine sA X1 hx (B d10_4) rfl rfl ?_
          refine sI X1 hx (B d10_5) rfl ?_
          refine sA X1 hx (B d10_6) rfl rfl ?_
          refine sC X1 hx (B d10_7) ?_
          refine sI X1 hx (B d10_8) rfl ?_
          refine st3 _ ?_
          refine XS.istore X3.here hx rfl (B d10_12) rfl (l' := #[vr a1, vi 0, vi 3, vr b1, vi 3, un]) rfl ?_
          refine sJ X3 hx (B d10_14) rfl ?_
          refine sI X3 hx (B d10_16) rfl ?_
          refine XS.icmpYes X3.here hx rfl (pc0 := 17) (pc' := 57) rfl (B d10_17) rfl (teq (by decide : (3 : Int32) = (3 : Int32))).1 (by decide) (by decide) ?_
          refine sA X3 hx (B d10_57) rfl rfl ?_
          exact retOut X3 hx hret rfl (Or.inr (Or.inr (Or.inr (Or.inr ⟨rfl, rfl, rfl⟩)))) (B d10_58) hr
abbrev Rm105 : Room := rmk 2 1 3 35
def Q105 (Z : State) (a1 a2 : Addr) (i3 i5 i6 i7 : Int32) (ck8 : ClassId) (h0 : Heap) (n0 : Nat) (v : Option Value) (h : Heap) (L : List Loc) : Prop := ∃ b3_0 : Addr, ∃ k3_1 : ClassId, v = none ∧ Fr n0 L ∧ Keep h0 h [a1] ∧ Exa Z h a1 jS ∧ Fld Z h a1 jS "coder" "B" (.int 0) ∧ Fld Z h a1 jS "value" "[B" (.ref b3_0) ∧ h0.size ≤ b3_0 ∧ Exa Z h b3_0 "[B" ∧ Arv Z h b3_0 k3_1 .byte 3 [(.int (nar .byte (i5.toInt8.toInt32))), (.int (nar .byte (i6.toInt8.toInt32))), (.int (nar .byte (i7.toInt8.toInt32)))] (.int 0)
theorem rm105 (l : Launch) (Z : State) {a0 : Array Value} (hw : OW a0 Z) (a1 a2 : Addr) (i3 i5 i6 i7 : Int32) (ck8 : ClassId) (h0 : Heap) (n0 : Nat) (Z0 : n0 ≤ h0.size) (S_COMPACT_STRINGS : Sta Z Z.heap "java/lang/String" "COMPACT_STRINGS" "Z" (.int i3)) (Od0 : Old Z n0 h0) (c4 : ¬ (i3 = 0)) (V_a2 : Arv Z h0 a2 ck8 .char 3 [(.int i5), (.int i6), (.int i7)] (.int 0)) (S__assertionsDisabled : Sta Z Z.heap "java/lang/StringUTF16" "$assertionsDisabled" "Z" (.int 1)) (S_HI_BYTE_SHIFT : Sta Z Z.heap "java/lang/StringUTF16" "HI_BYTE_SHIFT" "I" (.int 0)) (S_LO_BYTE_SHIFT : Sta Z Z.heap "java/lang/StringUTF16" "LO_BYTE_SHIFT" "I" (.int 8)) (c9 : ¬ (65535 < i5)) (c10 : ¬ (65535 < i6)) (c11 : ¬ (65535 < i7)) (c12 : ¬ ((own_cc2 i5 i6 i7) = 0)) (F_coder_a1 : Fld Z h0 a1 jS "coder" "B" (.int 0)) (E_a1 : Exa Z h0 a1 jS) (g_a1 : n0 ≤ a1) (F_value_a1 : Fld Z h0 a1 jS "value" "[B" .null) :
    OwnMet l Z y_2 jdk_42_method_149_code 6 none [] Rm105 #[(.ref a1), (.ref a2), (.int 0), (.int 3), .null] h0 (Q105 Z a1 a2 i3 i5 i6 i7 ck8 h0 n0) := by
  refine own_body (plainFor_of_name pn_1) (ef_eba9e4 a1 a2) ?_
  intro p e s m below meth c s₁ hx hby hml hown hnm hret hZ X0 e0
  have N0 := Fr.nil n0
  have B := hbx hby
  obtain ⟨T1, X1, e1, st1⟩ := initO X0 hx hZ hown (w_23 hw) (w_24 hw) (w_25 hw) e0 (g := (mkF m 1 #[vr a1, vr a2, vi 0, vi 3, .val .null, un] [(.ref a1)])) rfl hml.symm rfl (B d4_1) (by decide) (W := 0) (by show 2 * 0 + _ ≤ _; exact Nat.le_of_eq rfl) (by decide)
  obtain ⟨T2, X2, e2, st2⟩ := getS2 X1 hx hZ hown (host := "") (Or.inl (w_51 hw)) Via.refl e1 (S_COMPACT_STRINGS.ext Od0.2) (g := (mkF m 27 #[vr a1, vr a2, vi 0, vi 3, .val .null, un] [])) rfl (B d4_27)
  obtain ⟨_, T3, L3, X3, hQ3, st3⟩ := own_callS X2 hx hZ hown (y := y_15) (w_53 hw) (w_54 hw) (w_55 hw) (w_56 hw) (rm104 l Z hw a2 i5 i6 i7 ck8 h0 n0 Z0 V_a2 S__assertionsDisabled Od0 S_HI_BYTE_SHIFT S_LO_BYTE_SHIFT c9 c10 c11 c12) e2 (Ls := #[vr a1, vr a2, vi 0, vi 3, .val .null, un]) hml.symm (argsL := [(.ref a2), (.int 0), (.int 3)]) (rest := []) (lenOf pd_12 rfl) (B d4_36) (W := 0)
  obtain ⟨b3_0, k3_1, rfl, Nq3, K3, o3_0, o3_1, o3_2⟩ := hQ3
  have N3 := Fr.app N0 Nq3
  have s0 := K3.1
  have z1 := Nat.le_trans Z0 s0
  obtain ⟨_, T4, L4, X4, hQ4, st4⟩ := own_callS X3 hx hZ hown (y := y_16) (w_79 hw) (w_80 hw) (w_55 hw) (w_81 hw) (rm19 l Z hw b3_0 (3 : Int32) [(.int (nar .byte (i5.toInt8.toInt32))), (.int (nar .byte (i6.toInt8.toInt32))), (.int (nar .byte (i7.toInt8.toInt32)))] k3_1 (3 : Int32) T3.heap n0 z1 o3_2) rfl (Ls := #[vr a1, vr a2, vi 0, vi 3, .val .null, vr b3_0]) hml.symm (argsL := [(.ref b3_0), (.int 3)]) (rest := [(.ref a1)]) (lenOf pd_14 rfl) (B d4_45) (W := 1)
  obtain ⟨rfl, Nq4, e4⟩ := hQ4
  have N4 := Fr.app N3 Nq4
  have Fl5 := (F_coder_a1.keep K3 nin0)
  have Ex6 := (E_a1.keep K3)
  obtain ⟨T7, h7, X7, e7, W7, st7⟩ := putFN X4 hx hZ hown (w_33 hw) Via.refl e4 Fl5 Ex6 (Or.inr ⟨(w_29 hw), rfl, hnm⟩) (w_13 hw) (ty := .byte) (v' := (.int (nar .byte (0 : Int32)))) (by decide) rfl (fits_nar_byte _) (g := (mkF m 48 #[vr a1, vr a2, vi 0, vi 3, .val .null, vr b3_0] [(.int 0), (.ref a1)])) rfl rfl (B d4_48)
  have s1 := (Keep.of_wr W7).1
  have N7 := Fr.snoc X7 N4 g_a1
  have Fw7 : Fld Z h7 a1 jS "coder" "B" (.int 0) := Fl5.same W7
  have Ex8 := (Ex6.wr W7)
  have Fl9 := ((F_value_a1.keep K3 nin0).other W7 (Or.inr (slot_ne (Or.inr (w_28 hw)) (Or.inr (w_29 hw)) (by decide) (t := (.array .byte)) (t' := .byte) (by decide) (by decide))))
  obtain ⟨T10, h10, X10, e10, W10, st10⟩ := putF X7 hx hZ hown (host := "") (Or.inl (w_32 hw)) Via.refl e7 Fl9 Ex8 (Or.inr ⟨(w_28 hw), rfl, hnm⟩) (w_13 hw) (ty := (.array .byte)) (by decide) rfl rfl (g := (mkF m 54 #[vr a1, vr a2, vi 0, vi 3, .val .null, vr b3_0] [(.ref b3_0), (.ref a1)])) rfl rfl (B d4_54)
  have s2 := (Keep.of_wr W10).1
  have N10 := Fr.snoc X10 N7 g_a1
  have Fw10 : Fld Z h10 a1 jS "value" "[B" (.ref b3_0) := Fl9.same W10
  have Ex11 := (Ex8.wr W10)
  have Fl12 := (Fw7.other W10 (Or.inr (slot_ne (Or.inr (w_29 hw)) (Or.inr (w_28 hw)) (by decide) (t := .byte) (t' := (.array .byte)) (by decide) (by decide))))
  have sz_b3_0 : h0.size ≤ b3_0 := o3_0
  have Ex13 := ((o3_1.wr W7).wr W10)
  have ne_a1_b3_0 := Nat.ne_of_lt (Nat.lt_of_lt_of_le F_value_a1.lt o3_0)
  have Va14 := ((o3_2.other W7 (Ne.symm ne_a1_b3_0)).other W10 (Ne.symm ne_a1_b3_0))
  have Kp0 := (Keep.refl h0 [a1]).trans K3 all0
  have Kp1 := Kp0.wr W7 own_m0
  have Kp2 := Kp1.wr W10 own_m0
  refine ⟨T10, _, _, _, none, X10, (fun _ => rfl), by decide, by decide, ?_, fun fs hr => ?_⟩
  · rw [e10]
    exact ⟨b3_0, k3_1, rfl, N10, Kp2, Ex11, Fl12, Fw10, sz_b3_0, Ex13, Va14⟩
  · refine sA X0 hx (B d4_0) rfl rfl ?_
    refine st1 _ ?_
    refine sI X1 hx (B d4_4) rfl ?_
    refine XS.ifYes X1.here hx rfl (pc0 := 5) (pc' := 27) rfl (B d4_5) rfl ((if0 _ _).trans (feq (by decide : ¬ ((3 : Int32) = (0 : Int32)))).2) (by decide) (by decide) ?_
    refine st2 _ ?_
    refine XS.ifNo X2.here hx rfl (B d4_30) rfl ((if0 _ _).trans (feq c4).1) ?_
    refine sA X2 hx (B d4_33) rfl rfl ?_
    refine sI X2 hx (B d4_34) rfl ?_
    refine sI X2 hx (B d4_35) rfl ?_
    refine st3 _ ?_
    refine XS.astore X3.here hx rfl (B d4_39) rfl rfl (l' := #[vr a1, vr a2, vi 0, vi 3, .val .null, vr b3_0]) rfl ?_
    refine sA X3 hx (B d4_41) rfl rfl ?_
    refine sB X3 hx (B d4_42) rfl rfl ?_
    refine sI X3 hx (B d4_44) rfl ?_
    refine st4 _ ?_
    refine st7 _ ?_
    refine sA X7 hx (B d4_51) rfl rfl ?_
    refine sB X7 hx (B d4_52) rfl rfl ?_
    refine st10 _ ?_
    exact X10.returnOut hx hret (B d4_57) hr
abbrev Rm106 : Room := rmk 3 1 3 52
def Q106 (Z : State) (a1 a2 : Addr) (i3 i4 i5 : Int32) (ck6 : ClassId) (i7 : Int32) (h0 : Heap) (n0 : Nat) (v : Option Value) (h : Heap) (L : List Loc) : Prop := ∃ b2_0 : Addr, ∃ k2_1 : ClassId, v = none ∧ Fr n0 L ∧ Keep h0 h [a1] ∧ Exa Z h a1 jS ∧ Fld Z h a1 jS "coder" "B" (.int 0) ∧ Fld Z h a1 jS "value" "[B" (.ref b2_0) ∧ h0.size ≤ b2_0 ∧ Exa Z h b2_0 "[B" ∧ Arv Z h b2_0 k2_1 .byte 3 [(.int (nar .byte (i3.toInt8.toInt32))), (.int (nar .byte (i4.toInt8.toInt32))), (.int (nar .byte (i5.toInt8.toInt32)))] (.int 0)
theorem rm106 (l : Launch) (Z : State) {a0 : Array Value} (hw : OW a0 Z) (a1 a2 : Addr) (i3 i4 i5 : Int32) (ck6 : ClassId) (i7 : Int32) (h0 : Heap) (n0 : Nat) (Z0 : n0 ≤ h0.size) (V_a2 : Arv Z h0 a2 ck6 .char 3 [(.int i3), (.int i4), (.int i5)] (.int 0)) (S_COMPACT_STRINGS : Sta Z Z.heap "java/lang/String" "COMPACT_STRINGS" "Z" (.int i7)) (Od0 : Old Z n0 h0) (c8 : ¬ (i7 = 0)) (S__assertionsDisabled : Sta Z Z.heap "java/lang/StringUTF16" "$assertionsDisabled" "Z" (.int 1)) (S_HI_BYTE_SHIFT : Sta Z Z.heap "java/lang/StringUTF16" "HI_BYTE_SHIFT" "I" (.int 0)) (S_LO_BYTE_SHIFT : Sta Z Z.heap "java/lang/StringUTF16" "LO_BYTE_SHIFT" "I" (.int 8)) (c9 : ¬ (65535 < i3)) (c10 : ¬ (65535 < i4)) (c11 : ¬ (65535 < i5)) (c12 : ¬ ((own_cc2 i3 i4 i5) = 0)) (F_coder_a1 : Fld Z h0 a1 jS "coder" "B" (.int 0)) (E_a1 : Exa Z h0 a1 jS) (g_a1 : n0 ≤ a1) (F_value_a1 : Fld Z h0 a1 jS "value" "[B" .null) :
    OwnMet l Z y_3 jdk_42_method_3_code 2 none [] Rm106 #[(.ref a1), (.ref a2)] h0 (Q106 Z a1 a2 i3 i4 i5 ck6 i7 h0 n0) := by
  refine own_body (plainFor_of_name pn_1) (ef_463e93 a1 a2) ?_
  intro p e s m below meth c s₁ hx hby hml hown hnm hret hZ X0 e0
  have N0 := Fr.nil n0
  have B := hbx hby
  obtain ⟨cl1, Ar1, q1, S1, M1, Hs1, G1⟩ := id V_a2
  obtain ⟨_, T2, L2, X2, hQ2, st2⟩ := own_special X0 hx hZ hown (y := y_2) (a := a1) (w_19 hw) (w_20 hw) (w_14 hw) (w_22 hw) (rm105 l Z hw a1 a2 i7 i3 i4 i5 ck6 h0 n0 Z0 S_COMPACT_STRINGS Od0 c8 V_a2 S__assertionsDisabled S_HI_BYTE_SHIFT S_LO_BYTE_SHIFT c9 c10 c11 c12 F_coder_a1 E_a1 g_a1 F_value_a1) e0 (Ls := #[vr a1, vr a2]) hml.symm (argsL := [(.ref a2), (.int 0), (.int 3), .null]) (rest := []) (lenOf pd_1 rfl) (B d3_6) (W := 0)
  obtain ⟨b2_0, k2_1, rfl, Nq2, K2, o2_0, o2_1, o2_2, o2_3, o2_4, o2_5⟩ := hQ2
  have N2 := Fr.app N0 Nq2
  have s0 := K2.1
  have sz_b2_0 : h0.size ≤ b2_0 := o2_3
  have Kp0 := (Keep.refl h0 [a1]).trans K2 (allS own_m0 all0)
  refine ⟨T2, _, _, _, none, X2, (fun _ => rfl), by decide, by decide, ?_, fun fs hr => ?_⟩
  · exact ⟨b2_0, k2_1, rfl, N2, Kp0, o2_0, o2_1, o2_2, sz_b2_0, o2_4, o2_5⟩
  · refine sA X0 hx (B d3_0) rfl rfl ?_
    refine sA X0 hx (B d3_1) rfl rfl ?_
    refine sC X0 hx (B d3_2) ?_
    refine sA X0 hx (B d3_3) rfl rfl ?_
    refine X0.arraylength hx (by rw [e0]; exact Ar1.1) (State.isArrayOf_alike hZ.alike Ar1.2.1) (g := (mkF m 4 #[vr a1, vr a2] [(.ref a2), (.int 0), (.ref a2), (.ref a1)])) rfl rfl (B d3_4) _ ?_
    show Steps p.tables e below (s₁.setTop (mkF m 5 #[vr a1, vr a2] [(.int cl1.slots.size.toInt32), (.int 0), (.ref a2), (.ref a1)])) _
    rw [len_of S1 M1]
    refine XS.aconstNull X0.here hx rfl (B d3_5) ?_
    refine st2 _ ?_
    exact X2.returnOut hx hret (B d3_9) hr
abbrev Rm107 : Room := rmk 4 3 10 66
def Q107 (Z : State) (i1 i2 i3 i4 i5 : Int32) (h0 : Heap) (n0 : Nat) (v : Option Value) (h : Heap) (L : List Loc) : Prop := ∃ b1 : Addr, ∃ b18_0 : Addr, ∃ k18_1 : ClassId, v = some (.ref b1) ∧ Fr n0 L ∧ Keep h0 h [] ∧ h0.size ≤ b1 ∧ Exa Z h b1 jS ∧ Fld Z h b1 jS "coder" "B" (.int 0) ∧ Fld Z h b1 jS "value" "[B" (.ref b18_0) ∧ h0.size ≤ b18_0 ∧ Exa Z h b18_0 "[B" ∧ Arv Z h b18_0 k18_1 .byte 3 [(.int (nar .byte ((nar .char i1).toInt8.toInt32))), (.int (nar .byte ((nar .char i2).toInt8.toInt32))), (.int (nar .byte ((nar .char i3).toInt8.toInt32)))] (.int 0) ∧ b1 ≠ b18_0
theorem rm107 (l : Launch) (Z : State) {a0 : Array Value} (hw : OW a0 Z) (i1 i2 i3 i4 i5 : Int32) (h0 : Heap) (n0 : Nat) (Z0 : n0 ≤ h0.size) (S_COMPACT_STRINGS : Sta Z Z.heap "java/lang/String" "COMPACT_STRINGS" "Z" (.int i5)) (Od0 : Old Z n0 h0) (c6 : ¬ (i5 = 0)) (S__assertionsDisabled : Sta Z Z.heap "java/lang/StringUTF16" "$assertionsDisabled" "Z" (.int 1)) (S_HI_BYTE_SHIFT : Sta Z Z.heap "java/lang/StringUTF16" "HI_BYTE_SHIFT" "I" (.int 0)) (S_LO_BYTE_SHIFT : Sta Z Z.heap "java/lang/StringUTF16" "LO_BYTE_SHIFT" "I" (.int 8)) (c7 : ¬ ((own_cc2 (nar .char i1) (nar .char i2) (nar .char i3)) = 0)) :
    OwnMet l Z y_4 method_4_code 5 (some (.object "java/lang/String")) [] Rm107 #[(.int 3), (.int i1), (.int i2), (.int i3), (.int i4)] h0 (Q107 Z i1 i2 i3 i4 i5 h0 n0) := by
  refine own_body (plainFor_of_name pn_0) (ef_b5ba17 i1 i2 i3 i4) ?_
  intro p e s m below meth c s₁ hx hby hml hown hnm hret hZ X0 e0
  have N0 := Fr.nil n0
  have B := hbx hby
  obtain ⟨T1, h1, X1, e1, E1, A1, D1, -, st1⟩ := newO X0 hx hZ hown (w_12 hw) (w_13 hw) (w_14 hw) e0 (g := (mkF m 64 #[vi 3, vi i1, vi i2, vi i3, vi i4] [])) rfl (B d2_64) (by decide) (by decide)
  obtain ⟨b1, g1⟩ : ∃ z, z = h0.size := ⟨_, rfl⟩
  rw [← g1] at A1 D1 st1
  have s0 := E1.1
  have Fn1_value : Fld Z h1 b1 jS "value" "[B" .null := D1 (Or.inr (w_28 hw)) (ty := (.array .byte)) (by decide)
  have Fn1_coder : Fld Z h1 b1 jS "coder" "B" (.int 0) := D1 (Or.inr (w_29 hw)) (ty := .byte) (by decide)
  obtain ⟨T2, h2, k2, X2, e2, E2, A2, B2, st2⟩ := newPE (aty := .char) X1 hx hZ (w_15 hw) e1 (g := (mkF m 69 #[vi 3, vi i1, vi i2, vi i3, vi i4] [(.int 3), (.ref b1), (.ref b1)])) rfl (B d2_69) rfl (by decide) (cap := 3) (by decide) (by decide) (by decide) (by decide) (ad := "[C") (by decide)
  obtain ⟨b2, g2⟩ : ∃ z, z = h1.size := ⟨_, rfl⟩
  rw [← g2] at A2 B2 st2
  have s1 := E2.1
  have Vn2 : Arv Z h2 b2 k2 .char 3 [(.int 0), (.int 0), (.int 0)] (.int 0) := (Arv.new A2 (by decide)).pad (pad_rep [] (.int 0) 3)
  obtain ⟨cl3, Ar3, q3, S3, M3, Hs3, G3⟩ := id Vn2
  have hin4 := inb_of (j := 0) S3 ⟨by decide, by decide⟩
  obtain ⟨T5, h5, X5, e5, W5, st5⟩ := stC X2 hx hZ e2 Ar3 (j := 0) hin4 (g := (mkF m 74 #[vi 3, vi i1, vi i2, vi i3, vi i4] [(.int i1), (.int 0), (.ref b2), (.ref b2), (.ref b1), (.ref b1)])) rfl rfl (B d2_74)
  have s2 := (Keep.of_wr W5).1
  have z1 := Nat.le_trans Z0 s0
  have g_b2 : n0 ≤ b2 := Nat.le_trans z1 (Nat.le_of_eq g2.symm)
  have N5 := Fr.snoc X5 N0 g_b2
  have Vs5 : Arv Z h5 b2 k2 .char 3 [(.int (nar .char i1)), (.int 0), (.int 0)] (.int 0) := Arv.set Ar3 q3 S3 M3 Hs3 G3 (fits_nar_char _) W5 0 rfl (nl rfl)
  obtain ⟨cl6, Ar6, q6, S6, M6, Hs6, G6⟩ := id Vs5
  have hin7 := inb_of (j := 1) S6 ⟨by decide, by decide⟩
  obtain ⟨T8, h8, X8, e8, W8, st8⟩ := stC X5 hx hZ e5 Ar6 (j := 1) hin7 (g := (mkF m 78 #[vi 3, vi i1, vi i2, vi i3, vi i4] [(.int i2), (.int 1), (.ref b2), (.ref b2), (.ref b1), (.ref b1)])) rfl rfl (B d2_78)
  have s3 := (Keep.of_wr W8).1
  have N8 := Fr.snoc X8 N5 g_b2
  have Vs8 : Arv Z h8 b2 k2 .char 3 [(.int (nar .char i1)), (.int (nar .char i2)), (.int 0)] (.int 0) := Arv.set Ar6 q6 S6 M6 Hs6 G6 (fits_nar_char _) W8 1 rfl (nl rfl)
  obtain ⟨cl9, Ar9, q9, S9, M9, Hs9, G9⟩ := id Vs8
  have hin10 := inb_of (j := 2) S9 ⟨by decide, by decide⟩
  obtain ⟨T11, h11, X11, e11, W11, st11⟩ := stC X8 hx hZ e8 Ar9 (j := 2) hin10 (g := (mkF m 82 #[vi 3, vi i1, vi i2, vi i3, vi i4] [(.int i3), (.int 2), (.ref b2), (.ref b2), (.ref b1), (.ref b1)])) rfl rfl (B d2_82)
  have s4 := (Keep.of_wr W11).1
  have N11 := Fr.snoc X11 N8 g_b2
  have Vs11 : Arv Z h11 b2 k2 .char 3 [(.int (nar .char i1)), (.int (nar .char i2)), (.int (nar .char i3))] (.int 0) := Arv.set Ar9 q9 S9 M9 Hs9 G9 (fits_nar_char _) W11 2 rfl (nl rfl)
  have Od1 := Od0.ext E1
  have Od2 := Od1.ext E2
  have Od3 := Od2.wr W5 g_b2
  have Od4 := Od3.wr W8 g_b2
  have Od5 := Od4.wr W11 g_b2
  have cd12 : ¬ (65535 < (nar .char i1)) := (by rw [Int32.lt_iff_toInt_lt]; have : ((65535 : Int32)).toInt = 65535 := (by decide); have := rng32 (nar .char i1); have := rng32 i1; have := own_c_nar_char i1; omega)
  have cd13 : ¬ (65535 < (nar .char i2)) := (by rw [Int32.lt_iff_toInt_lt]; have : ((65535 : Int32)).toInt = 65535 := (by decide); have := rng32 (nar .char i2); have := rng32 i2; have := own_c_nar_char i2; omega)
  have cd14 : ¬ (65535 < (nar .char i3)) := (by rw [Int32.lt_iff_toInt_lt]; have : ((65535 : Int32)).toInt = 65535 := (by decide); have := rng32 (nar .char i3); have := rng32 i3; have := own_c_nar_char i3; omega)
  have ne_b1_b2 := Nat.ne_of_lt (Nat.lt_of_lt_of_le Fn1_value.lt (Nat.le_of_eq g2.symm))
  have Fl15 := ((((Fn1_coder.ext E2).other W5 (Or.inl ne_b1_b2)).other W8 (Or.inl ne_b1_b2)).other W11 (Or.inl ne_b1_b2))
  have Ex16 := ((((A1.ext E2).wr W5).wr W8).wr W11)
  have g_b1 : n0 ≤ b1 := Nat.le_trans Z0 (Nat.le_of_eq g1.symm)
  have Fl17 := ((((Fn1_value.ext E2).other W5 (Or.inl ne_b1_b2)).other W8 (Or.inl ne_b1_b2)).other W11 (Or.inl ne_b1_b2))
  have z5 := Nat.le_trans Z0 (Nat.le_trans (Nat.le_trans (Nat.le_trans (Nat.le_trans s0 s1) s2) s3) s4)
  obtain ⟨_, T18, L18, X18, hQ18, st18⟩ := own_special X11 hx hZ hown (y := y_3) (a := b1) (w_16 hw) (w_17 hw) (w_14 hw) (w_18 hw) (rm106 l Z hw b1 b2 (nar .char i1) (nar .char i2) (nar .char i3) k2 i5 h11 n0 z5 Vs11 S_COMPACT_STRINGS Od5 c6 S__assertionsDisabled S_HI_BYTE_SHIFT S_LO_BYTE_SHIFT cd12 cd13 cd14 c7 Fl15 Ex16 g_b1 Fl17) e11 (Ls := #[vi 3, vi i1, vi i2, vi i3, vi i4]) hml.symm (argsL := [(.ref b2)]) (rest := [(.ref b1)]) (lenOf pd_2 rfl) (B d2_83) (W := 1)
  obtain ⟨b18_0, k18_1, rfl, Nq18, K18, o18_0, o18_1, o18_2, o18_3, o18_4, o18_5⟩ := hQ18
  have N18 := Fr.app N11 Nq18
  have s5 := K18.1
  have sz_b1 : h0.size ≤ b1 := (Nat.le_of_eq g1.symm)
  have sz_b18_0 : h0.size ≤ b18_0 := Nat.le_trans (Nat.le_trans (Nat.le_trans (Nat.le_trans (Nat.le_trans s0 s1) s2) s3) s4) o18_3
  have ne_b1_b18_0 := Nat.ne_of_lt (Nat.lt_of_lt_of_le Fl17.lt o18_3)
  have Kp0 := (Keep.refl h0 []).ext E1
  have Kp1 := Kp0.ext E2
  have sz_b2 : h0.size ≤ b2 := Nat.le_trans s0 (Nat.le_of_eq g2.symm)
  have Kp2 := Kp1.wr W5 (Or.inr sz_b2)
  have Kp3 := Kp2.wr W8 (Or.inr sz_b2)
  have Kp4 := Kp3.wr W11 (Or.inr sz_b2)
  have Kp5 := Kp4.trans K18 (allS (Or.inr sz_b1) all0)
  refine ⟨T18, _, _, _, (some (.ref b1)), X18, nofun, by decide, by decide, ?_, fun fs hr => ?_⟩
  · exact ⟨b1, b18_0, k18_1, rfl, N18, Kp5, sz_b1, o18_0, o18_1, o18_2, sz_b18_0, o18_4, o18_5, ne_b1_b18_0⟩
  · refine sI X0 hx (B d2_0) rfl ?_
    refine XS.ifYes X0.here hx rfl (pc0 := 1) (pc' := 15) rfl (B d2_1) rfl ((if0 _ _).trans (feq (by decide : ¬ ((3 : Int32) = (0 : Int32)))).2) (by decide) (by decide) ?_
    refine sI X0 hx (B d2_15) rfl ?_
    refine sC X0 hx (B d2_16) ?_
    refine XS.icmpYes X0.here hx rfl (pc0 := 17) (pc' := 35) rfl (B d2_17) rfl (feq (by decide : ¬ ((3 : Int32) = (1 : Int32)))).2 (by decide) (by decide) ?_
    refine sI X0 hx (B d2_35) rfl ?_
    refine sC X0 hx (B d2_36) ?_
    refine XS.icmpYes X0.here hx rfl (pc0 := 37) (pc' := 59) rfl (B d2_37) rfl (feq (by decide : ¬ ((3 : Int32) = (2 : Int32)))).2 (by decide) (by decide) ?_
    refine sI X0 hx (B d2_59) rfl ?_
    refine sC X0 hx (B d2_60) ?_
    refine XS.icmpNo X0.here hx rfl (B d2_61) rfl (teq (by decide : (3 : Int32) = (3 : Int32))).2 ?_
    refine st1 _ ?_
    refine XS.dup X1.here hx rfl (B d2_67) rfl rfl ?_
    refine sC X1 hx (B d2_68) ?_
    refine st2 _ ?_
    refine XS.dup X2.here hx rfl (B d2_71) rfl rfl ?_
    refine sC X2 hx (B d2_72) ?_
    refine sI X2 hx (B d2_73) rfl ?_
    refine st5 _ ?_
    refine XS.dup X5.here hx rfl (B d2_75) rfl rfl ?_
    refine sC X5 hx (B d2_76) ?_
    refine sI X5 hx (B d2_77) rfl ?_
    refine st8 _ ?_
    refine XS.dup X8.here hx rfl (B d2_79) rfl rfl ?_
    refine sC X8 hx (B d2_80) ?_
    refine sI X8 hx (B d2_81) rfl ?_
    refine st11 _ ?_
    refine st18 _ ?_
    exact retOut X18 hx hret rfl (Or.inr (Or.inr (Or.inr (Or.inr ⟨rfl, rfl, rfl⟩)))) (B d2_86) hr
abbrev Rm108 : Room := rmk 8 0 0 150
def Q108 (Z : State) (a1 a2 : Addr) (i3 i4 i5 : Int32) (ck6 : ClassId) (i7 : Int32) (r9 : Value) (h0 : Heap) (n0 : Nat) (v : Option Value) (h : Heap) (L : List Loc) : Prop := v = some (.int (-1)) ∧ Fr n0 L ∧ h = h0
theorem rm108 (l : Launch) (Z : State) {a0 : Array Value} (hw : OW a0 Z) (a1 a2 : Addr) (i3 i4 i5 : Int32) (ck6 : ClassId) (i7 : Int32) (r9 : Value) (h0 : Heap) (n0 : Nat) (Z0 : n0 ≤ h0.size) (E_a1 : Exa Z h0 a1 jS) (F_value_a1 : Fld Z h0 a1 jS "value" "[B" (.ref a2)) (V_a2 : Arv Z h0 a2 ck6 .byte 3 [(.int i3), (.int i4), (.int i5)] (.int 0)) (S_COMPACT_STRINGS : Sta Z Z.heap "java/lang/String" "COMPACT_STRINGS" "Z" (.int i7)) (Od0 : Old Z n0 h0) (c8 : ¬ (i7 = 0)) (F_coder_a1 : Fld Z h0 a1 jS "coder" "B" (.int 0)) (R_r9 : r9.isRef = true) (S_SIOOBE_FORMATTER : Sta Z Z.heap "jdk/internal/util/Preconditions" "SIOOBE_FORMATTER" "Ljava/util/function/BiFunction;" r9) :
    OwnMet l Z y_8 prog_10_method_10_code 3 (some .int) [] Rm108 #[(.ref a1)] h0 (Q108 Z a1 a2 i3 i4 i5 ck6 i7 r9 h0 n0) := by
  refine own_body (plainFor_of_name pn_2) (ef_aae876 a1) ?_
  intro p e s m below meth c s₁ hx hby hml hown hnm hret hZ X0 e0
  have N0 := Fr.nil n0
  have B := hbx hby
  obtain ⟨T1, L1, X1, e1, N1, st1⟩ := tn55 l Z hw a1 (0 : Int32) .unset a2 [(.int i3), (.int i4), (.int i5)] ck6 (3 : Int32) i7 r9 i3 h0 n0 Z0 (Or.inl rfl) E_a1 F_value_a1 V_a2 S_COMPACT_STRINGS Od0 c8 F_coder_a1 (by decide) R_r9 S_SIOOBE_FORMATTER (by decide) (by decide) rfl hx hby hml hown hZ X0 e0 N0 (by decide) (by decide)
  obtain ⟨T2, L2, X2, e2, N2, st2⟩ := tn55 l Z hw a1 (1 : Int32) (vi (i3 &&& (255 : Int32))) a2 [(.int i3), (.int i4), (.int i5)] ck6 (3 : Int32) i7 r9 i4 h0 n0 Z0 (Or.inr ⟨_, rfl⟩) E_a1 F_value_a1 V_a2 S_COMPACT_STRINGS Od0 c8 F_coder_a1 (by decide) R_r9 S_SIOOBE_FORMATTER (by decide) (by decide) rfl hx hby hml hown hZ X1 e1 N1 (by decide) (by decide)
  obtain ⟨T3, L3, X3, e3, N3, st3⟩ := tn55 l Z hw a1 (2 : Int32) (vi (i4 &&& (255 : Int32))) a2 [(.int i3), (.int i4), (.int i5)] ck6 (3 : Int32) i7 r9 i5 h0 n0 Z0 (Or.inr ⟨_, rfl⟩) E_a1 F_value_a1 V_a2 S_COMPACT_STRINGS Od0 c8 F_coder_a1 (by decide) R_r9 S_SIOOBE_FORMATTER (by decide) (by decide) rfl hx hby hml hown hZ X2 e2 N2 (by decide) (by decide)
  obtain ⟨T4, L4, X4, e4, N4, st4⟩ := tn9 l Z hw a1 (3 : Int32) (vi (i5 &&& (255 : Int32))) a2 [(.int i3), (.int i4), (.int i5)] ck6 (3 : Int32) i7 h0 n0 Z0 (Or.inr ⟨_, rfl⟩) E_a1 F_value_a1 V_a2 S_COMPACT_STRINGS Od0 c8 F_coder_a1 (by decide) hx hby hml hown hZ X3 e3 N3 (by decide) (by decide)
  refine ⟨T4, _, _, _, (some (.int (-1))), X4, nofun, by decide, by decide, ?_, fun fs hr => ?_⟩
  · rw [e4]
    exact ⟨rfl, N4, rfl⟩
  · refine sC X0 hx (B d7_0) ?_
    refine XS.istoreN X0.here hx rfl (B d7_1) rfl (l' := #[vr a1, vi 0, un]) rfl ?_
    refine st1 _ ?_
    refine st2 _ ?_
    refine st3 _ ?_
    refine st4 _ ?_
    refine sC X4 hx (B d7_40) ?_
    exact retI X4 hx hret (B d7_41) hr
theorem own_finL_3 (c0 c1 c2 : Int32) (h : ¬ own_cc2 c0 c1 c2 = 0) : (-1 : Int32) = own_ex2 c0 c1 c2 := by
  have q0 : ¬ 255 < c0 := fun q => h (by unfold own_cc2; simp only [if_pos q, ite_self])
  have k0 : own_kk c0 = 0 := by unfold own_kk; rw [if_pos]; rw [(own_i c0 255 255 (by decide)).2] at q0; rw [(own_i c0 55296 55296 (by decide)).1]; omega
  have q1 : ¬ 255 < c1 := fun q => h (by unfold own_cc2; simp only [if_pos q, ite_self])
  have k1 : own_kk c1 = 0 := by unfold own_kk; rw [if_pos]; rw [(own_i c1 255 255 (by decide)).2] at q1; rw [(own_i c1 55296 55296 (by decide)).1]; omega
  have q2 : ¬ 255 < c2 := fun q => h (by unfold own_cc2; simp only [if_pos q, ite_self])
  have k2 : own_kk c2 = 0 := by unfold own_kk; rw [if_pos]; rw [(own_i c2 255 255 (by decide)).2] at q2; rw [(own_i c2 55296 55296 (by decide)).1]; omega
  unfold own_ex2 own_ln1 own_ln3 own_ln2
  simp only [own_hi_k, own_lw_k, k0, k1, k2] <;> decide
theorem rm0_3 (l : Launch) (Z : State) {a0 : Array Value} (hw : OW a0 Z) (ws : List Jvm.Cond) (p1 p2 p3 p4 p5 : Int32) (sr1 : Value) (si2 : Int32) (h0 : Heap) (n0 : Nat) (Z0 : n0 ≤ h0.size) (Od0 : Old Z n0 h0) (R_sr1 : sr1.isRef = true) (nc6 : ¬ (si2 = 0)) (S7_SIOOBE_FORMATTER : Sta Z Z.heap "jdk/internal/util/Preconditions" "SIOOBE_FORMATTER" "Ljava/util/function/BiFunction;" sr1) (S8_COMPACT_STRINGS : Sta Z Z.heap "java/lang/String" "COMPACT_STRINGS" "Z" (.int si2)) (S9__assertionsDisabled : Sta Z Z.heap "java/lang/StringUTF16" "$assertionsDisabled" "Z" (.int 1)) (S10_HI_BYTE_SHIFT : Sta Z Z.heap "java/lang/StringUTF16" "HI_BYTE_SHIFT" "I" (.int 0)) (S11_LO_BYTE_SHIFT : Sta Z Z.heap "java/lang/StringUTF16" "LO_BYTE_SHIFT" "I" (.int 8)) (hk : ((p5 &&& (2147483647 : Int32)) - ((p5 &&& (2147483647 : Int32)) / (5 : Int32)) * (5 : Int32)) = (3 : Int32)) :
    OwnMet l Z x code maxLocals ret ws room_1 #[(.int p1), (.int p2), (.int p3), (.int p4), (.int p5)] h0 (Q0 n0) := by
  refine own_body (plainFor_of_name pn_0) (ef0 p1 p2 p3 p4 p5) ?_
  intro p e s m below meth c s₁ hx hby hml hown hnm hret hZ X0 e0
  have N0 := Fr.nil n0
  have B := hbx hby
  obtain ⟨_, T1, L1, X1, hQ1, st1⟩ := own_callS X0 hx hZ hown (y := y_0) (w_1 hw) (w_2 hw) (w_3 hw) (w_4 hw) (rm1 l Z hw p1 h0 n0 Z0) e0 (Ls := #[vi p1, vi p2, vi p3, vi p4, vi p5, vi 3, un, un, un, un, un, un, un]) hml.symm (argsL := [(.int p1)]) (rest := []) (lenOf pd_0 rfl) (B at_10) (W := 0)
  obtain ⟨rfl, Nq1, e1⟩ := hQ1
  have N1 := Fr.app N0 Nq1
  obtain ⟨_, T2, L2, X2, hQ2, st2⟩ := own_callS X1 hx hZ hown (y := y_0) (w_1 hw) (w_2 hw) (w_3 hw) (w_4 hw) (rm1 l Z hw p2 h0 n0 Z0) e1 (Ls := #[vi p1, vi p2, vi p3, vi p4, vi p5, vi 3, vi (own_ch p1), un, un, un, un, un, un]) hml.symm (argsL := [(.int p2)]) (rest := []) (lenOf pd_0 rfl) (B at_16) (W := 0)
  obtain ⟨rfl, Nq2, e2⟩ := hQ2
  have N2 := Fr.app N1 Nq2
  obtain ⟨_, T3, L3, X3, hQ3, st3⟩ := own_callS X2 hx hZ hown (y := y_0) (w_1 hw) (w_2 hw) (w_3 hw) (w_4 hw) (rm1 l Z hw p3 h0 n0 Z0) e2 (Ls := #[vi p1, vi p2, vi p3, vi p4, vi p5, vi 3, vi (own_ch p1), vi (own_ch p2), un, un, un, un, un]) hml.symm (argsL := [(.int p3)]) (rest := []) (lenOf pd_0 rfl) (B at_22) (W := 0)
  obtain ⟨rfl, Nq3, e3⟩ := hQ3
  have N3 := Fr.app N2 Nq3
  obtain ⟨_, T4, L4, X4, hQ4, st4⟩ := own_callS X3 hx hZ hown (y := y_0) (w_1 hw) (w_2 hw) (w_3 hw) (w_4 hw) (rm1 l Z hw p4 h0 n0 Z0) e3 (Ls := #[vi p1, vi p2, vi p3, vi p4, vi p5, vi 3, vi (own_ch p1), vi (own_ch p2), vi (own_ch p3), un, un, un, un]) hml.symm (argsL := [(.int p4)]) (rest := []) (lenOf pd_0 rfl) (B at_28) (W := 0)
  obtain ⟨rfl, Nq4, e4⟩ := hQ4
  have N4 := Fr.app N3 Nq4
  by_cases cc1 : (own_cc2 (nar .char (own_ch p1)) (nar .char (own_ch p2)) (nar .char (own_ch p3))) = 0
  · obtain ⟨_, T5, L5, X5, hQ5, st5⟩ := own_callS X4 hx hZ hown (y := y_4) (w_9 hw) (w_10 hw) (w_3 hw) (w_11 hw) (rm100 l Z hw (own_ch p1) (own_ch p2) (own_ch p3) (own_ch p4) si2 h0 n0 Z0 S8_COMPACT_STRINGS Od0 nc6 S9__assertionsDisabled S10_HI_BYTE_SHIFT S11_LO_BYTE_SHIFT cc1) e4 (Ls := #[vi p1, vi p2, vi p3, vi p4, vi p5, vi 3, vi (own_ch p1), vi (own_ch p2), vi (own_ch p3), vi (own_ch p4), un, un, un]) hml.symm (argsL := [(.int 3), (.int (own_ch p1)), (.int (own_ch p2)), (.int (own_ch p3)), (.int (own_ch p4))]) (rest := []) (lenOf pd_3 rfl) (B at_43) (W := 0)
    obtain ⟨b5_0, b5_1, k5_2, rfl, Nq5, K5, o5_0, o5_1, o5_2, o5_3, o5_4, o5_5, o5_6, o5_7⟩ := hQ5
    have N5 := Fr.app N4 Nq5
    have s0 := K5.1
    obtain ⟨T6, h6, k6, X6, e6, E6, A6, B6, st6⟩ := newPE (aty := .char) X5 hx hZ (w_15 hw) rfl (g := (mkF m 49 #[vi p1, vi p2, vi p3, vi p4, vi p5, vi 3, vi (own_ch p1), vi (own_ch p2), vi (own_ch p3), vi (own_ch p4), vr b5_0, un, un] [(.int 4)])) rfl (B at_49) rfl (by decide) (cap := 4) (by decide) (by decide) (by decide) (by decide) (ad := "[C") (by decide)
    obtain ⟨b6, g6⟩ : ∃ z, z = T5.heap.size := ⟨_, rfl⟩
    rw [← g6] at A6 B6 st6
    have s1 := E6.1
    have Vn6 : Arv Z h6 b6 k6 .char 4 [(.int 0), (.int 0), (.int 0), (.int 0)] (.int 0) := (Arv.new A6 (by decide)).pad (pad_rep [] (.int 0) 4)
    obtain ⟨cl7, Ar7, q7, S7, M7, Hs7, G7⟩ := id Vn6
    have hin8 := inb_of (j := 0) S7 ⟨by decide, by decide⟩
    obtain ⟨T9, h9, X9, e9, W9, st9⟩ := stC X6 hx hZ e6 Ar7 (j := 0) hin8 (g := (mkF m 55 #[vi p1, vi p2, vi p3, vi p4, vi p5, vi 3, vi (own_ch p1), vi (own_ch p2), vi (own_ch p3), vi (own_ch p4), vr b5_0, un, un] [(.int (own_ch p1)), (.int 0), (.ref b6), (.ref b6)])) rfl rfl (B at_55)
    have s2 := (Keep.of_wr W9).1
    have z1 := Nat.le_trans Z0 s0
    have g_b6 : n0 ≤ b6 := Nat.le_trans z1 (Nat.le_of_eq g6.symm)
    have N9 := Fr.snoc X9 N5 g_b6
    have Vs9 : Arv Z h9 b6 k6 .char 4 [(.int (nar .char (own_ch p1))), (.int 0), (.int 0), (.int 0)] (.int 0) := Arv.set Ar7 q7 S7 M7 Hs7 G7 (fits_nar_char _) W9 0 rfl (nl rfl)
    obtain ⟨cl10, Ar10, q10, S10, M10, Hs10, G10⟩ := id Vs9
    have hin11 := inb_of (j := 1) S10 ⟨by decide, by decide⟩
    obtain ⟨T12, h12, X12, e12, W12, st12⟩ := stC X9 hx hZ e9 Ar10 (j := 1) hin11 (g := (mkF m 60 #[vi p1, vi p2, vi p3, vi p4, vi p5, vi 3, vi (own_ch p1), vi (own_ch p2), vi (own_ch p3), vi (own_ch p4), vr b5_0, un, un] [(.int (own_ch p2)), (.int 1), (.ref b6), (.ref b6)])) rfl rfl (B at_60)
    have s3 := (Keep.of_wr W12).1
    have N12 := Fr.snoc X12 N9 g_b6
    have Vs12 : Arv Z h12 b6 k6 .char 4 [(.int (nar .char (own_ch p1))), (.int (nar .char (own_ch p2))), (.int 0), (.int 0)] (.int 0) := Arv.set Ar10 q10 S10 M10 Hs10 G10 (fits_nar_char _) W12 1 rfl (nl rfl)
    obtain ⟨cl13, Ar13, q13, S13, M13, Hs13, G13⟩ := id Vs12
    have hin14 := inb_of (j := 2) S13 ⟨by decide, by decide⟩
    obtain ⟨T15, h15, X15, e15, W15, st15⟩ := stC X12 hx hZ e12 Ar13 (j := 2) hin14 (g := (mkF m 65 #[vi p1, vi p2, vi p3, vi p4, vi p5, vi 3, vi (own_ch p1), vi (own_ch p2), vi (own_ch p3), vi (own_ch p4), vr b5_0, un, un] [(.int (own_ch p3)), (.int 2), (.ref b6), (.ref b6)])) rfl rfl (B at_65)
    have s4 := (Keep.of_wr W15).1
    have N15 := Fr.snoc X15 N12 g_b6
    have Vs15 : Arv Z h15 b6 k6 .char 4 [(.int (nar .char (own_ch p1))), (.int (nar .char (own_ch p2))), (.int (nar .char (own_ch p3))), (.int 0)] (.int 0) := Arv.set Ar13 q13 S13 M13 Hs13 G13 (fits_nar_char _) W15 2 rfl (nl rfl)
    obtain ⟨cl16, Ar16, q16, S16, M16, Hs16, G16⟩ := id Vs15
    have hin17 := inb_of (j := 3) S16 ⟨by decide, by decide⟩
    obtain ⟨T18, h18, X18, e18, W18, st18⟩ := stC X15 hx hZ e15 Ar16 (j := 3) hin17 (g := (mkF m 70 #[vi p1, vi p2, vi p3, vi p4, vi p5, vi 3, vi (own_ch p1), vi (own_ch p2), vi (own_ch p3), vi (own_ch p4), vr b5_0, un, un] [(.int (own_ch p4)), (.int 3), (.ref b6), (.ref b6)])) rfl rfl (B at_70)
    have s5 := (Keep.of_wr W18).1
    have N18 := Fr.snoc X18 N15 g_b6
    have Vs18 : Arv Z h18 b6 k6 .char 4 [(.int (nar .char (own_ch p1))), (.int (nar .char (own_ch p2))), (.int (nar .char (own_ch p3))), (.int (nar .char (own_ch p4)))] (.int 0) := Arv.set Ar16 q16 S16 M16 Hs16 G16 (fits_nar_char _) W18 3 rfl (nl rfl)
    have z6 := Nat.le_trans Z0 (Nat.le_trans (Nat.le_trans (Nat.le_trans (Nat.le_trans (Nat.le_trans s0 s1) s2) s3) s4) s5)
    obtain ⟨T19, L19, X19, e19, N19, st19⟩ := tn102 l Z hw p1 p2 p3 p4 p5 (own_ch p1) (own_ch p2) (own_ch p3) (own_ch p4) b5_0 b6 (nar .char (own_ch p1)) (nar .char (own_ch p2)) (nar .char (own_ch p3)) (nar .char (own_ch p4)) k6 h18 n0 z6 Vs18 hx hby hml hown hZ X18 e18 N18 (by decide) (by decide)
    have Ex20 := (((((o5_1.ext E6).wr W9).wr W12).wr W15).wr W18)
    have ne_b5_0_b6 := Nat.ne_of_lt (Nat.lt_of_lt_of_le o5_3.lt (Nat.le_of_eq g6.symm))
    have Fl21 := (((((o5_3.ext E6).other W9 (Or.inl ne_b5_0_b6)).other W12 (Or.inl ne_b5_0_b6)).other W15 (Or.inl ne_b5_0_b6)).other W18 (Or.inl ne_b5_0_b6))
    have ne_b5_1_b6 := Nat.ne_of_lt (Nat.lt_of_lt_of_le o5_6.lt (Nat.le_of_eq g6.symm))
    have Va22 := (((((o5_6.ext E6).other W9 ne_b5_1_b6).other W12 ne_b5_1_b6).other W15 ne_b5_1_b6).other W18 ne_b5_1_b6)
    have Od1 := Od0.keep K5 all0
    have Od2 := Od1.ext E6
    have Od3 := Od2.wr W9 g_b6
    have Od4 := Od3.wr W12 g_b6
    have Od5 := Od4.wr W15 g_b6
    have Od6 := Od5.wr W18 g_b6
    have Fl23 := (((((o5_2.ext E6).other W9 (Or.inl ne_b5_0_b6)).other W12 (Or.inl ne_b5_0_b6)).other W15 (Or.inl ne_b5_0_b6)).other W18 (Or.inl ne_b5_0_b6))
    have cd24 : ¬ ((nar .char (own_ch p1)) < 0) := (by rw [Int32.lt_iff_toInt_lt]; have := rng32 (nar .char (own_ch p1)); have := rng32 (own_ch p1); have := own_ch_b p1; have := own_c_nar_char (own_ch p1); have : ((0 : Int32)).toInt = 0 := (by decide); omega)
    have cd25 : ¬ (65535 < (nar .char (own_ch p1))) := (by rw [Int32.lt_iff_toInt_lt]; have : ((65535 : Int32)).toInt = 65535 := (by decide); have := rng32 (nar .char (own_ch p1)); have := rng32 (own_ch p1); have := own_ch_b p1; have := own_c_nar_char (own_ch p1); omega)
    have cd26 : ¬ ((nar .char (own_ch p2)) < 0) := (by rw [Int32.lt_iff_toInt_lt]; have := rng32 (nar .char (own_ch p2)); have := rng32 (own_ch p2); have := own_ch_b p2; have := own_c_nar_char (own_ch p2); have : ((0 : Int32)).toInt = 0 := (by decide); omega)
    have cd27 : ¬ (65535 < (nar .char (own_ch p2))) := (by rw [Int32.lt_iff_toInt_lt]; have : ((65535 : Int32)).toInt = 65535 := (by decide); have := rng32 (nar .char (own_ch p2)); have := rng32 (own_ch p2); have := own_ch_b p2; have := own_c_nar_char (own_ch p2); omega)
    have cd28 : ¬ ((nar .char (own_ch p3)) < 0) := (by rw [Int32.lt_iff_toInt_lt]; have := rng32 (nar .char (own_ch p3)); have := rng32 (own_ch p3); have := own_ch_b p3; have := own_c_nar_char (own_ch p3); have : ((0 : Int32)).toInt = 0 := (by decide); omega)
    have cd29 : ¬ (65535 < (nar .char (own_ch p3))) := (by rw [Int32.lt_iff_toInt_lt]; have : ((65535 : Int32)).toInt = 65535 := (by decide); have := rng32 (nar .char (own_ch p3)); have := rng32 (own_ch p3); have := own_ch_b p3; have := own_c_nar_char (own_ch p3); omega)
    obtain ⟨_, T30, L30, X30, hQ30, st30⟩ := own_callS X19 hx hZ hown (y := y_8) (w_37 hw) (w_38 hw) (w_39 hw) (w_40 hw) (rm103 l Z hw b5_0 b5_1 (nar .byte (((nar .char (own_ch p1)) >>> ((0 : Int32) &&& 31)).toInt8.toInt32)) (nar .byte (((nar .char (own_ch p1)) >>> ((8 : Int32) &&& 31)).toInt8.toInt32)) (nar .byte (((nar .char (own_ch p2)) >>> ((0 : Int32) &&& 31)).toInt8.toInt32)) (nar .byte (((nar .char (own_ch p2)) >>> ((8 : Int32) &&& 31)).toInt8.toInt32)) (nar .byte (((nar .char (own_ch p3)) >>> ((0 : Int32) &&& 31)).toInt8.toInt32)) (nar .byte (((nar .char (own_ch p3)) >>> ((8 : Int32) &&& 31)).toInt8.toInt32)) k5_2 si2 sr1 h18 n0 z6 Ex20 Fl21 Va22 S8_COMPACT_STRINGS Od6 nc6 Fl23 R_sr1 S7_SIOOBE_FORMATTER S9__assertionsDisabled S10_HI_BYTE_SHIFT S11_LO_BYTE_SHIFT) e19 (Ls := #[vi p1, vi p2, vi p3, vi p4, vi p5, vi 3, vi (own_ch p1), vi (own_ch p2), vi (own_ch p3), vi (own_ch p4), vr b5_0, vr b6, vi (own_ex2 (nar .char (own_ch p1)) (nar .char (own_ch p2)) (nar .char (own_ch p3)))]) hml.symm (argsL := [(.ref b5_0)]) (rest := []) (lenOf pd_7 rfl) (B at_146) (W := 0)
    obtain ⟨rfl, Nq30, e30⟩ := hQ30
    have N30 := Fr.app N19 Nq30
    have cd31 : (own_un2 (nar .byte (((nar .char (own_ch p1)) >>> ((0 : Int32) &&& 31)).toInt8.toInt32)) (nar .byte (((nar .char (own_ch p1)) >>> ((8 : Int32) &&& 31)).toInt8.toInt32)) (nar .byte (((nar .char (own_ch p2)) >>> ((0 : Int32) &&& 31)).toInt8.toInt32)) (nar .byte (((nar .char (own_ch p2)) >>> ((8 : Int32) &&& 31)).toInt8.toInt32)) (nar .byte (((nar .char (own_ch p3)) >>> ((0 : Int32) &&& 31)).toInt8.toInt32)) (nar .byte (((nar .char (own_ch p3)) >>> ((8 : Int32) &&& 31)).toInt8.toInt32))) = (own_ex2 (nar .char (own_ch p1)) (nar .char (own_ch p2)) (nar .char (own_ch p3))) := (own_finU_3 (nar .char (own_ch p1)) (nar .char (own_ch p2)) (nar .char (own_ch p3)) cd24 cd25 cd26 cd27 cd28 cd29)
    refine ⟨T30, _, _, _, (some (.int 1)), X30, nofun, by decide, by decide, ?_, fun fs hr => ?_⟩
    · show Q0 n0 _ T30.heap _
      rw [e30]
      exact ⟨rfl, N30⟩
    · refine sJ X0 hx (B at_0) rfl ?_
      refine X0.ldcInt hx hown (mvT hZ (w_0 hw)) (g := (mkF m 2 #[vi p1, vi p2, vi p3, vi p4, vi p5, un, un, un, un, un, un, un, un] [(.int p5)])) rfl (B at_2) _ ?_
      refine XS.iand X0.here hx rfl (B at_4) rfl ?_
      refine sC X0 hx (B at_5) ?_
      refine XS.irem X0.here hx rfl (B at_6) rfl (by decide : ¬ ((5 : Int32) = (0 : Int32))) ?_
      show Steps p.tables e below (s₁.setTop (mkF m 7 #[vi p1, vi p2, vi p3, vi p4, vi p5, un, un, un, un, un, un, un, un] [(.int ((p5 &&& (2147483647 : Int32)) - ((p5 &&& (2147483647 : Int32)) / (5 : Int32)) * (5 : Int32)))])) _
      rw [hk]
      refine XS.istore X0.here hx rfl (B at_7) rfl (l' := #[vi p1, vi p2, vi p3, vi p4, vi p5, vi 3, un, un, un, un, un, un, un]) rfl ?_
      refine sI X0 hx (B at_9) rfl ?_
      refine st1 _ ?_
      refine XS.istore X1.here hx rfl (B at_13) rfl (l' := #[vi p1, vi p2, vi p3, vi p4, vi p5, vi 3, vi (own_ch p1), un, un, un, un, un, un]) rfl ?_
      refine sI X1 hx (B at_15) rfl ?_
      refine st2 _ ?_
      refine XS.istore X2.here hx rfl (B at_19) rfl (l' := #[vi p1, vi p2, vi p3, vi p4, vi p5, vi 3, vi (own_ch p1), vi (own_ch p2), un, un, un, un, un]) rfl ?_
      refine sI X2 hx (B at_21) rfl ?_
      refine st3 _ ?_
      refine XS.istore X3.here hx rfl (B at_25) rfl (l' := #[vi p1, vi p2, vi p3, vi p4, vi p5, vi 3, vi (own_ch p1), vi (own_ch p2), vi (own_ch p3), un, un, un, un]) rfl ?_
      refine sI X3 hx (B at_27) rfl ?_
      refine st4 _ ?_
      refine XS.istore X4.here hx rfl (B at_31) rfl (l' := #[vi p1, vi p2, vi p3, vi p4, vi p5, vi 3, vi (own_ch p1), vi (own_ch p2), vi (own_ch p3), vi (own_ch p4), un, un, un]) rfl ?_
      refine sJ X4 hx (B at_33) rfl ?_
      refine sJ X4 hx (B at_35) rfl ?_
      refine sJ X4 hx (B at_37) rfl ?_
      refine sJ X4 hx (B at_39) rfl ?_
      refine sJ X4 hx (B at_41) rfl ?_
      refine st5 _ ?_
      refine XS.astore X5.here hx rfl (B at_46) rfl rfl (l' := #[vi p1, vi p2, vi p3, vi p4, vi p5, vi 3, vi (own_ch p1), vi (own_ch p2), vi (own_ch p3), vi (own_ch p4), vr b5_0, un, un]) rfl ?_
      refine sC X5 hx (B at_48) ?_
      refine st6 _ ?_
      refine XS.dup X6.here hx rfl (B at_51) rfl rfl ?_
      refine sC X6 hx (B at_52) ?_
      refine sJ X6 hx (B at_53) rfl ?_
      refine st9 _ ?_
      refine XS.dup X9.here hx rfl (B at_56) rfl rfl ?_
      refine sC X9 hx (B at_57) ?_
      refine sJ X9 hx (B at_58) rfl ?_
      refine st12 _ ?_
      refine XS.dup X12.here hx rfl (B at_61) rfl rfl ?_
      refine sC X12 hx (B at_62) ?_
      refine sJ X12 hx (B at_63) rfl ?_
      refine st15 _ ?_
      refine XS.dup X15.here hx rfl (B at_66) rfl rfl ?_
      refine sC X15 hx (B at_67) ?_
      refine sJ X15 hx (B at_68) rfl ?_
      refine st18 _ ?_
      refine XS.astore X18.here hx rfl (B at_71) rfl rfl (l' := #[vi p1, vi p2, vi p3, vi p4, vi p5, vi 3, vi (own_ch p1), vi (own_ch p2), vi (own_ch p3), vi (own_ch p4), vr b5_0, vr b6, un]) rfl ?_
      refine st19 _ ?_
      refine sB X19 hx (B at_144) rfl rfl ?_
      refine st30 _ ?_
      refine sJ X30 hx (B at_149) rfl ?_
      refine XS.icmpNo X30.here hx rfl (B at_151) rfl (teq cd31).2 ?_
      refine sC X30 hx (B at_154) ?_
      refine XS.goto X30.here hx rfl (pc0 := 155) (pc' := 159) rfl (B at_155) (by decide) (by decide) ?_
      exact retN X30 hx (t := .boolean) hret (by simp) (B at_159) hr
  · obtain ⟨_, T5, L5, X5, hQ5, st5⟩ := own_callS X4 hx hZ hown (y := y_4) (w_9 hw) (w_10 hw) (w_3 hw) (w_11 hw) (rm107 l Z hw (own_ch p1) (own_ch p2) (own_ch p3) (own_ch p4) si2 h0 n0 Z0 S8_COMPACT_STRINGS Od0 nc6 S9__assertionsDisabled S10_HI_BYTE_SHIFT S11_LO_BYTE_SHIFT cc1) e4 (Ls := #[vi p1, vi p2, vi p3, vi p4, vi p5, vi 3, vi (own_ch p1), vi (own_ch p2), vi (own_ch p3), vi (own_ch p4), un, un, un]) hml.symm (argsL := [(.int 3), (.int (own_ch p1)), (.int (own_ch p2)), (.int (own_ch p3)), (.int (own_ch p4))]) (rest := []) (lenOf pd_3 rfl) (B at_43) (W := 0)
    obtain ⟨b5_0, b5_1, k5_2, rfl, Nq5, K5, o5_0, o5_1, o5_2, o5_3, o5_4, o5_5, o5_6, o5_7⟩ := hQ5
    have N5 := Fr.app N4 Nq5
    have s0 := K5.1
    obtain ⟨T6, h6, k6, X6, e6, E6, A6, B6, st6⟩ := newPE (aty := .char) X5 hx hZ (w_15 hw) rfl (g := (mkF m 49 #[vi p1, vi p2, vi p3, vi p4, vi p5, vi 3, vi (own_ch p1), vi (own_ch p2), vi (own_ch p3), vi (own_ch p4), vr b5_0, un, un] [(.int 4)])) rfl (B at_49) rfl (by decide) (cap := 4) (by decide) (by decide) (by decide) (by decide) (ad := "[C") (by decide)
    obtain ⟨b6, g6⟩ : ∃ z, z = T5.heap.size := ⟨_, rfl⟩
    rw [← g6] at A6 B6 st6
    have s1 := E6.1
    have Vn6 : Arv Z h6 b6 k6 .char 4 [(.int 0), (.int 0), (.int 0), (.int 0)] (.int 0) := (Arv.new A6 (by decide)).pad (pad_rep [] (.int 0) 4)
    obtain ⟨cl7, Ar7, q7, S7, M7, Hs7, G7⟩ := id Vn6
    have hin8 := inb_of (j := 0) S7 ⟨by decide, by decide⟩
    obtain ⟨T9, h9, X9, e9, W9, st9⟩ := stC X6 hx hZ e6 Ar7 (j := 0) hin8 (g := (mkF m 55 #[vi p1, vi p2, vi p3, vi p4, vi p5, vi 3, vi (own_ch p1), vi (own_ch p2), vi (own_ch p3), vi (own_ch p4), vr b5_0, un, un] [(.int (own_ch p1)), (.int 0), (.ref b6), (.ref b6)])) rfl rfl (B at_55)
    have s2 := (Keep.of_wr W9).1
    have z1 := Nat.le_trans Z0 s0
    have g_b6 : n0 ≤ b6 := Nat.le_trans z1 (Nat.le_of_eq g6.symm)
    have N9 := Fr.snoc X9 N5 g_b6
    have Vs9 : Arv Z h9 b6 k6 .char 4 [(.int (nar .char (own_ch p1))), (.int 0), (.int 0), (.int 0)] (.int 0) := Arv.set Ar7 q7 S7 M7 Hs7 G7 (fits_nar_char _) W9 0 rfl (nl rfl)
    obtain ⟨cl10, Ar10, q10, S10, M10, Hs10, G10⟩ := id Vs9
    have hin11 := inb_of (j := 1) S10 ⟨by decide, by decide⟩
    obtain ⟨T12, h12, X12, e12, W12, st12⟩ := stC X9 hx hZ e9 Ar10 (j := 1) hin11 (g := (mkF m 60 #[vi p1, vi p2, vi p3, vi p4, vi p5, vi 3, vi (own_ch p1), vi (own_ch p2), vi (own_ch p3), vi (own_ch p4), vr b5_0, un, un] [(.int (own_ch p2)), (.int 1), (.ref b6), (.ref b6)])) rfl rfl (B at_60)
    have s3 := (Keep.of_wr W12).1
    have N12 := Fr.snoc X12 N9 g_b6
    have Vs12 : Arv Z h12 b6 k6 .char 4 [(.int (nar .char (own_ch p1))), (.int (nar .char (own_ch p2))), (.int 0), (.int 0)] (.int 0) := Arv.set Ar10 q10 S10 M10 Hs10 G10 (fits_nar_char _) W12 1 rfl (nl rfl)
    obtain ⟨cl13, Ar13, q13, S13, M13, Hs13, G13⟩ := id Vs12
    have hin14 := inb_of (j := 2) S13 ⟨by decide, by decide⟩
    obtain ⟨T15, h15, X15, e15, W15, st15⟩ := stC X12 hx hZ e12 Ar13 (j := 2) hin14 (g := (mkF m 65 #[vi p1, vi p2, vi p3, vi p4, vi p5, vi 3, vi (own_ch p1), vi (own_ch p2), vi (own_ch p3), vi (own_ch p4), vr b5_0, un, un] [(.int (own_ch p3)), (.int 2), (.ref b6), (.ref b6)])) rfl rfl (B at_65)
    have s4 := (Keep.of_wr W15).1
    have N15 := Fr.snoc X15 N12 g_b6
    have Vs15 : Arv Z h15 b6 k6 .char 4 [(.int (nar .char (own_ch p1))), (.int (nar .char (own_ch p2))), (.int (nar .char (own_ch p3))), (.int 0)] (.int 0) := Arv.set Ar13 q13 S13 M13 Hs13 G13 (fits_nar_char _) W15 2 rfl (nl rfl)
    obtain ⟨cl16, Ar16, q16, S16, M16, Hs16, G16⟩ := id Vs15
    have hin17 := inb_of (j := 3) S16 ⟨by decide, by decide⟩
    obtain ⟨T18, h18, X18, e18, W18, st18⟩ := stC X15 hx hZ e15 Ar16 (j := 3) hin17 (g := (mkF m 70 #[vi p1, vi p2, vi p3, vi p4, vi p5, vi 3, vi (own_ch p1), vi (own_ch p2), vi (own_ch p3), vi (own_ch p4), vr b5_0, un, un] [(.int (own_ch p4)), (.int 3), (.ref b6), (.ref b6)])) rfl rfl (B at_70)
    have s5 := (Keep.of_wr W18).1
    have N18 := Fr.snoc X18 N15 g_b6
    have Vs18 : Arv Z h18 b6 k6 .char 4 [(.int (nar .char (own_ch p1))), (.int (nar .char (own_ch p2))), (.int (nar .char (own_ch p3))), (.int (nar .char (own_ch p4)))] (.int 0) := Arv.set Ar16 q16 S16 M16 Hs16 G16 (fits_nar_char _) W18 3 rfl (nl rfl)
    have z6 := Nat.le_trans Z0 (Nat.le_trans (Nat.le_trans (Nat.le_trans (Nat.le_trans (Nat.le_trans s0 s1) s2) s3) s4) s5)
    obtain ⟨T19, L19, X19, e19, N19, st19⟩ := tn102 l Z hw p1 p2 p3 p4 p5 (own_ch p1) (own_ch p2) (own_ch p3) (own_ch p4) b5_0 b6 (nar .char (own_ch p1)) (nar .char (own_ch p2)) (nar .char (own_ch p3)) (nar .char (own_ch p4)) k6 h18 n0 z6 Vs18 hx hby hml hown hZ X18 e18 N18 (by decide) (by decide)
    have Ex20 := (((((o5_1.ext E6).wr W9).wr W12).wr W15).wr W18)
    have ne_b5_0_b6 := Nat.ne_of_lt (Nat.lt_of_lt_of_le o5_3.lt (Nat.le_of_eq g6.symm))
    have Fl21 := (((((o5_3.ext E6).other W9 (Or.inl ne_b5_0_b6)).other W12 (Or.inl ne_b5_0_b6)).other W15 (Or.inl ne_b5_0_b6)).other W18 (Or.inl ne_b5_0_b6))
    have ne_b5_1_b6 := Nat.ne_of_lt (Nat.lt_of_lt_of_le o5_6.lt (Nat.le_of_eq g6.symm))
    have Va22 := (((((o5_6.ext E6).other W9 ne_b5_1_b6).other W12 ne_b5_1_b6).other W15 ne_b5_1_b6).other W18 ne_b5_1_b6)
    have Od1 := Od0.keep K5 all0
    have Od2 := Od1.ext E6
    have Od3 := Od2.wr W9 g_b6
    have Od4 := Od3.wr W12 g_b6
    have Od5 := Od4.wr W15 g_b6
    have Od6 := Od5.wr W18 g_b6
    have Fl23 := (((((o5_2.ext E6).other W9 (Or.inl ne_b5_0_b6)).other W12 (Or.inl ne_b5_0_b6)).other W15 (Or.inl ne_b5_0_b6)).other W18 (Or.inl ne_b5_0_b6))
    obtain ⟨_, T24, L24, X24, hQ24, st24⟩ := own_callS X19 hx hZ hown (y := y_8) (w_37 hw) (w_38 hw) (w_39 hw) (w_40 hw) (rm108 l Z hw b5_0 b5_1 (nar .byte ((nar .char (own_ch p1)).toInt8.toInt32)) (nar .byte ((nar .char (own_ch p2)).toInt8.toInt32)) (nar .byte ((nar .char (own_ch p3)).toInt8.toInt32)) k5_2 si2 sr1 h18 n0 z6 Ex20 Fl21 Va22 S8_COMPACT_STRINGS Od6 nc6 Fl23 R_sr1 S7_SIOOBE_FORMATTER) e19 (Ls := #[vi p1, vi p2, vi p3, vi p4, vi p5, vi 3, vi (own_ch p1), vi (own_ch p2), vi (own_ch p3), vi (own_ch p4), vr b5_0, vr b6, vi (own_ex2 (nar .char (own_ch p1)) (nar .char (own_ch p2)) (nar .char (own_ch p3)))]) hml.symm (argsL := [(.ref b5_0)]) (rest := []) (lenOf pd_7 rfl) (B at_146) (W := 0)
    obtain ⟨rfl, Nq24, e24⟩ := hQ24
    have N24 := Fr.app N19 Nq24
    have cd25 : ¬ ((nar .char (own_ch p1)) < 0) := (by rw [Int32.lt_iff_toInt_lt]; have := rng32 (nar .char (own_ch p1)); have := rng32 (own_ch p1); have := own_ch_b p1; have := own_c_nar_char (own_ch p1); have : ((0 : Int32)).toInt = 0 := (by decide); omega)
    have cd26 : ¬ (65535 < (nar .char (own_ch p1))) := (by rw [Int32.lt_iff_toInt_lt]; have : ((65535 : Int32)).toInt = 65535 := (by decide); have := rng32 (nar .char (own_ch p1)); have := rng32 (own_ch p1); have := own_ch_b p1; have := own_c_nar_char (own_ch p1); omega)
    have cd27 : ¬ ((nar .char (own_ch p2)) < 0) := (by rw [Int32.lt_iff_toInt_lt]; have := rng32 (nar .char (own_ch p2)); have := rng32 (own_ch p2); have := own_ch_b p2; have := own_c_nar_char (own_ch p2); have : ((0 : Int32)).toInt = 0 := (by decide); omega)
    have cd28 : ¬ (65535 < (nar .char (own_ch p2))) := (by rw [Int32.lt_iff_toInt_lt]; have : ((65535 : Int32)).toInt = 65535 := (by decide); have := rng32 (nar .char (own_ch p2)); have := rng32 (own_ch p2); have := own_ch_b p2; have := own_c_nar_char (own_ch p2); omega)
    have cd29 : ¬ ((nar .char (own_ch p3)) < 0) := (by rw [Int32.lt_iff_toInt_lt]; have := rng32 (nar .char (own_ch p3)); have := rng32 (own_ch p3); have := own_ch_b p3; have := own_c_nar_char (own_ch p3); have : ((0 : Int32)).toInt = 0 := (by decide); omega)
    have cd30 : ¬ (65535 < (nar .char (own_ch p3))) := (by rw [Int32.lt_iff_toInt_lt]; have : ((65535 : Int32)).toInt = 65535 := (by decide); have := rng32 (nar .char (own_ch p3)); have := rng32 (own_ch p3); have := own_ch_b p3; have := own_c_nar_char (own_ch p3); omega)
    have cd31 : (-1) = (own_ex2 (nar .char (own_ch p1)) (nar .char (own_ch p2)) (nar .char (own_ch p3))) := (own_finL_3 (nar .char (own_ch p1)) (nar .char (own_ch p2)) (nar .char (own_ch p3)) cc1)
    refine ⟨T24, _, _, _, (some (.int 1)), X24, nofun, by decide, by decide, ?_, fun fs hr => ?_⟩
    · show Q0 n0 _ T24.heap _
      rw [e24]
      exact ⟨rfl, N24⟩
    · refine sJ X0 hx (B at_0) rfl ?_
      refine X0.ldcInt hx hown (mvT hZ (w_0 hw)) (g := (mkF m 2 #[vi p1, vi p2, vi p3, vi p4, vi p5, un, un, un, un, un, un, un, un] [(.int p5)])) rfl (B at_2) _ ?_
      refine XS.iand X0.here hx rfl (B at_4) rfl ?_
      refine sC X0 hx (B at_5) ?_
      refine XS.irem X0.here hx rfl (B at_6) rfl (by decide : ¬ ((5 : Int32) = (0 : Int32))) ?_
      show Steps p.tables e below (s₁.setTop (mkF m 7 #[vi p1, vi p2, vi p3, vi p4, vi p5, un, un, un, un, un, un, un, un] [(.int ((p5 &&& (2147483647 : Int32)) - ((p5 &&& (2147483647 : Int32)) / (5 : Int32)) * (5 : Int32)))])) _
      rw [hk]
      refine XS.istore X0.here hx rfl (B at_7) rfl (l' := #[vi p1, vi p2, vi p3, vi p4, vi p5, vi 3, un, un, un, un, un, un, un]) rfl ?_
      refine sI X0 hx (B at_9) rfl ?_
      refine st1 _ ?_
      refine XS.istore X1.here hx rfl (B at_13) rfl (l' := #[vi p1, vi p2, vi p3, vi p4, vi p5, vi 3, vi (own_ch p1), un, un, un, un, un, un]) rfl ?_
      refine sI X1 hx (B at_15) rfl ?_
      refine st2 _ ?_
      refine XS.istore X2.here hx rfl (B at_19) rfl (l' := #[vi p1, vi p2, vi p3, vi p4, vi p5, vi 3, vi (own_ch p1), vi (own_ch p2), un, un, un, un, un]) rfl ?_
      refine sI X2 hx (B at_21) rfl ?_
      refine st3 _ ?_
      refine XS.istore X3.here hx rfl (B at_25) rfl (l' := #[vi p1, vi p2, vi p3, vi p4, vi p5, vi 3, vi (own_ch p1), vi (own_ch p2), vi (own_ch p3), un, un, un, un]) rfl ?_
      refine sI X3 hx (B at_27) rfl ?_
      refine st4 _ ?_
      refine XS.istore X4.here hx rfl (B at_31) rfl (l' := #[vi p1, vi p2, vi p3, vi p4, vi p5, vi 3, vi (own_ch p1), vi (own_ch p2), vi (own_ch p3), vi (own_ch p4), un, un, un]) rfl ?_
      refine sJ X4 hx (B at_33) rfl ?_
      refine sJ X4 hx (B at_35) rfl ?_
      refine sJ X4 hx (B at_37) rfl ?_
      refine sJ X4 hx (B at_39) rfl ?_
      refine sJ X4 hx (B at_41) rfl ?_
      refine st5 _ ?_
      refine XS.astore X5.here hx rfl (B at_46) rfl rfl (l' := #[vi p1, vi p2, vi p3, vi p4, vi p5, vi 3, vi (own_ch p1), vi (own_ch p2), vi (own_ch p3), vi (own_ch p4), vr b5_0, un, un]) rfl ?_
      refine sC X5 hx (B at_48) ?_
      refine st6 _ ?_
      refine XS.dup X6.here hx rfl (B at_51) rfl rfl ?_
      refine sC X6 hx (B at_52) ?_
      refine sJ X6 hx (B at_53) rfl ?_
      refine st9 _ ?_
      refine XS.dup X9.here hx rfl (B at_56) rfl rfl ?_
      refine sC X9 hx (B at_57) ?_
      refine sJ X9 hx (B at_58) rfl ?_
      refine st12 _ ?_
      refine XS.dup X12.here hx rfl (B at_61) rfl rfl ?_
      refine sC X12 hx (B at_62) ?_
      refine sJ X12 hx (B at_63) rfl ?_
      refine st15 _ ?_
      refine XS.dup X15.here hx rfl (B at_66) rfl rfl ?_
      refine sC X15 hx (B at_67) ?_
      refine sJ X15 hx (B at_68) rfl ?_
      refine st18 _ ?_
      refine XS.astore X18.here hx rfl (B at_71) rfl rfl (l' := #[vi p1, vi p2, vi p3, vi p4, vi p5, vi 3, vi (own_ch p1), vi (own_ch p2), vi (own_ch p3), vi (own_ch p4), vr b5_0, vr b6, un]) rfl ?_
      refine st19 _ ?_
      refine sB X19 hx (B at_144) rfl rfl ?_
      refine st24 _ ?_
      refine sJ X24 hx (B at_149) rfl ?_
      refine XS.icmpNo X24.here hx rfl (B at_151) rfl (teq cd31).2 ?_
      refine sC X24 hx (B at_154) ?_
      refine XS.goto X24.here hx rfl (pc0 := 155) (pc' := 159) rfl (B at_155) (by decide) (by decide) ?_
      exact retN X24 hx (t := .boolean) hret (by simp) (B at_159) hr
theorem d2_87 : decode Kc2 87 = .ok (.new 33, 3) := by decide +kernel
theorem d2_90 : decode Kc2 90 = .ok (.dup, 1) := by decide +kernel
theorem d2_91 : decode Kc2 91 = .ok (.iconst 4, 1) := by decide +kernel
theorem d2_92 : decode Kc2 92 = .ok (.newarray .char, 2) := by decide +kernel
theorem d2_94 : decode Kc2 94 = .ok (.dup, 1) := by decide +kernel
theorem d2_95 : decode Kc2 95 = .ok (.iconst 0, 1) := by decide +kernel
theorem d2_96 : decode Kc2 96 = .ok (.iload_n 1, 1) := by decide +kernel
theorem d2_97 : decode Kc2 97 = .ok (.castore, 1) := by decide +kernel
theorem d2_98 : decode Kc2 98 = .ok (.dup, 1) := by decide +kernel
theorem d2_99 : decode Kc2 99 = .ok (.iconst 1, 1) := by decide +kernel
theorem d2_100 : decode Kc2 100 = .ok (.iload_n 2, 1) := by decide +kernel
theorem d2_101 : decode Kc2 101 = .ok (.castore, 1) := by decide +kernel
theorem d2_102 : decode Kc2 102 = .ok (.dup, 1) := by decide +kernel
theorem d2_103 : decode Kc2 103 = .ok (.iconst 2, 1) := by decide +kernel
theorem d2_104 : decode Kc2 104 = .ok (.iload_n 3, 1) := by decide +kernel
theorem d2_105 : decode Kc2 105 = .ok (.castore, 1) := by decide +kernel
theorem d2_106 : decode Kc2 106 = .ok (.dup, 1) := by decide +kernel
theorem d2_107 : decode Kc2 107 = .ok (.iconst 3, 1) := by decide +kernel
theorem d2_108 : decode Kc2 108 = .ok (.iload 4, 2) := by decide +kernel
theorem d2_110 : decode Kc2 110 = .ok (.castore, 1) := by decide +kernel
theorem d2_111 : decode Kc2 111 = .ok (.invokespecial 35, 3) := by decide +kernel
theorem ef_b2aa3e (a1 : Addr) (a2 : Addr) (m : MethodId) : entryFrame m #[(.ref a1), (.int 0), (.ref a2), (.int 0), (.int 4)] 7 = mkF m 0 #[.val (.ref a1), .val (.int 0), .val (.ref a2), .val (.int 0), .val (.int 4), .unset, .unset] [] := by first | (simp [entryFrame, mkF, argsToLocals, Value.category]; done) | rfl
abbrev Rm109 : Room := rmk 0 0 0 0
def Q109 (Z : State) (a1 a2 : Addr) (i3 i4 i5 i6 : Int32) (ck7 : ClassId) (h0 : Heap) (n0 : Nat) (v : Option Value) (h : Heap) (L : List Loc) : Prop := v = some (.int 0) ∧ Fr n0 L ∧ h = h0
theorem rm109 (l : Launch) (Z : State) {a0 : Array Value} (hw : OW a0 Z) (a1 a2 : Addr) (i3 i4 i5 i6 : Int32) (ck7 : ClassId) (h0 : Heap) (n0 : Nat) (Z0 : n0 ≤ h0.size) (V_a1 : Arv Z h0 a1 ck7 .char 4 [(.int i3), (.int i4), (.int i5), (.int i6)] (.int 0)) (c8 : 255 < i3) :
    OwnMet l Z y_9 jdk_52_method_21_code 7 (some .int) [] Rm109 #[(.ref a1), (.int 0), (.ref a2), (.int 0), (.int 4)] h0 (Q109 Z a1 a2 i3 i4 i5 i6 ck7 h0 n0) := by
  refine own_body (plainFor_of_name pn_3) (ef_b2aa3e a1 a2) ?_
  intro p e s m below meth c s₁ hx hby hml hown hnm hret hZ X0 e0
  have N0 := Fr.nil n0
  have B := hbx hby
  obtain ⟨cl1, Ar1, q1, S1, M1, Hs1, G1⟩ := id V_a1
  have hin2 := inb_of (j := 0) S1 ⟨by decide, by decide⟩
  refine ⟨s₁, _, _, _, (some (.int 0)), X0, nofun, by decide, by decide, ?_, fun fs hr => ?_⟩
  · rw [e0]
    exact ⟨rfl, N0, rfl⟩
  · refine sC X0 hx (B d11_0) ?_
    refine XS.istore X0.here hx rfl (B d11_1) rfl (l' := #[vr a1, vi 0, vr a2, vi 0, vi 4, vi 0, un]) rfl ?_
    refine sJ X0 hx (B d11_3) rfl ?_
    refine sJ X0 hx (B d11_5) rfl ?_
    refine XS.icmpNo X0.here hx rfl (B d11_7) rfl (tlt (by decide : (0 : Int32) < (4 : Int32))).2.1 ?_
    refine sA X0 hx (B d11_10) rfl rfl ?_
    refine sI X0 hx (B d11_11) rfl ?_
    refine X0.caload hx (j := 0) (v := (.int i3)) (by rw [e0]; exact Ar1.1) (State.isArrayOf_alike hZ.alike Ar1.2.1) Ar1.2.2 hin2 (Has.at Hs1 hin2 rfl) (g := (mkF m 12 #[vr a1, vi 0, vr a2, vi 0, vi 4, vi 0, un] [(.int 0), (.ref a1)])) rfl rfl (B d11_12) _ ?_
    refine XS.istore X0.here hx rfl (B d11_13) rfl (l' := #[vr a1, vi 0, vr a2, vi 0, vi 4, vi 0, vi i3]) rfl ?_
    refine sJ X0 hx (B d11_15) rfl ?_
    refine XS.sipush X0.here hx rfl (B d11_17) ?_
    refine XS.icmpNo X0.here hx rfl (B d11_20) rfl (tlt c8).2.2.2 ?_
    refine sJ X0 hx (B d11_23) rfl ?_
    exact retI X0 hx hret (B d11_25) hr
theorem ef_ec7995  (m : MethodId) : entryFrame m #[(.int 4)] 1 = mkF m 0 #[.val (.int 4)] [] := by first | (simp [entryFrame, mkF, argsToLocals, Value.category]; done) | rfl
abbrev Rm110 : Room := rmk 0 0 0 0
def Q110 (Z : State)  (h0 : Heap) (n0 : Nat) (v : Option Value) (h : Heap) (L : List Loc) : Prop := v = some (.int 8) ∧ Fr n0 L ∧ h = h0
theorem rm110 (l : Launch) (Z : State) {a0 : Array Value} (hw : OW a0 Z)  (h0 : Heap) (n0 : Nat) (Z0 : n0 ≤ h0.size) :
    OwnMet l Z y_10 jdk_52_method_3_code 1 (some .int) [] Rm110 #[(.int 4)] h0 (Q110 Z  h0 n0) := by
  refine own_body (plainFor_of_name pn_3) (ef_ec7995) ?_
  intro p e s m below meth c s₁ hx hby hml hown hnm hret hZ X0 e0
  have N0 := Fr.nil n0
  have B := hbx hby
  refine ⟨s₁, _, _, _, (some (.int 8)), X0, nofun, by decide, by decide, ?_, fun fs hr => ?_⟩
  · rw [e0]
    exact ⟨rfl, N0, rfl⟩
  · refine sI X0 hx (B d14_0) rfl ?_
    refine XS.ifYes X0.here hx rfl (pc0 := 1) (pc' := 12) rfl (B d14_1) rfl ((if0 _ _).trans (flt (by decide : ¬ ((4 : Int32) < (0 : Int32)))).2.1) (by decide) (by decide) ?_
    refine sI X0 hx (B d14_12) rfl ?_
    refine X0.ldcInt hx hown (mvT hZ (w_69 hw)) (g := (mkF m 13 #[vi 4] [(.int 4)])) rfl (B d14_13) _ ?_
    refine XS.icmpYes X0.here hx rfl (pc0 := 15) (pc' := 55) rfl (B d14_15) rfl (tlt (by decide : (4 : Int32) < (1073741823 : Int32))).1 (by decide) (by decide) ?_
    refine sI X0 hx (B d14_55) rfl ?_
    refine sC X0 hx (B d14_56) ?_
    refine XS.ishl X0.here hx rfl (B d14_57) rfl ?_
    exact retI X0 hx hret (B d14_58) hr
abbrev Rm111 : Room := rmk 1 1 8 12
def Q111 (Z : State)  (h0 : Heap) (n0 : Nat) (v : Option Value) (h : Heap) (L : List Loc) : Prop := ∃ b2 : Addr, ∃ k2 : ClassId, v = some (.ref b2) ∧ Fr n0 L ∧ Keep h0 h [] ∧ h0.size ≤ b2 ∧ Exa Z h b2 "[B" ∧ Arv Z h b2 k2 .byte 8 [(.int 0), (.int 0), (.int 0), (.int 0), (.int 0), (.int 0), (.int 0), (.int 0)] (.int 0)
theorem rm111 (l : Launch) (Z : State) {a0 : Array Value} (hw : OW a0 Z)  (h0 : Heap) (n0 : Nat) (Z0 : n0 ≤ h0.size) :
    OwnMet l Z y_11 jdk_52_method_2_code 1 (some (.array .byte)) [] Rm111 #[(.int 4)] h0 (Q111 Z  h0 n0) := by
  refine own_body (plainFor_of_name pn_3) (ef_ec7995) ?_
  intro p e s m below meth c s₁ hx hby hml hown hnm hret hZ X0 e0
  have N0 := Fr.nil n0
  have B := hbx hby
  obtain ⟨_, T1, L1, X1, hQ1, st1⟩ := own_callS X0 hx hZ hown (y := y_10) (w_66 hw) (w_67 hw) (w_55 hw) (w_68 hw) (rm110 l Z hw  h0 n0 Z0) e0 (Ls := #[vi 4]) hml.symm (argsL := [(.int 4)]) (rest := []) (lenOf pd_9 rfl) (B d13_1) (W := 0)
  obtain ⟨rfl, Nq1, e1⟩ := hQ1
  have N1 := Fr.app N0 Nq1
  obtain ⟨T2, h2, k2, X2, e2, E2, A2, B2, st2⟩ := newPE (aty := .byte) X1 hx hZ (w_27 hw) e1 (g := (mkF m 4 #[vi 4] [(.int 8)])) rfl (B d13_4) rfl (by decide) (cap := 8) (by decide) (by decide) (by decide) (by decide) (ad := "[B") (by decide)
  obtain ⟨b2, g2⟩ : ∃ z, z = h0.size := ⟨_, rfl⟩
  rw [← g2] at A2 B2 st2
  have s0 := E2.1
  have Vn2 : Arv Z h2 b2 k2 .byte 8 [(.int 0), (.int 0), (.int 0), (.int 0), (.int 0), (.int 0), (.int 0), (.int 0)] (.int 0) := (Arv.new A2 (by decide)).pad (pad_rep [] (.int 0) 8)
  have sz_b2 : h0.size ≤ b2 := (Nat.le_of_eq g2.symm)
  have Kp0 := (Keep.refl h0 []).ext E2
  refine ⟨T2, _, _, _, (some (.ref b2)), X2, nofun, by decide, by decide, ?_, fun fs hr => ?_⟩
  · rw [e2]
    exact ⟨b2, k2, rfl, N1, Kp0, sz_b2, B2, Vn2⟩
  · refine sI X0 hx (B d13_0) rfl ?_
    refine st1 _ ?_
    refine st2 _ ?_
    exact retOut X2 hx hret rfl (Or.inr (Or.inr (Or.inr (Or.inr ⟨rfl, rfl, rfl⟩)))) (B d13_6) hr
abbrev Rm112 : Room := rmk 0 0 0 0
def Q112 (Z : State) (a1 : Addr) (i2 : Int32) (ck3 : ClassId) (h0 : Heap) (n0 : Nat) (v : Option Value) (h : Heap) (L : List Loc) : Prop := v = none ∧ Fr n0 L ∧ Keep h0 h [a1] ∧ Exa Z h a1 "[B" ∧ Arv Z h a1 ck3 .byte 8 [(.int (nar .byte ((i2 >>> ((0 : Int32) &&& 31)).toInt8.toInt32))), (.int (nar .byte ((i2 >>> ((8 : Int32) &&& 31)).toInt8.toInt32))), (.int 0), (.int 0), (.int 0), (.int 0), (.int 0), (.int 0)] (.int 0)
theorem rm112 (l : Launch) (Z : State) {a0 : Array Value} (hw : OW a0 Z) (a1 : Addr) (i2 : Int32) (ck3 : ClassId) (h0 : Heap) (n0 : Nat) (Z0 : n0 ≤ h0.size) (S__assertionsDisabled : Sta Z Z.heap "java/lang/StringUTF16" "$assertionsDisabled" "Z" (.int 1)) (Od0 : Old Z n0 h0) (S_HI_BYTE_SHIFT : Sta Z Z.heap "java/lang/StringUTF16" "HI_BYTE_SHIFT" "I" (.int 0)) (V_a1 : Arv Z h0 a1 ck3 .byte 8 [(.int 0), (.int 0), (.int 0), (.int 0), (.int 0), (.int 0), (.int 0), (.int 0)] (.int 0)) (g_a1 : n0 ≤ a1) (S_LO_BYTE_SHIFT : Sta Z Z.heap "java/lang/StringUTF16" "LO_BYTE_SHIFT" "I" (.int 8)) (E_a1 : Exa Z h0 a1 "[B") :
    OwnMet l Z y_12 jdk_52_method_4_code 3 none [] Rm112 #[(.ref a1), (.int 0), (.int i2)] h0 (Q112 Z a1 i2 ck3 h0 n0) := by
  refine own_body (plainFor_of_name pn_3) (ef_3f9849 a1 i2) ?_
  intro p e s m below meth c s₁ hx hby hml hown hnm hret hZ X0 e0
  have N0 := Fr.nil n0
  have B := hbx hby
  obtain ⟨T1, X1, e1, st1⟩ := getS2 X0 hx hZ hown (host := "") (Or.inl (w_73 hw)) Via.refl e0 (S__assertionsDisabled.ext Od0.2) (g := (mkF m 0 #[vr a1, vi 0, vi i2] [])) rfl (B d15_0)
  obtain ⟨T2, X2, e2, st2⟩ := getS2 X1 hx hZ hown (host := "") (Or.inl (w_74 hw)) Via.refl e1 (S_HI_BYTE_SHIFT.ext Od0.2) (g := (mkF m 38 #[vr a1, vi 1, vi i2] [(.int i2), (.int 0), (.ref a1)])) rfl (B d15_38)
  obtain ⟨cl3, Ar3, q3, S3, M3, Hs3, G3⟩ := id V_a1
  have hin4 := inb_of (j := 0) S3 ⟨by decide, by decide⟩
  obtain ⟨T5, h5, X5, e5, W5, st5⟩ := stB X2 hx hZ e2 Ar3 (j := 0) hin4 (g := (mkF m 43 #[vr a1, vi 1, vi i2] [(.int ((i2 >>> ((0 : Int32) &&& 31)).toInt8.toInt32)), (.int 0), (.ref a1)])) rfl rfl (B d15_43)
  have s0 := (Keep.of_wr W5).1
  have N5 := Fr.snoc X5 N0 g_a1
  have Vs5 : Arv Z h5 a1 ck3 .byte 8 [(.int (nar .byte ((i2 >>> ((0 : Int32) &&& 31)).toInt8.toInt32))), (.int 0), (.int 0), (.int 0), (.int 0), (.int 0), (.int 0), (.int 0)] (.int 0) := Arv.set Ar3 q3 S3 M3 Hs3 G3 (fits_nar_byte _) W5 0 rfl (nl rfl)
  have Od1 := Od0.wr W5 g_a1
  obtain ⟨T6, X6, e6, st6⟩ := getS2 X5 hx hZ hown (host := "") (Or.inl (w_75 hw)) Via.refl e5 (S_LO_BYTE_SHIFT.ext Od1.2) (g := (mkF m 47 #[vr a1, vi 1, vi i2] [(.int i2), (.int 1), (.ref a1)])) rfl (B d15_47)
  obtain ⟨cl7, Ar7, q7, S7, M7, Hs7, G7⟩ := id Vs5
  have hin8 := inb_of (j := 1) S7 ⟨by decide, by decide⟩
  obtain ⟨T9, h9, X9, e9, W9, st9⟩ := stB X6 hx hZ e6 Ar7 (j := 1) hin8 (g := (mkF m 52 #[vr a1, vi 1, vi i2] [(.int ((i2 >>> ((8 : Int32) &&& 31)).toInt8.toInt32)), (.int 1), (.ref a1)])) rfl rfl (B d15_52)
  have s1 := (Keep.of_wr W9).1
  have N9 := Fr.snoc X9 N5 g_a1
  have Vs9 : Arv Z h9 a1 ck3 .byte 8 [(.int (nar .byte ((i2 >>> ((0 : Int32) &&& 31)).toInt8.toInt32))), (.int (nar .byte ((i2 >>> ((8 : Int32) &&& 31)).toInt8.toInt32))), (.int 0), (.int 0), (.int 0), (.int 0), (.int 0), (.int 0)] (.int 0) := Arv.set Ar7 q7 S7 M7 Hs7 G7 (fits_nar_byte _) W9 1 rfl (nl rfl)
  have Ex10 := ((E_a1.wr W5).wr W9)
  have Kp0 := (Keep.refl h0 [a1]).wr W5 own_m0
  have Kp1 := Kp0.wr W9 own_m0
  refine ⟨T9, _, _, _, none, X9, (fun _ => rfl), by decide, by decide, ?_, fun fs hr => ?_⟩
  · rw [e9]
    exact ⟨rfl, N9, Kp1, Ex10, Vs9⟩
  · refine st1 _ ?_
    refine XS.ifYes X1.here hx rfl (pc0 := 3) (pc' := 28) rfl (B d15_3) rfl ((if0 _ _).trans (feq (by decide : ¬ ((1 : Int32) = (0 : Int32)))).2) (by decide) (by decide) ?_
    refine sI X1 hx (B d15_28) rfl ?_
    refine sC X1 hx (B d15_29) ?_
    refine XS.ishl X1.here hx rfl (B d15_30) rfl ?_
    refine XS.istoreN X1.here hx rfl (B d15_31) rfl (l' := #[vr a1, vi 0, vi i2]) rfl ?_
    refine sA X1 hx (B d15_32) rfl rfl ?_
    refine sI X1 hx (B d15_33) rfl ?_
    refine XS.iinc X1.here hx rfl (B d15_34) rfl (l' := #[vr a1, vi 1, vi i2]) rfl ?_
    refine sI X1 hx (B d15_37) rfl ?_
    refine st2 _ ?_
    refine XS.ishr X2.here hx rfl (B d15_41) rfl ?_
    refine XS.i2b X2.here hx rfl (B d15_42) rfl ?_
    refine st5 _ ?_
    refine sA X5 hx (B d15_44) rfl rfl ?_
    refine sI X5 hx (B d15_45) rfl ?_
    refine sI X5 hx (B d15_46) rfl ?_
    refine st6 _ ?_
    refine XS.ishr X6.here hx rfl (B d15_50) rfl ?_
    refine XS.i2b X6.here hx rfl (B d15_51) rfl ?_
    refine st9 _ ?_
    exact X9.returnOut hx hret (B d15_53) hr
abbrev Rm113 : Room := rmk 0 0 0 0
def Q113 (Z : State) (a1 : Addr) (i2 i3 i4 : Int32) (ck5 : ClassId) (h0 : Heap) (n0 : Nat) (v : Option Value) (h : Heap) (L : List Loc) : Prop := v = none ∧ Fr n0 L ∧ Keep h0 h [a1] ∧ Exa Z h a1 "[B" ∧ Arv Z h a1 ck5 .byte 8 [(.int i3), (.int i4), (.int (nar .byte ((i2 >>> ((0 : Int32) &&& 31)).toInt8.toInt32))), (.int (nar .byte ((i2 >>> ((8 : Int32) &&& 31)).toInt8.toInt32))), (.int 0), (.int 0), (.int 0), (.int 0)] (.int 0)
theorem rm113 (l : Launch) (Z : State) {a0 : Array Value} (hw : OW a0 Z) (a1 : Addr) (i2 i3 i4 : Int32) (ck5 : ClassId) (h0 : Heap) (n0 : Nat) (Z0 : n0 ≤ h0.size) (S__assertionsDisabled : Sta Z Z.heap "java/lang/StringUTF16" "$assertionsDisabled" "Z" (.int 1)) (Od0 : Old Z n0 h0) (S_HI_BYTE_SHIFT : Sta Z Z.heap "java/lang/StringUTF16" "HI_BYTE_SHIFT" "I" (.int 0)) (V_a1 : Arv Z h0 a1 ck5 .byte 8 [(.int i3), (.int i4), (.int 0), (.int 0), (.int 0), (.int 0), (.int 0), (.int 0)] (.int 0)) (g_a1 : n0 ≤ a1) (S_LO_BYTE_SHIFT : Sta Z Z.heap "java/lang/StringUTF16" "LO_BYTE_SHIFT" "I" (.int 8)) (E_a1 : Exa Z h0 a1 "[B") :
    OwnMet l Z y_12 jdk_52_method_4_code 3 none [] Rm113 #[(.ref a1), (.int 1), (.int i2)] h0 (Q113 Z a1 i2 i3 i4 ck5 h0 n0) := by
  refine own_body (plainFor_of_name pn_3) (ef_6ab81b a1 i2) ?_
  intro p e s m below meth c s₁ hx hby hml hown hnm hret hZ X0 e0
  have N0 := Fr.nil n0
  have B := hbx hby
  obtain ⟨T1, X1, e1, st1⟩ := getS2 X0 hx hZ hown (host := "") (Or.inl (w_73 hw)) Via.refl e0 (S__assertionsDisabled.ext Od0.2) (g := (mkF m 0 #[vr a1, vi 1, vi i2] [])) rfl (B d15_0)
  obtain ⟨T2, X2, e2, st2⟩ := getS2 X1 hx hZ hown (host := "") (Or.inl (w_74 hw)) Via.refl e1 (S_HI_BYTE_SHIFT.ext Od0.2) (g := (mkF m 38 #[vr a1, vi 3, vi i2] [(.int i2), (.int 2), (.ref a1)])) rfl (B d15_38)
  obtain ⟨cl3, Ar3, q3, S3, M3, Hs3, G3⟩ := id V_a1
  have hin4 := inb_of (j := 2) S3 ⟨by decide, by decide⟩
  obtain ⟨T5, h5, X5, e5, W5, st5⟩ := stB X2 hx hZ e2 Ar3 (j := 2) hin4 (g := (mkF m 43 #[vr a1, vi 3, vi i2] [(.int ((i2 >>> ((0 : Int32) &&& 31)).toInt8.toInt32)), (.int 2), (.ref a1)])) rfl rfl (B d15_43)
  have s0 := (Keep.of_wr W5).1
  have N5 := Fr.snoc X5 N0 g_a1
  have Vs5 : Arv Z h5 a1 ck5 .byte 8 [(.int i3), (.int i4), (.int (nar .byte ((i2 >>> ((0 : Int32) &&& 31)).toInt8.toInt32))), (.int 0), (.int 0), (.int 0), (.int 0), (.int 0)] (.int 0) := Arv.set Ar3 q3 S3 M3 Hs3 G3 (fits_nar_byte _) W5 2 rfl (nl rfl)
  have Od1 := Od0.wr W5 g_a1
  obtain ⟨T6, X6, e6, st6⟩ := getS2 X5 hx hZ hown (host := "") (Or.inl (w_75 hw)) Via.refl e5 (S_LO_BYTE_SHIFT.ext Od1.2) (g := (mkF m 47 #[vr a1, vi 3, vi i2] [(.int i2), (.int 3), (.ref a1)])) rfl (B d15_47)
  obtain ⟨cl7, Ar7, q7, S7, M7, Hs7, G7⟩ := id Vs5
  have hin8 := inb_of (j := 3) S7 ⟨by decide, by decide⟩
  obtain ⟨T9, h9, X9, e9, W9, st9⟩ := stB X6 hx hZ e6 Ar7 (j := 3) hin8 (g := (mkF m 52 #[vr a1, vi 3, vi i2] [(.int ((i2 >>> ((8 : Int32) &&& 31)).toInt8.toInt32)), (.int 3), (.ref a1)])) rfl rfl (B d15_52)
  have s1 := (Keep.of_wr W9).1
  have N9 := Fr.snoc X9 N5 g_a1
  have Vs9 : Arv Z h9 a1 ck5 .byte 8 [(.int i3), (.int i4), (.int (nar .byte ((i2 >>> ((0 : Int32) &&& 31)).toInt8.toInt32))), (.int (nar .byte ((i2 >>> ((8 : Int32) &&& 31)).toInt8.toInt32))), (.int 0), (.int 0), (.int 0), (.int 0)] (.int 0) := Arv.set Ar7 q7 S7 M7 Hs7 G7 (fits_nar_byte _) W9 3 rfl (nl rfl)
  have Ex10 := ((E_a1.wr W5).wr W9)
  have Kp0 := (Keep.refl h0 [a1]).wr W5 own_m0
  have Kp1 := Kp0.wr W9 own_m0
  refine ⟨T9, _, _, _, none, X9, (fun _ => rfl), by decide, by decide, ?_, fun fs hr => ?_⟩
  · rw [e9]
    exact ⟨rfl, N9, Kp1, Ex10, Vs9⟩
  · refine st1 _ ?_
    refine XS.ifYes X1.here hx rfl (pc0 := 3) (pc' := 28) rfl (B d15_3) rfl ((if0 _ _).trans (feq (by decide : ¬ ((1 : Int32) = (0 : Int32)))).2) (by decide) (by decide) ?_
    refine sI X1 hx (B d15_28) rfl ?_
    refine sC X1 hx (B d15_29) ?_
    refine XS.ishl X1.here hx rfl (B d15_30) rfl ?_
    refine XS.istoreN X1.here hx rfl (B d15_31) rfl (l' := #[vr a1, vi 2, vi i2]) rfl ?_
    refine sA X1 hx (B d15_32) rfl rfl ?_
    refine sI X1 hx (B d15_33) rfl ?_
    refine XS.iinc X1.here hx rfl (B d15_34) rfl (l' := #[vr a1, vi 3, vi i2]) rfl ?_
    refine sI X1 hx (B d15_37) rfl ?_
    refine st2 _ ?_
    refine XS.ishr X2.here hx rfl (B d15_41) rfl ?_
    refine XS.i2b X2.here hx rfl (B d15_42) rfl ?_
    refine st5 _ ?_
    refine sA X5 hx (B d15_44) rfl rfl ?_
    refine sI X5 hx (B d15_45) rfl ?_
    refine sI X5 hx (B d15_46) rfl ?_
    refine st6 _ ?_
    refine XS.ishr X6.here hx rfl (B d15_50) rfl ?_
    refine XS.i2b X6.here hx rfl (B d15_51) rfl ?_
    refine st9 _ ?_
    exact X9.returnOut hx hret (B d15_53) hr
abbrev Rm114 : Room := rmk 0 0 0 0
def Q114 (Z : State) (a1 : Addr) (i2 i3 i4 i5 i6 : Int32) (ck7 : ClassId) (h0 : Heap) (n0 : Nat) (v : Option Value) (h : Heap) (L : List Loc) : Prop := v = none ∧ Fr n0 L ∧ Keep h0 h [a1] ∧ Exa Z h a1 "[B" ∧ Arv Z h a1 ck7 .byte 8 [(.int i3), (.int i4), (.int i5), (.int i6), (.int (nar .byte ((i2 >>> ((0 : Int32) &&& 31)).toInt8.toInt32))), (.int (nar .byte ((i2 >>> ((8 : Int32) &&& 31)).toInt8.toInt32))), (.int 0), (.int 0)] (.int 0)
theorem rm114 (l : Launch) (Z : State) {a0 : Array Value} (hw : OW a0 Z) (a1 : Addr) (i2 i3 i4 i5 i6 : Int32) (ck7 : ClassId) (h0 : Heap) (n0 : Nat) (Z0 : n0 ≤ h0.size) (S__assertionsDisabled : Sta Z Z.heap "java/lang/StringUTF16" "$assertionsDisabled" "Z" (.int 1)) (Od0 : Old Z n0 h0) (S_HI_BYTE_SHIFT : Sta Z Z.heap "java/lang/StringUTF16" "HI_BYTE_SHIFT" "I" (.int 0)) (V_a1 : Arv Z h0 a1 ck7 .byte 8 [(.int i3), (.int i4), (.int i5), (.int i6), (.int 0), (.int 0), (.int 0), (.int 0)] (.int 0)) (g_a1 : n0 ≤ a1) (S_LO_BYTE_SHIFT : Sta Z Z.heap "java/lang/StringUTF16" "LO_BYTE_SHIFT" "I" (.int 8)) (E_a1 : Exa Z h0 a1 "[B") :
    OwnMet l Z y_12 jdk_52_method_4_code 3 none [] Rm114 #[(.ref a1), (.int 2), (.int i2)] h0 (Q114 Z a1 i2 i3 i4 i5 i6 ck7 h0 n0) := by
  refine own_body (plainFor_of_name pn_3) (ef_ca8b96 a1 i2) ?_
  intro p e s m below meth c s₁ hx hby hml hown hnm hret hZ X0 e0
  have N0 := Fr.nil n0
  have B := hbx hby
  obtain ⟨T1, X1, e1, st1⟩ := getS2 X0 hx hZ hown (host := "") (Or.inl (w_73 hw)) Via.refl e0 (S__assertionsDisabled.ext Od0.2) (g := (mkF m 0 #[vr a1, vi 2, vi i2] [])) rfl (B d15_0)
  obtain ⟨T2, X2, e2, st2⟩ := getS2 X1 hx hZ hown (host := "") (Or.inl (w_74 hw)) Via.refl e1 (S_HI_BYTE_SHIFT.ext Od0.2) (g := (mkF m 38 #[vr a1, vi 5, vi i2] [(.int i2), (.int 4), (.ref a1)])) rfl (B d15_38)
  obtain ⟨cl3, Ar3, q3, S3, M3, Hs3, G3⟩ := id V_a1
  have hin4 := inb_of (j := 4) S3 ⟨by decide, by decide⟩
  obtain ⟨T5, h5, X5, e5, W5, st5⟩ := stB X2 hx hZ e2 Ar3 (j := 4) hin4 (g := (mkF m 43 #[vr a1, vi 5, vi i2] [(.int ((i2 >>> ((0 : Int32) &&& 31)).toInt8.toInt32)), (.int 4), (.ref a1)])) rfl rfl (B d15_43)
  have s0 := (Keep.of_wr W5).1
  have N5 := Fr.snoc X5 N0 g_a1
  have Vs5 : Arv Z h5 a1 ck7 .byte 8 [(.int i3), (.int i4), (.int i5), (.int i6), (.int (nar .byte ((i2 >>> ((0 : Int32) &&& 31)).toInt8.toInt32))), (.int 0), (.int 0), (.int 0)] (.int 0) := Arv.set Ar3 q3 S3 M3 Hs3 G3 (fits_nar_byte _) W5 4 rfl (nl rfl)
  have Od1 := Od0.wr W5 g_a1
  obtain ⟨T6, X6, e6, st6⟩ := getS2 X5 hx hZ hown (host := "") (Or.inl (w_75 hw)) Via.refl e5 (S_LO_BYTE_SHIFT.ext Od1.2) (g := (mkF m 47 #[vr a1, vi 5, vi i2] [(.int i2), (.int 5), (.ref a1)])) rfl (B d15_47)
  obtain ⟨cl7, Ar7, q7, S7, M7, Hs7, G7⟩ := id Vs5
  have hin8 := inb_of (j := 5) S7 ⟨by decide, by decide⟩
  obtain ⟨T9, h9, X9, e9, W9, st9⟩ := stB X6 hx hZ e6 Ar7 (j := 5) hin8 (g := (mkF m 52 #[vr a1, vi 5, vi i2] [(.int ((i2 >>> ((8 : Int32) &&& 31)).toInt8.toInt32)), (.int 5), (.ref a1)])) rfl rfl (B d15_52)
  have s1 := (Keep.of_wr W9).1
  have N9 := Fr.snoc X9 N5 g_a1
  have Vs9 : Arv Z h9 a1 ck7 .byte 8 [(.int i3), (.int i4), (.int i5), (.int i6), (.int (nar .byte ((i2 >>> ((0 : Int32) &&& 31)).toInt8.toInt32))), (.int (nar .byte ((i2 >>> ((8 : Int32) &&& 31)).toInt8.toInt32))), (.int 0), (.int 0)] (.int 0) := Arv.set Ar7 q7 S7 M7 Hs7 G7 (fits_nar_byte _) W9 5 rfl (nl rfl)
  have Ex10 := ((E_a1.wr W5).wr W9)
  have Kp0 := (Keep.refl h0 [a1]).wr W5 own_m0
  have Kp1 := Kp0.wr W9 own_m0
  refine ⟨T9, _, _, _, none, X9, (fun _ => rfl), by decide, by decide, ?_, fun fs hr => ?_⟩
  · rw [e9]
    exact ⟨rfl, N9, Kp1, Ex10, Vs9⟩
  · refine st1 _ ?_
    refine XS.ifYes X1.here hx rfl (pc0 := 3) (pc' := 28) rfl (B d15_3) rfl ((if0 _ _).trans (feq (by decide : ¬ ((1 : Int32) = (0 : Int32)))).2) (by decide) (by decide) ?_
    refine sI X1 hx (B d15_28) rfl ?_
    refine sC X1 hx (B d15_29) ?_
    refine XS.ishl X1.here hx rfl (B d15_30) rfl ?_
    refine XS.istoreN X1.here hx rfl (B d15_31) rfl (l' := #[vr a1, vi 4, vi i2]) rfl ?_
    refine sA X1 hx (B d15_32) rfl rfl ?_
    refine sI X1 hx (B d15_33) rfl ?_
    refine XS.iinc X1.here hx rfl (B d15_34) rfl (l' := #[vr a1, vi 5, vi i2]) rfl ?_
    refine sI X1 hx (B d15_37) rfl ?_
    refine st2 _ ?_
    refine XS.ishr X2.here hx rfl (B d15_41) rfl ?_
    refine XS.i2b X2.here hx rfl (B d15_42) rfl ?_
    refine st5 _ ?_
    refine sA X5 hx (B d15_44) rfl rfl ?_
    refine sI X5 hx (B d15_45) rfl ?_
    refine sI X5 hx (B d15_46) rfl ?_
    refine st6 _ ?_
    refine XS.ishr X6.here hx rfl (B d15_50) rfl ?_
    refine XS.i2b X6.here hx rfl (B d15_51) rfl ?_
    refine st9 _ ?_
    exact X9.returnOut hx hret (B d15_53) hr
theorem ef_c3d9db (a1 : Addr) (i2 : Int32) (m : MethodId) : entryFrame m #[(.ref a1), (.int 3), (.int i2)] 3 = mkF m 0 #[.val (.ref a1), .val (.int 3), .val (.int i2)] [] := by first | (simp [entryFrame, mkF, argsToLocals, Value.category]; done) | rfl
abbrev Rm115 : Room := rmk 0 0 0 0
def Q115 (Z : State) (a1 : Addr) (i2 i3 i4 i5 i6 i7 i8 : Int32) (ck9 : ClassId) (h0 : Heap) (n0 : Nat) (v : Option Value) (h : Heap) (L : List Loc) : Prop := v = none ∧ Fr n0 L ∧ Keep h0 h [a1] ∧ Exa Z h a1 "[B" ∧ Arv Z h a1 ck9 .byte 8 [(.int i3), (.int i4), (.int i5), (.int i6), (.int i7), (.int i8), (.int (nar .byte ((i2 >>> ((0 : Int32) &&& 31)).toInt8.toInt32))), (.int (nar .byte ((i2 >>> ((8 : Int32) &&& 31)).toInt8.toInt32)))] (.int 0)
theorem rm115 (l : Launch) (Z : State) {a0 : Array Value} (hw : OW a0 Z) (a1 : Addr) (i2 i3 i4 i5 i6 i7 i8 : Int32) (ck9 : ClassId) (h0 : Heap) (n0 : Nat) (Z0 : n0 ≤ h0.size) (S__assertionsDisabled : Sta Z Z.heap "java/lang/StringUTF16" "$assertionsDisabled" "Z" (.int 1)) (Od0 : Old Z n0 h0) (S_HI_BYTE_SHIFT : Sta Z Z.heap "java/lang/StringUTF16" "HI_BYTE_SHIFT" "I" (.int 0)) (V_a1 : Arv Z h0 a1 ck9 .byte 8 [(.int i3), (.int i4), (.int i5), (.int i6), (.int i7), (.int i8), (.int 0), (.int 0)] (.int 0)) (g_a1 : n0 ≤ a1) (S_LO_BYTE_SHIFT : Sta Z Z.heap "java/lang/StringUTF16" "LO_BYTE_SHIFT" "I" (.int 8)) (E_a1 : Exa Z h0 a1 "[B") :
    OwnMet l Z y_12 jdk_52_method_4_code 3 none [] Rm115 #[(.ref a1), (.int 3), (.int i2)] h0 (Q115 Z a1 i2 i3 i4 i5 i6 i7 i8 ck9 h0 n0) := by
  refine own_body (plainFor_of_name pn_3) (ef_c3d9db a1 i2) ?_
  intro p e s m below meth c s₁ hx hby hml hown hnm hret hZ X0 e0
  have N0 := Fr.nil n0
  have B := hbx hby
  obtain ⟨T1, X1, e1, st1⟩ := getS2 X0 hx hZ hown (host := "") (Or.inl (w_73 hw)) Via.refl e0 (S__assertionsDisabled.ext Od0.2) (g := (mkF m 0 #[vr a1, vi 3, vi i2] [])) rfl (B d15_0)
  obtain ⟨T2, X2, e2, st2⟩ := getS2 X1 hx hZ hown (host := "") (Or.inl (w_74 hw)) Via.refl e1 (S_HI_BYTE_SHIFT.ext Od0.2) (g := (mkF m 38 #[vr a1, vi 7, vi i2] [(.int i2), (.int 6), (.ref a1)])) rfl (B d15_38)
  obtain ⟨cl3, Ar3, q3, S3, M3, Hs3, G3⟩ := id V_a1
  have hin4 := inb_of (j := 6) S3 ⟨by decide, by decide⟩
  obtain ⟨T5, h5, X5, e5, W5, st5⟩ := stB X2 hx hZ e2 Ar3 (j := 6) hin4 (g := (mkF m 43 #[vr a1, vi 7, vi i2] [(.int ((i2 >>> ((0 : Int32) &&& 31)).toInt8.toInt32)), (.int 6), (.ref a1)])) rfl rfl (B d15_43)
  have s0 := (Keep.of_wr W5).1
  have N5 := Fr.snoc X5 N0 g_a1
  have Vs5 : Arv Z h5 a1 ck9 .byte 8 [(.int i3), (.int i4), (.int i5), (.int i6), (.int i7), (.int i8), (.int (nar .byte ((i2 >>> ((0 : Int32) &&& 31)).toInt8.toInt32))), (.int 0)] (.int 0) := Arv.set Ar3 q3 S3 M3 Hs3 G3 (fits_nar_byte _) W5 6 rfl (nl rfl)
  have Od1 := Od0.wr W5 g_a1
  obtain ⟨T6, X6, e6, st6⟩ := getS2 X5 hx hZ hown (host := "") (Or.inl (w_75 hw)) Via.refl e5 (S_LO_BYTE_SHIFT.ext Od1.2) (g := (mkF m 47 #[vr a1, vi 7, vi i2] [(.int i2), (.int 7), (.ref a1)])) rfl (B d15_47)
  obtain ⟨cl7, Ar7, q7, S7, M7, Hs7, G7⟩ := id Vs5
  have hin8 := inb_of (j := 7) S7 ⟨by decide, by decide⟩
  obtain ⟨T9, h9, X9, e9, W9, st9⟩ := stB X6 hx hZ e6 Ar7 (j := 7) hin8 (g := (mkF m 52 #[vr a1, vi 7, vi i2] [(.int ((i2 >>> ((8 : Int32) &&& 31)).toInt8.toInt32)), (.int 7), (.ref a1)])) rfl rfl (B d15_52)
  have s1 := (Keep.of_wr W9).1
  have N9 := Fr.snoc X9 N5 g_a1
  have Vs9 : Arv Z h9 a1 ck9 .byte 8 [(.int i3), (.int i4), (.int i5), (.int i6), (.int i7), (.int i8), (.int (nar .byte ((i2 >>> ((0 : Int32) &&& 31)).toInt8.toInt32))), (.int (nar .byte ((i2 >>> ((8 : Int32) &&& 31)).toInt8.toInt32)))] (.int 0) := Arv.set Ar7 q7 S7 M7 Hs7 G7 (fits_nar_byte _) W9 7 rfl (nl rfl)
  have Ex10 := ((E_a1.wr W5).wr W9)
  have Kp0 := (Keep.refl h0 [a1]).wr W5 own_m0
  have Kp1 := Kp0.wr W9 own_m0
  refine ⟨T9, _, _, _, none, X9, (fun _ => rfl), by decide, by decide, ?_, fun fs hr => ?_⟩
  · rw [e9]
    exact ⟨rfl, N9, Kp1, Ex10, Vs9⟩
  · refine st1 _ ?_
    refine XS.ifYes X1.here hx rfl (pc0 := 3) (pc' := 28) rfl (B d15_3) rfl ((if0 _ _).trans (feq (by decide : ¬ ((1 : Int32) = (0 : Int32)))).2) (by decide) (by decide) ?_
    refine sI X1 hx (B d15_28) rfl ?_
    refine sC X1 hx (B d15_29) ?_
    refine XS.ishl X1.here hx rfl (B d15_30) rfl ?_
    refine XS.istoreN X1.here hx rfl (B d15_31) rfl (l' := #[vr a1, vi 6, vi i2]) rfl ?_
    refine sA X1 hx (B d15_32) rfl rfl ?_
    refine sI X1 hx (B d15_33) rfl ?_
    refine XS.iinc X1.here hx rfl (B d15_34) rfl (l' := #[vr a1, vi 7, vi i2]) rfl ?_
    refine sI X1 hx (B d15_37) rfl ?_
    refine st2 _ ?_
    refine XS.ishr X2.here hx rfl (B d15_41) rfl ?_
    refine XS.i2b X2.here hx rfl (B d15_42) rfl ?_
    refine st5 _ ?_
    refine sA X5 hx (B d15_44) rfl rfl ?_
    refine sI X5 hx (B d15_45) rfl ?_
    refine sI X5 hx (B d15_46) rfl ?_
    refine st6 _ ?_
    refine XS.ishr X6.here hx rfl (B d15_50) rfl ?_
    refine XS.i2b X6.here hx rfl (B d15_51) rfl ?_
    refine st9 _ ?_
    exact X9.returnOut hx hret (B d15_53) hr
theorem ef_39a2d8 (a1 : Addr) (m : MethodId) : entryFrame m #[(.ref a1), (.int 0), (.int 4)] 5 = mkF m 0 #[.val (.ref a1), .val (.int 0), .val (.int 4), .unset, .unset] [] := by first | (simp [entryFrame, mkF, argsToLocals, Value.category]; done) | rfl
abbrev Rm116 : Room := rmk 2 1 8 24
def Q116 (Z : State) (a1 : Addr) (i2 i3 i4 i5 : Int32) (ck6 : ClassId) (h0 : Heap) (n0 : Nat) (v : Option Value) (h : Heap) (L : List Loc) : Prop := ∃ b1_0 : Addr, ∃ k1_1 : ClassId, v = some (.ref b1_0) ∧ Fr n0 L ∧ Keep h0 h [] ∧ h0.size ≤ b1_0 ∧ Exa Z h b1_0 "[B" ∧ Arv Z h b1_0 k1_1 .byte 8 [(.int (nar .byte ((i2 >>> ((0 : Int32) &&& 31)).toInt8.toInt32))), (.int (nar .byte ((i2 >>> ((8 : Int32) &&& 31)).toInt8.toInt32))), (.int (nar .byte ((i3 >>> ((0 : Int32) &&& 31)).toInt8.toInt32))), (.int (nar .byte ((i3 >>> ((8 : Int32) &&& 31)).toInt8.toInt32))), (.int (nar .byte ((i4 >>> ((0 : Int32) &&& 31)).toInt8.toInt32))), (.int (nar .byte ((i4 >>> ((8 : Int32) &&& 31)).toInt8.toInt32))), (.int (nar .byte ((i5 >>> ((0 : Int32) &&& 31)).toInt8.toInt32))), (.int (nar .byte ((i5 >>> ((8 : Int32) &&& 31)).toInt8.toInt32)))] (.int 0)
theorem rm116 (l : Launch) (Z : State) {a0 : Array Value} (hw : OW a0 Z) (a1 : Addr) (i2 i3 i4 i5 : Int32) (ck6 : ClassId) (h0 : Heap) (n0 : Nat) (Z0 : n0 ≤ h0.size) (V_a1 : Arv Z h0 a1 ck6 .char 4 [(.int i2), (.int i3), (.int i4), (.int i5)] (.int 0)) (S__assertionsDisabled : Sta Z Z.heap "java/lang/StringUTF16" "$assertionsDisabled" "Z" (.int 1)) (Od0 : Old Z n0 h0) (S_HI_BYTE_SHIFT : Sta Z Z.heap "java/lang/StringUTF16" "HI_BYTE_SHIFT" "I" (.int 0)) (S_LO_BYTE_SHIFT : Sta Z Z.heap "java/lang/StringUTF16" "LO_BYTE_SHIFT" "I" (.int 8)) :
    OwnMet l Z y_13 jdk_52_method_14_code 5 (some (.array .byte)) [] Rm116 #[(.ref a1), (.int 0), (.int 4)] h0 (Q116 Z a1 i2 i3 i4 i5 ck6 h0 n0) := by
  refine own_body (plainFor_of_name pn_3) (ef_39a2d8 a1) ?_
  intro p e s m below meth c s₁ hx hby hml hown hnm hret hZ X0 e0
  have N0 := Fr.nil n0
  have B := hbx hby
  obtain ⟨_, T1, L1, X1, hQ1, st1⟩ := own_callS X0 hx hZ hown (y := y_11) (w_63 hw) (w_64 hw) (w_55 hw) (w_65 hw) (rm111 l Z hw  h0 n0 Z0) e0 (Ls := #[vr a1, vi 0, vi 4, un, un]) hml.symm (argsL := [(.int 4)]) (rest := []) (lenOf pd_10 rfl) (B d12_1) (W := 0)
  obtain ⟨b1_0, k1_1, rfl, Nq1, K1, o1_0, o1_1, o1_2⟩ := hQ1
  have N1 := Fr.app N0 Nq1
  have s0 := K1.1
  have Va2 := (V_a1.keep K1 nin0)
  obtain ⟨cl3, Ar3, q3, S3, M3, Hs3, G3⟩ := id Va2
  have hin4 := inb_of (j := 0) S3 ⟨by decide, by decide⟩
  have Od1 := Od0.keep K1 all0
  have g_b1_0 : n0 ≤ b1_0 := Nat.le_trans Z0 o1_0
  have z1 := Nat.le_trans Z0 s0
  obtain ⟨_, T5, L5, X5, hQ5, st5⟩ := own_callS X1 hx hZ hown (y := y_12) (w_70 hw) (w_71 hw) (w_55 hw) (w_72 hw) (rm112 l Z hw b1_0 i2 k1_1 T1.heap n0 z1 S__assertionsDisabled Od1 S_HI_BYTE_SHIFT o1_2 g_b1_0 S_LO_BYTE_SHIFT o1_1) rfl (Ls := #[vr a1, vi 0, vi 4, vr b1_0, vi 0]) hml.symm (argsL := [(.ref b1_0), (.int 0), (.int i2)]) (rest := []) (lenOf pd_11 rfl) (B d12_20) (W := 0)
  obtain ⟨rfl, Nq5, K5, o5_0, o5_1⟩ := hQ5
  have N5 := Fr.app N1 Nq5
  have s1 := K5.1
  have ne_a1_b1_0 := Nat.ne_of_lt (Nat.lt_of_lt_of_le V_a1.lt o1_0)
  have Va6 := (Va2.keep K5 (ninS ne_a1_b1_0 nin0))
  obtain ⟨cl7, Ar7, q7, S7, M7, Hs7, G7⟩ := id Va6
  have hin8 := inb_of (j := 1) S7 ⟨by decide, by decide⟩
  have Od2 := Od1.keep K5 (allS g_b1_0 all0)
  have z2 := Nat.le_trans Z0 (Nat.le_trans s0 s1)
  obtain ⟨_, T9, L9, X9, hQ9, st9⟩ := own_callS X5 hx hZ hown (y := y_12) (w_70 hw) (w_71 hw) (w_55 hw) (w_72 hw) (rm113 l Z hw b1_0 i3 (nar .byte ((i2 >>> ((0 : Int32) &&& 31)).toInt8.toInt32)) (nar .byte ((i2 >>> ((8 : Int32) &&& 31)).toInt8.toInt32)) k1_1 T5.heap n0 z2 S__assertionsDisabled Od2 S_HI_BYTE_SHIFT o5_1 g_b1_0 S_LO_BYTE_SHIFT o5_0) rfl (Ls := #[vr a1, vi 1, vi 4, vr b1_0, vi 1]) hml.symm (argsL := [(.ref b1_0), (.int 1), (.int i3)]) (rest := []) (lenOf pd_11 rfl) (B d12_20) (W := 0)
  obtain ⟨rfl, Nq9, K9, o9_0, o9_1⟩ := hQ9
  have N9 := Fr.app N5 Nq9
  have s2 := K9.1
  have Va10 := (Va6.keep K9 (ninS ne_a1_b1_0 nin0))
  obtain ⟨cl11, Ar11, q11, S11, M11, Hs11, G11⟩ := id Va10
  have hin12 := inb_of (j := 2) S11 ⟨by decide, by decide⟩
  have Od3 := Od2.keep K9 (allS g_b1_0 all0)
  have z3 := Nat.le_trans Z0 (Nat.le_trans (Nat.le_trans s0 s1) s2)
  obtain ⟨_, T13, L13, X13, hQ13, st13⟩ := own_callS X9 hx hZ hown (y := y_12) (w_70 hw) (w_71 hw) (w_55 hw) (w_72 hw) (rm114 l Z hw b1_0 i4 (nar .byte ((i2 >>> ((0 : Int32) &&& 31)).toInt8.toInt32)) (nar .byte ((i2 >>> ((8 : Int32) &&& 31)).toInt8.toInt32)) (nar .byte ((i3 >>> ((0 : Int32) &&& 31)).toInt8.toInt32)) (nar .byte ((i3 >>> ((8 : Int32) &&& 31)).toInt8.toInt32)) k1_1 T9.heap n0 z3 S__assertionsDisabled Od3 S_HI_BYTE_SHIFT o9_1 g_b1_0 S_LO_BYTE_SHIFT o9_0) rfl (Ls := #[vr a1, vi 2, vi 4, vr b1_0, vi 2]) hml.symm (argsL := [(.ref b1_0), (.int 2), (.int i4)]) (rest := []) (lenOf pd_11 rfl) (B d12_20) (W := 0)
  obtain ⟨rfl, Nq13, K13, o13_0, o13_1⟩ := hQ13
  have N13 := Fr.app N9 Nq13
  have s3 := K13.1
  have Va14 := (Va10.keep K13 (ninS ne_a1_b1_0 nin0))
  obtain ⟨cl15, Ar15, q15, S15, M15, Hs15, G15⟩ := id Va14
  have hin16 := inb_of (j := 3) S15 ⟨by decide, by decide⟩
  have Od4 := Od3.keep K13 (allS g_b1_0 all0)
  have z4 := Nat.le_trans Z0 (Nat.le_trans (Nat.le_trans (Nat.le_trans s0 s1) s2) s3)
  obtain ⟨_, T17, L17, X17, hQ17, st17⟩ := own_callS X13 hx hZ hown (y := y_12) (w_70 hw) (w_71 hw) (w_55 hw) (w_72 hw) (rm115 l Z hw b1_0 i5 (nar .byte ((i2 >>> ((0 : Int32) &&& 31)).toInt8.toInt32)) (nar .byte ((i2 >>> ((8 : Int32) &&& 31)).toInt8.toInt32)) (nar .byte ((i3 >>> ((0 : Int32) &&& 31)).toInt8.toInt32)) (nar .byte ((i3 >>> ((8 : Int32) &&& 31)).toInt8.toInt32)) (nar .byte ((i4 >>> ((0 : Int32) &&& 31)).toInt8.toInt32)) (nar .byte ((i4 >>> ((8 : Int32) &&& 31)).toInt8.toInt32)) k1_1 T13.heap n0 z4 S__assertionsDisabled Od4 S_HI_BYTE_SHIFT o13_1 g_b1_0 S_LO_BYTE_SHIFT o13_0) rfl (Ls := #[vr a1, vi 3, vi 4, vr b1_0, vi 3]) hml.symm (argsL := [(.ref b1_0), (.int 3), (.int i5)]) (rest := []) (lenOf pd_11 rfl) (B d12_20) (W := 0)
  obtain ⟨rfl, Nq17, K17, o17_0, o17_1⟩ := hQ17
  have N17 := Fr.app N13 Nq17
  have s4 := K17.1
  have sz_b1_0 : h0.size ≤ b1_0 := o1_0
  have Kp0 := (Keep.refl h0 []).trans K1 all0
  have Kp1 := Kp0.trans K5 (allS (Or.inr sz_b1_0) all0)
  have Kp2 := Kp1.trans K9 (allS (Or.inr sz_b1_0) all0)
  have Kp3 := Kp2.trans K13 (allS (Or.inr sz_b1_0) all0)
  have Kp4 := Kp3.trans K17 (allS (Or.inr sz_b1_0) all0)
  refine ⟨T17, _, _, _, (some (.ref b1_0)), X17, nofun, by decide, by decide, ?_, fun fs hr => ?_⟩
  · exact ⟨b1_0, k1_1, rfl, N17, Kp4, sz_b1_0, o17_0, o17_1⟩
  · refine sI X0 hx (B d12_0) rfl ?_
    refine st1 _ ?_
    refine XS.astoreN X1.here hx rfl (B d12_4) rfl rfl (l' := #[vr a1, vi 0, vi 4, vr b1_0, un]) rfl ?_
    refine sC X1 hx (B d12_5) ?_
    refine XS.istore X1.here hx rfl (B d12_6) rfl (l' := #[vr a1, vi 0, vi 4, vr b1_0, vi 0]) rfl ?_
    refine sJ X1 hx (B d12_8) rfl ?_
    refine sI X1 hx (B d12_10) rfl ?_
    refine XS.icmpNo X1.here hx rfl (B d12_11) rfl (tlt (by decide : (0 : Int32) < (4 : Int32))).2.1 ?_
    refine sA X1 hx (B d12_14) rfl rfl ?_
    refine sJ X1 hx (B d12_15) rfl ?_
    refine sA X1 hx (B d12_17) rfl rfl ?_
    refine sI X1 hx (B d12_18) rfl ?_
    refine X1.caload hx (j := 0) (v := (.int i2)) (Ar3.1) (State.isArrayOf_alike hZ.alike Ar3.2.1) Ar3.2.2 hin4 (Has.at Hs3 hin4 rfl) (g := (mkF m 19 #[vr a1, vi 0, vi 4, vr b1_0, vi 0] [(.int 0), (.ref a1), (.int 0), (.ref b1_0)])) rfl rfl (B d12_19) _ ?_
    refine st5 _ ?_
    refine XS.iinc X5.here hx rfl (B d12_23) rfl (l' := #[vr a1, vi 1, vi 4, vr b1_0, vi 0]) rfl ?_
    refine XS.iinc X5.here hx rfl (B d12_26) rfl (l' := #[vr a1, vi 1, vi 4, vr b1_0, vi 1]) rfl ?_
    refine XS.goto X5.here hx rfl (pc0 := 29) (pc' := 8) rfl (B d12_29) (by decide) (by decide) ?_
    refine sJ X5 hx (B d12_8) rfl ?_
    refine sI X5 hx (B d12_10) rfl ?_
    refine XS.icmpNo X5.here hx rfl (B d12_11) rfl (tlt (by decide : (1 : Int32) < (4 : Int32))).2.1 ?_
    refine sA X5 hx (B d12_14) rfl rfl ?_
    refine sJ X5 hx (B d12_15) rfl ?_
    refine sA X5 hx (B d12_17) rfl rfl ?_
    refine sI X5 hx (B d12_18) rfl ?_
    refine X5.caload hx (j := 1) (v := (.int i3)) (Ar7.1) (State.isArrayOf_alike hZ.alike Ar7.2.1) Ar7.2.2 hin8 (Has.at Hs7 hin8 rfl) (g := (mkF m 19 #[vr a1, vi 1, vi 4, vr b1_0, vi 1] [(.int 1), (.ref a1), (.int 1), (.ref b1_0)])) rfl rfl (B d12_19) _ ?_
    refine st9 _ ?_
    refine XS.iinc X9.here hx rfl (B d12_23) rfl (l' := #[vr a1, vi 2, vi 4, vr b1_0, vi 1]) rfl ?_
    refine XS.iinc X9.here hx rfl (B d12_26) rfl (l' := #[vr a1, vi 2, vi 4, vr b1_0, vi 2]) rfl ?_
    refine XS.goto X9.here hx rfl (pc0 := 29) (pc' := 8) rfl (B d12_29) (by decide) (by decide) ?_
    refine sJ X9 hx (B d12_8) rfl ?_
    refine sI X9 hx (B d12_10) rfl ?_
    refine XS.icmpNo X9.here hx rfl (B d12_11) rfl (tlt (by decide : (2 : Int32) < (4 : Int32))).2.1 ?_
    refine sA X9 hx (B d12_14) rfl rfl ?_
    refine sJ X9 hx (B d12_15) rfl ?_
    refine sA X9 hx (B d12_17) rfl rfl ?_
    refine sI X9 hx (B d12_18) rfl ?_
    refine X9.caload hx (j := 2) (v := (.int i4)) (Ar11.1) (State.isArrayOf_alike hZ.alike Ar11.2.1) Ar11.2.2 hin12 (Has.at Hs11 hin12 rfl) (g := (mkF m 19 #[vr a1, vi 2, vi 4, vr b1_0, vi 2] [(.int 2), (.ref a1), (.int 2), (.ref b1_0)])) rfl rfl (B d12_19) _ ?_
    refine st13 _ ?_
    refine XS.iinc X13.here hx rfl (B d12_23) rfl (l' := #[vr a1, vi 3, vi 4, vr b1_0, vi 2]) rfl ?_
    refine XS.iinc X13.here hx rfl (B d12_26) rfl (l' := #[vr a1, vi 3, vi 4, vr b1_0, vi 3]) rfl ?_
    refine XS.goto X13.here hx rfl (pc0 := 29) (pc' := 8) rfl (B d12_29) (by decide) (by decide) ?_
    refine sJ X13 hx (B d12_8) rfl ?_
    refine sI X13 hx (B d12_10) rfl ?_
    refine XS.icmpNo X13.here hx rfl (B d12_11) rfl (tlt (by decide : (3 : Int32) < (4 : Int32))).2.1 ?_
    refine sA X13 hx (B d12_14) rfl rfl ?_
    refine sJ X13 hx (B d12_15) rfl ?_
    refine sA X13 hx (B d12_17) rfl rfl ?_
    refine sI X13 hx (B d12_18) rfl ?_
    refine X13.caload hx (j := 3) (v := (.int i5)) (Ar15.1) (State.isArrayOf_alike hZ.alike Ar15.2.1) Ar15.2.2 hin16 (Has.at Hs15 hin16 rfl) (g := (mkF m 19 #[vr a1, vi 3, vi 4, vr b1_0, vi 3] [(.int 3), (.ref a1), (.int 3), (.ref b1_0)])) rfl rfl (B d12_19) _ ?_
    refine st17 _ ?_
    refine XS.iinc X17.here hx rfl (B d12_23) rfl (l' := #[vr a1, vi 4, vi 4, vr b1_0, vi 3]) rfl ?_
    refine XS.iinc X17.here hx rfl (B d12_26) rfl (l' := #[vr a1, vi 4, vi 4, vr b1_0, vi 4]) rfl ?_
    refine XS.goto X17.here hx rfl (pc0 := 29) (pc' := 8) rfl (B d12_29) (by decide) (by decide) ?_
    refine sJ X17 hx (B d12_8) rfl ?_
    refine sI X17 hx (B d12_10) rfl ?_
    refine XS.icmpYes X17.here hx rfl (pc0 := 11) (pc' := 32) rfl (B d12_11) rfl (flt (by decide : ¬ ((4 : Int32) < (4 : Int32)))).2.1 (by decide) (by decide) ?_
    refine sA X17 hx (B d12_32) rfl rfl ?_
    exact retOut X17 hx hret rfl (Or.inr (Or.inr (Or.inr (Or.inr ⟨rfl, rfl, rfl⟩)))) (B d12_33) hr
abbrev Rm117 : Room := rmk 0 0 0 0
def Q117 (Z : State) (a1 a2 : Addr) (i3 i4 i5 i6 : Int32) (ck7 ck9 : ClassId) (h0 : Heap) (n0 : Nat) (v : Option Value) (h : Heap) (L : List Loc) : Prop := v = some (.int 1) ∧ Fr n0 L ∧ Keep h0 h [a2] ∧ Exa Z h a2 "[B" ∧ Arv Z h a2 ck9 .byte 4 [(.int (nar .byte (i3.toInt8.toInt32))), (.int 0), (.int 0), (.int 0)] (.int 0)
theorem rm117 (l : Launch) (Z : State) {a0 : Array Value} (hw : OW a0 Z) (a1 a2 : Addr) (i3 i4 i5 i6 : Int32) (ck7 ck9 : ClassId) (h0 : Heap) (n0 : Nat) (Z0 : n0 ≤ h0.size) (V_a1 : Arv Z h0 a1 ck7 .char 4 [(.int i3), (.int i4), (.int i5), (.int i6)] (.int 0)) (c8 : ¬ (255 < i3)) (V_a2 : Arv Z h0 a2 ck9 .byte 4 [(.int 0), (.int 0), (.int 0), (.int 0)] (.int 0)) (g_a2 : n0 ≤ a2) (ne_a1_a2 : a1 ≠ a2) (c10 : 255 < i4) (E_a2 : Exa Z h0 a2 "[B") :
    OwnMet l Z y_9 jdk_52_method_21_code 7 (some .int) [] Rm117 #[(.ref a1), (.int 0), (.ref a2), (.int 0), (.int 4)] h0 (Q117 Z a1 a2 i3 i4 i5 i6 ck7 ck9 h0 n0) := by
  refine own_body (plainFor_of_name pn_3) (ef_b2aa3e a1 a2) ?_
  intro p e s m below meth c s₁ hx hby hml hown hnm hret hZ X0 e0
  have N0 := Fr.nil n0
  have B := hbx hby
  obtain ⟨cl1, Ar1, q1, S1, M1, Hs1, G1⟩ := id V_a1
  have hin2 := inb_of (j := 0) S1 ⟨by decide, by decide⟩
  obtain ⟨cl3, Ar3, q3, S3, M3, Hs3, G3⟩ := id V_a2
  have hin4 := inb_of (j := 0) S3 ⟨by decide, by decide⟩
  obtain ⟨T5, h5, X5, e5, W5, st5⟩ := stB X0 hx hZ e0 Ar3 (j := 0) hin4 (g := (mkF m 31 #[vr a1, vi 0, vr a2, vi 0, vi 4, vi 0, vi i3] [(.int (i3.toInt8.toInt32)), (.int 0), (.ref a2)])) rfl rfl (B d11_31)
  have s0 := (Keep.of_wr W5).1
  have N5 := Fr.snoc X5 N0 g_a2
  have Vs5 : Arv Z h5 a2 ck9 .byte 4 [(.int (nar .byte (i3.toInt8.toInt32))), (.int 0), (.int 0), (.int 0)] (.int 0) := Arv.set Ar3 q3 S3 M3 Hs3 G3 (fits_nar_byte _) W5 0 rfl (nl rfl)
  have Va6 := (V_a1.other W5 ne_a1_a2)
  obtain ⟨cl7, Ar7, q7, S7, M7, Hs7, G7⟩ := id Va6
  have hin8 := inb_of (j := 1) S7 ⟨by decide, by decide⟩
  have Ex9 := (E_a2.wr W5)
  have Kp0 := (Keep.refl h0 [a2]).wr W5 own_m0
  refine ⟨T5, _, _, _, (some (.int 1)), X5, nofun, by decide, by decide, ?_, fun fs hr => ?_⟩
  · rw [e5]
    exact ⟨rfl, N5, Kp0, Ex9, Vs5⟩
  · refine sC X0 hx (B d11_0) ?_
    refine XS.istore X0.here hx rfl (B d11_1) rfl (l' := #[vr a1, vi 0, vr a2, vi 0, vi 4, vi 0, un]) rfl ?_
    refine sJ X0 hx (B d11_3) rfl ?_
    refine sJ X0 hx (B d11_5) rfl ?_
    refine XS.icmpNo X0.here hx rfl (B d11_7) rfl (tlt (by decide : (0 : Int32) < (4 : Int32))).2.1 ?_
    refine sA X0 hx (B d11_10) rfl rfl ?_
    refine sI X0 hx (B d11_11) rfl ?_
    refine X0.caload hx (j := 0) (v := (.int i3)) (by rw [e0]; exact Ar1.1) (State.isArrayOf_alike hZ.alike Ar1.2.1) Ar1.2.2 hin2 (Has.at Hs1 hin2 rfl) (g := (mkF m 12 #[vr a1, vi 0, vr a2, vi 0, vi 4, vi 0, un] [(.int 0), (.ref a1)])) rfl rfl (B d11_12) _ ?_
    refine XS.istore X0.here hx rfl (B d11_13) rfl (l' := #[vr a1, vi 0, vr a2, vi 0, vi 4, vi 0, vi i3]) rfl ?_
    refine sJ X0 hx (B d11_15) rfl ?_
    refine XS.sipush X0.here hx rfl (B d11_17) ?_
    refine XS.icmpYes X0.here hx rfl (pc0 := 20) (pc' := 26) rfl (B d11_20) rfl (flt c8).2.2.2 (by decide) (by decide) ?_
    refine sA X0 hx (B d11_26) rfl rfl ?_
    refine sI X0 hx (B d11_27) rfl ?_
    refine sJ X0 hx (B d11_28) rfl ?_
    refine XS.i2b X0.here hx rfl (B d11_30) rfl ?_
    refine st5 _ ?_
    refine XS.iinc X5.here hx rfl (B d11_32) rfl (l' := #[vr a1, vi 1, vr a2, vi 0, vi 4, vi 0, vi i3]) rfl ?_
    refine XS.iinc X5.here hx rfl (B d11_35) rfl (l' := #[vr a1, vi 1, vr a2, vi 1, vi 4, vi 0, vi i3]) rfl ?_
    refine XS.iinc X5.here hx rfl (B d11_38) rfl (l' := #[vr a1, vi 1, vr a2, vi 1, vi 4, vi 1, vi i3]) rfl ?_
    refine XS.goto X5.here hx rfl (pc0 := 41) (pc' := 3) rfl (B d11_41) (by decide) (by decide) ?_
    refine sJ X5 hx (B d11_3) rfl ?_
    refine sJ X5 hx (B d11_5) rfl ?_
    refine XS.icmpNo X5.here hx rfl (B d11_7) rfl (tlt (by decide : (1 : Int32) < (4 : Int32))).2.1 ?_
    refine sA X5 hx (B d11_10) rfl rfl ?_
    refine sI X5 hx (B d11_11) rfl ?_
    refine X5.caload hx (j := 1) (v := (.int i4)) (by rw [e5]; exact Ar7.1) (State.isArrayOf_alike hZ.alike Ar7.2.1) Ar7.2.2 hin8 (Has.at Hs7 hin8 rfl) (g := (mkF m 12 #[vr a1, vi 1, vr a2, vi 1, vi 4, vi 1, vi i3] [(.int 1), (.ref a1)])) rfl rfl (B d11_12) _ ?_
    refine XS.istore X5.here hx rfl (B d11_13) rfl (l' := #[vr a1, vi 1, vr a2, vi 1, vi 4, vi 1, vi i4]) rfl ?_
    refine sJ X5 hx (B d11_15) rfl ?_
    refine XS.sipush X5.here hx rfl (B d11_17) ?_
    refine XS.icmpNo X5.here hx rfl (B d11_20) rfl (tlt c10).2.2.2 ?_
    refine sJ X5 hx (B d11_23) rfl ?_
    exact retI X5 hx hret (B d11_25) hr
abbrev Rm118 : Room := rmk 0 0 0 0
def Q118 (Z : State) (a1 a2 : Addr) (i3 i4 i5 i6 : Int32) (ck7 ck9 : ClassId) (h0 : Heap) (n0 : Nat) (v : Option Value) (h : Heap) (L : List Loc) : Prop := v = some (.int 2) ∧ Fr n0 L ∧ Keep h0 h [a2] ∧ Exa Z h a2 "[B" ∧ Arv Z h a2 ck9 .byte 4 [(.int (nar .byte (i3.toInt8.toInt32))), (.int (nar .byte (i4.toInt8.toInt32))), (.int 0), (.int 0)] (.int 0)
theorem rm118 (l : Launch) (Z : State) {a0 : Array Value} (hw : OW a0 Z) (a1 a2 : Addr) (i3 i4 i5 i6 : Int32) (ck7 ck9 : ClassId) (h0 : Heap) (n0 : Nat) (Z0 : n0 ≤ h0.size) (V_a1 : Arv Z h0 a1 ck7 .char 4 [(.int i3), (.int i4), (.int i5), (.int i6)] (.int 0)) (c8 : ¬ (255 < i3)) (V_a2 : Arv Z h0 a2 ck9 .byte 4 [(.int 0), (.int 0), (.int 0), (.int 0)] (.int 0)) (g_a2 : n0 ≤ a2) (ne_a1_a2 : a1 ≠ a2) (c10 : ¬ (255 < i4)) (c11 : 255 < i5) (E_a2 : Exa Z h0 a2 "[B") :
    OwnMet l Z y_9 jdk_52_method_21_code 7 (some .int) [] Rm118 #[(.ref a1), (.int 0), (.ref a2), (.int 0), (.int 4)] h0 (Q118 Z a1 a2 i3 i4 i5 i6 ck7 ck9 h0 n0) := by
  refine own_body (plainFor_of_name pn_3) (ef_b2aa3e a1 a2) ?_
  intro p e s m below meth c s₁ hx hby hml hown hnm hret hZ X0 e0
  have N0 := Fr.nil n0
  have B := hbx hby
  obtain ⟨cl1, Ar1, q1, S1, M1, Hs1, G1⟩ := id V_a1
  have hin2 := inb_of (j := 0) S1 ⟨by decide, by decide⟩
  obtain ⟨cl3, Ar3, q3, S3, M3, Hs3, G3⟩ := id V_a2
  have hin4 := inb_of (j := 0) S3 ⟨by decide, by decide⟩
  obtain ⟨T5, h5, X5, e5, W5, st5⟩ := stB X0 hx hZ e0 Ar3 (j := 0) hin4 (g := (mkF m 31 #[vr a1, vi 0, vr a2, vi 0, vi 4, vi 0, vi i3] [(.int (i3.toInt8.toInt32)), (.int 0), (.ref a2)])) rfl rfl (B d11_31)
  have s0 := (Keep.of_wr W5).1
  have N5 := Fr.snoc X5 N0 g_a2
  have Vs5 : Arv Z h5 a2 ck9 .byte 4 [(.int (nar .byte (i3.toInt8.toInt32))), (.int 0), (.int 0), (.int 0)] (.int 0) := Arv.set Ar3 q3 S3 M3 Hs3 G3 (fits_nar_byte _) W5 0 rfl (nl rfl)
  have Va6 := (V_a1.other W5 ne_a1_a2)
  obtain ⟨cl7, Ar7, q7, S7, M7, Hs7, G7⟩ := id Va6
  have hin8 := inb_of (j := 1) S7 ⟨by decide, by decide⟩
  obtain ⟨cl9, Ar9, q9, S9, M9, Hs9, G9⟩ := id Vs5
  have hin10 := inb_of (j := 1) S9 ⟨by decide, by decide⟩
  obtain ⟨T11, h11, X11, e11, W11, st11⟩ := stB X5 hx hZ e5 Ar9 (j := 1) hin10 (g := (mkF m 31 #[vr a1, vi 1, vr a2, vi 1, vi 4, vi 1, vi i4] [(.int (i4.toInt8.toInt32)), (.int 1), (.ref a2)])) rfl rfl (B d11_31)
  have s1 := (Keep.of_wr W11).1
  have N11 := Fr.snoc X11 N5 g_a2
  have Vs11 : Arv Z h11 a2 ck9 .byte 4 [(.int (nar .byte (i3.toInt8.toInt32))), (.int (nar .byte (i4.toInt8.toInt32))), (.int 0), (.int 0)] (.int 0) := Arv.set Ar9 q9 S9 M9 Hs9 G9 (fits_nar_byte _) W11 1 rfl (nl rfl)
  have Va12 := (Va6.other W11 ne_a1_a2)
  obtain ⟨cl13, Ar13, q13, S13, M13, Hs13, G13⟩ := id Va12
  have hin14 := inb_of (j := 2) S13 ⟨by decide, by decide⟩
  have Ex15 := ((E_a2.wr W5).wr W11)
  have Kp0 := (Keep.refl h0 [a2]).wr W5 own_m0
  have Kp1 := Kp0.wr W11 own_m0
  refine ⟨T11, _, _, _, (some (.int 2)), X11, nofun, by decide, by decide, ?_, fun fs hr => ?_⟩
  · rw [e11]
    exact ⟨rfl, N11, Kp1, Ex15, Vs11⟩
  · refine sC X0 hx (B d11_0) ?_
    refine XS.istore X0.here hx rfl (B d11_1) rfl (l' := #[vr a1, vi 0, vr a2, vi 0, vi 4, vi 0, un]) rfl ?_
    refine sJ X0 hx (B d11_3) rfl ?_
    refine sJ X0 hx (B d11_5) rfl ?_
    refine XS.icmpNo X0.here hx rfl (B d11_7) rfl (tlt (by decide : (0 : Int32) < (4 : Int32))).2.1 ?_
    refine sA X0 hx (B d11_10) rfl rfl ?_
    refine sI X0 hx (B d11_11) rfl ?_
    refine X0.caload hx (j := 0) (v := (.int i3)) (by rw [e0]; exact Ar1.1) (State.isArrayOf_alike hZ.alike Ar1.2.1) Ar1.2.2 hin2 (Has.at Hs1 hin2 rfl) (g := (mkF m 12 #[vr a1, vi 0, vr a2, vi 0, vi 4, vi 0, un] [(.int 0), (.ref a1)])) rfl rfl (B d11_12) _ ?_
    refine XS.istore X0.here hx rfl (B d11_13) rfl (l' := #[vr a1, vi 0, vr a2, vi 0, vi 4, vi 0, vi i3]) rfl ?_
    refine sJ X0 hx (B d11_15) rfl ?_
    refine XS.sipush X0.here hx rfl (B d11_17) ?_
    refine XS.icmpYes X0.here hx rfl (pc0 := 20) (pc' := 26) rfl (B d11_20) rfl (flt c8).2.2.2 (by decide) (by decide) ?_
    refine sA X0 hx (B d11_26) rfl rfl ?_
    refine sI X0 hx (B d11_27) rfl ?_
    refine sJ X0 hx (B d11_28) rfl ?_
    refine XS.i2b X0.here hx rfl (B d11_30) rfl ?_
    refine st5 _ ?_
    refine XS.iinc X5.here hx rfl (B d11_32) rfl (l' := #[vr a1, vi 1, vr a2, vi 0, vi 4, vi 0, vi i3]) rfl ?_
    refine XS.iinc X5.here hx rfl (B d11_35) rfl (l' := #[vr a1, vi 1, vr a2, vi 1, vi 4, vi 0, vi i3]) rfl ?_
    refine XS.iinc X5.here hx rfl (B d11_38) rfl (l' := #[vr a1, vi 1, vr a2, vi 1, vi 4, vi 1, vi i3]) rfl ?_
    refine XS.goto X5.here hx rfl (pc0 := 41) (pc' := 3) rfl (B d11_41) (by decide) (by decide) ?_
    refine sJ X5 hx (B d11_3) rfl ?_
    refine sJ X5 hx (B d11_5) rfl ?_
    refine XS.icmpNo X5.here hx rfl (B d11_7) rfl (tlt (by decide : (1 : Int32) < (4 : Int32))).2.1 ?_
    refine sA X5 hx (B d11_10) rfl rfl ?_
    refine sI X5 hx (B d11_11) rfl ?_
    refine X5.caload hx (j := 1) (v := (.int i4)) (by rw [e5]; exact Ar7.1) (State.isArrayOf_alike hZ.alike Ar7.2.1) Ar7.2.2 hin8 (Has.at Hs7 hin8 rfl) (g := (mkF m 12 #[vr a1, vi 1, vr a2, vi 1, vi 4, vi 1, vi i3] [(.int 1), (.ref a1)])) rfl rfl (B d11_12) _ ?_
    refine XS.istore X5.here hx rfl (B d11_13) rfl (l' := #[vr a1, vi 1, vr a2, vi 1, vi 4, vi 1, vi i4]) rfl ?_
    refine sJ X5 hx (B d11_15) rfl ?_
    refine XS.sipush X5.here hx rfl (B d11_17) ?_
    refine XS.icmpYes X5.here hx rfl (pc0 := 20) (pc' := 26) rfl (B d11_20) rfl (flt c10).2.2.2 (by decide) (by decide) ?_
    refine sA X5 hx (B d11_26) rfl rfl ?_
    refine sI X5 hx (B d11_27) rfl ?_
    refine sJ X5 hx (B d11_28) rfl ?_
    refine XS.i2b X5.here hx rfl (B d11_30) rfl ?_
    refine st11 _ ?_
    refine XS.iinc X11.here hx rfl (B d11_32) rfl (l' := #[vr a1, vi 2, vr a2, vi 1, vi 4, vi 1, vi i4]) rfl ?_
    refine XS.iinc X11.here hx rfl (B d11_35) rfl (l' := #[vr a1, vi 2, vr a2, vi 2, vi 4, vi 1, vi i4]) rfl ?_
    refine XS.iinc X11.here hx rfl (B d11_38) rfl (l' := #[vr a1, vi 2, vr a2, vi 2, vi 4, vi 2, vi i4]) rfl ?_
    refine XS.goto X11.here hx rfl (pc0 := 41) (pc' := 3) rfl (B d11_41) (by decide) (by decide) ?_
    refine sJ X11 hx (B d11_3) rfl ?_
    refine sJ X11 hx (B d11_5) rfl ?_
    refine XS.icmpNo X11.here hx rfl (B d11_7) rfl (tlt (by decide : (2 : Int32) < (4 : Int32))).2.1 ?_
    refine sA X11 hx (B d11_10) rfl rfl ?_
    refine sI X11 hx (B d11_11) rfl ?_
    refine X11.caload hx (j := 2) (v := (.int i5)) (by rw [e11]; exact Ar13.1) (State.isArrayOf_alike hZ.alike Ar13.2.1) Ar13.2.2 hin14 (Has.at Hs13 hin14 rfl) (g := (mkF m 12 #[vr a1, vi 2, vr a2, vi 2, vi 4, vi 2, vi i4] [(.int 2), (.ref a1)])) rfl rfl (B d11_12) _ ?_
    refine XS.istore X11.here hx rfl (B d11_13) rfl (l' := #[vr a1, vi 2, vr a2, vi 2, vi 4, vi 2, vi i5]) rfl ?_
    refine sJ X11 hx (B d11_15) rfl ?_
    refine XS.sipush X11.here hx rfl (B d11_17) ?_
    refine XS.icmpNo X11.here hx rfl (B d11_20) rfl (tlt c11).2.2.2 ?_
    refine sJ X11 hx (B d11_23) rfl ?_
    exact retI X11 hx hret (B d11_25) hr
abbrev Rm119 : Room := rmk 0 0 0 0
def Q119 (Z : State) (a1 a2 : Addr) (i3 i4 i5 i6 : Int32) (ck7 ck9 : ClassId) (h0 : Heap) (n0 : Nat) (v : Option Value) (h : Heap) (L : List Loc) : Prop := v = some (.int 3) ∧ Fr n0 L ∧ Keep h0 h [a2] ∧ Exa Z h a2 "[B" ∧ Arv Z h a2 ck9 .byte 4 [(.int (nar .byte (i3.toInt8.toInt32))), (.int (nar .byte (i4.toInt8.toInt32))), (.int (nar .byte (i5.toInt8.toInt32))), (.int 0)] (.int 0)
theorem rm119 (l : Launch) (Z : State) {a0 : Array Value} (hw : OW a0 Z) (a1 a2 : Addr) (i3 i4 i5 i6 : Int32) (ck7 ck9 : ClassId) (h0 : Heap) (n0 : Nat) (Z0 : n0 ≤ h0.size) (V_a1 : Arv Z h0 a1 ck7 .char 4 [(.int i3), (.int i4), (.int i5), (.int i6)] (.int 0)) (c8 : ¬ (255 < i3)) (V_a2 : Arv Z h0 a2 ck9 .byte 4 [(.int 0), (.int 0), (.int 0), (.int 0)] (.int 0)) (g_a2 : n0 ≤ a2) (ne_a1_a2 : a1 ≠ a2) (c10 : ¬ (255 < i4)) (c11 : ¬ (255 < i5)) (c12 : 255 < i6) (E_a2 : Exa Z h0 a2 "[B") :
    OwnMet l Z y_9 jdk_52_method_21_code 7 (some .int) [] Rm119 #[(.ref a1), (.int 0), (.ref a2), (.int 0), (.int 4)] h0 (Q119 Z a1 a2 i3 i4 i5 i6 ck7 ck9 h0 n0) := by
  refine own_body (plainFor_of_name pn_3) (ef_b2aa3e a1 a2) ?_
  intro p e s m below meth c s₁ hx hby hml hown hnm hret hZ X0 e0
  have N0 := Fr.nil n0
  have B := hbx hby
  obtain ⟨cl1, Ar1, q1, S1, M1, Hs1, G1⟩ := id V_a1
  have hin2 := inb_of (j := 0) S1 ⟨by decide, by decide⟩
  obtain ⟨cl3, Ar3, q3, S3, M3, Hs3, G3⟩ := id V_a2
  have hin4 := inb_of (j := 0) S3 ⟨by decide, by decide⟩
  obtain ⟨T5, h5, X5, e5, W5, st5⟩ := stB X0 hx hZ e0 Ar3 (j := 0) hin4 (g := (mkF m 31 #[vr a1, vi 0, vr a2, vi 0, vi 4, vi 0, vi i3] [(.int (i3.toInt8.toInt32)), (.int 0), (.ref a2)])) rfl rfl (B d11_31)
  have s0 := (Keep.of_wr W5).1
  have N5 := Fr.snoc X5 N0 g_a2
  have Vs5 : Arv Z h5 a2 ck9 .byte 4 [(.int (nar .byte (i3.toInt8.toInt32))), (.int 0), (.int 0), (.int 0)] (.int 0) := Arv.set Ar3 q3 S3 M3 Hs3 G3 (fits_nar_byte _) W5 0 rfl (nl rfl)
  have Va6 := (V_a1.other W5 ne_a1_a2)
  obtain ⟨cl7, Ar7, q7, S7, M7, Hs7, G7⟩ := id Va6
  have hin8 := inb_of (j := 1) S7 ⟨by decide, by decide⟩
  obtain ⟨cl9, Ar9, q9, S9, M9, Hs9, G9⟩ := id Vs5
  have hin10 := inb_of (j := 1) S9 ⟨by decide, by decide⟩
  obtain ⟨T11, h11, X11, e11, W11, st11⟩ := stB X5 hx hZ e5 Ar9 (j := 1) hin10 (g := (mkF m 31 #[vr a1, vi 1, vr a2, vi 1, vi 4, vi 1, vi i4] [(.int (i4.toInt8.toInt32)), (.int 1), (.ref a2)])) rfl rfl (B d11_31)
  have s1 := (Keep.of_wr W11).1
  have N11 := Fr.snoc X11 N5 g_a2
  have Vs11 : Arv Z h11 a2 ck9 .byte 4 [(.int (nar .byte (i3.toInt8.toInt32))), (.int (nar .byte (i4.toInt8.toInt32))), (.int 0), (.int 0)] (.int 0) := Arv.set Ar9 q9 S9 M9 Hs9 G9 (fits_nar_byte _) W11 1 rfl (nl rfl)
  have Va12 := (Va6.other W11 ne_a1_a2)
  obtain ⟨cl13, Ar13, q13, S13, M13, Hs13, G13⟩ := id Va12
  have hin14 := inb_of (j := 2) S13 ⟨by decide, by decide⟩
  obtain ⟨cl15, Ar15, q15, S15, M15, Hs15, G15⟩ := id Vs11
  have hin16 := inb_of (j := 2) S15 ⟨by decide, by decide⟩
  obtain ⟨T17, h17, X17, e17, W17, st17⟩ := stB X11 hx hZ e11 Ar15 (j := 2) hin16 (g := (mkF m 31 #[vr a1, vi 2, vr a2, vi 2, vi 4, vi 2, vi i5] [(.int (i5.toInt8.toInt32)), (.int 2), (.ref a2)])) rfl rfl (B d11_31)
  have s2 := (Keep.of_wr W17).1
  have N17 := Fr.snoc X17 N11 g_a2
  have Vs17 : Arv Z h17 a2 ck9 .byte 4 [(.int (nar .byte (i3.toInt8.toInt32))), (.int (nar .byte (i4.toInt8.toInt32))), (.int (nar .byte (i5.toInt8.toInt32))), (.int 0)] (.int 0) := Arv.set Ar15 q15 S15 M15 Hs15 G15 (fits_nar_byte _) W17 2 rfl (nl rfl)
  have Va18 := (Va12.other W17 ne_a1_a2)
  obtain ⟨cl19, Ar19, q19, S19, M19, Hs19, G19⟩ := id Va18
  have hin20 := inb_of (j := 3) S19 ⟨by decide, by decide⟩
  have Ex21 := (((E_a2.wr W5).wr W11).wr W17)
  have Kp0 := (Keep.refl h0 [a2]).wr W5 own_m0
  have Kp1 := Kp0.wr W11 own_m0
  have Kp2 := Kp1.wr W17 own_m0
  refine ⟨T17, _, _, _, (some (.int 3)), X17, nofun, by decide, by decide, ?_, fun fs hr => ?_⟩
  · rw [e17]
    exact ⟨rfl, N17, Kp2, Ex21, Vs17⟩
  · refine sC X0 hx (B d11_0) ?_
    refine XS.istore X0.here hx rfl (B d11_1) rfl (l' := #[vr a1, vi 0, vr a2, vi 0, vi 4, vi 0, un]) rfl ?_
    refine sJ X0 hx (B d11_3) rfl ?_
    refine sJ X0 hx (B d11_5) rfl ?_
    refine XS.icmpNo X0.here hx rfl (B d11_7) rfl (tlt (by decide : (0 : Int32) < (4 : Int32))).2.1 ?_
    refine sA X0 hx (B d11_10) rfl rfl ?_
    refine sI X0 hx (B d11_11) rfl ?_
    refine X0.caload hx (j := 0) (v := (.int i3)) (by rw [e0]; exact Ar1.1) (State.isArrayOf_alike hZ.alike Ar1.2.1) Ar1.2.2 hin2 (Has.at Hs1 hin2 rfl) (g := (mkF m 12 #[vr a1, vi 0, vr a2, vi 0, vi 4, vi 0, un] [(.int 0), (.ref a1)])) rfl rfl (B d11_12) _ ?_
    refine XS.istore X0.here hx rfl (B d11_13) rfl (l' := #[vr a1, vi 0, vr a2, vi 0, vi 4, vi 0, vi i3]) rfl ?_
    refine sJ X0 hx (B d11_15) rfl ?_
    refine XS.sipush X0.here hx rfl (B d11_17) ?_
    refine XS.icmpYes X0.here hx rfl (pc0 := 20) (pc' := 26) rfl (B d11_20) rfl (flt c8).2.2.2 (by decide) (by decide) ?_
    refine sA X0 hx (B d11_26) rfl rfl ?_
    refine sI X0 hx (B d11_27) rfl ?_
    refine sJ X0 hx (B d11_28) rfl ?_
    refine XS.i2b X0.here hx rfl (B d11_30) rfl ?_
    refine st5 _ ?_
    refine XS.iinc X5.here hx rfl (B d11_32) rfl (l' := #[vr a1, vi 1, vr a2, vi 0, vi 4, vi 0, vi i3]) rfl ?_
    refine XS.iinc X5.here hx rfl (B d11_35) rfl (l' := #[vr a1, vi 1, vr a2, vi 1, vi 4, vi 0, vi i3]) rfl ?_
    refine XS.iinc X5.here hx rfl (B d11_38) rfl (l' := #[vr a1, vi 1, vr a2, vi 1, vi 4, vi 1, vi i3]) rfl ?_
    refine XS.goto X5.here hx rfl (pc0 := 41) (pc' := 3) rfl (B d11_41) (by decide) (by decide) ?_
    refine sJ X5 hx (B d11_3) rfl ?_
    refine sJ X5 hx (B d11_5) rfl ?_
    refine XS.icmpNo X5.here hx rfl (B d11_7) rfl (tlt (by decide : (1 : Int32) < (4 : Int32))).2.1 ?_
    refine sA X5 hx (B d11_10) rfl rfl ?_
    refine sI X5 hx (B d11_11) rfl ?_
    refine X5.caload hx (j := 1) (v := (.int i4)) (by rw [e5]; exact Ar7.1) (State.isArrayOf_alike hZ.alike Ar7.2.1) Ar7.2.2 hin8 (Has.at Hs7 hin8 rfl) (g := (mkF m 12 #[vr a1, vi 1, vr a2, vi 1, vi 4, vi 1, vi i3] [(.int 1), (.ref a1)])) rfl rfl (B d11_12) _ ?_
    refine XS.istore X5.here hx rfl (B d11_13) rfl (l' := #[vr a1, vi 1, vr a2, vi 1, vi 4, vi 1, vi i4]) rfl ?_
    refine sJ X5 hx (B d11_15) rfl ?_
    refine XS.sipush X5.here hx rfl (B d11_17) ?_
    refine XS.icmpYes X5.here hx rfl (pc0 := 20) (pc' := 26) rfl (B d11_20) rfl (flt c10).2.2.2 (by decide) (by decide) ?_
    refine sA X5 hx (B d11_26) rfl rfl ?_
    refine sI X5 hx (B d11_27) rfl ?_
    refine sJ X5 hx (B d11_28) rfl ?_
    refine XS.i2b X5.here hx rfl (B d11_30) rfl ?_
    refine st11 _ ?_
    refine XS.iinc X11.here hx rfl (B d11_32) rfl (l' := #[vr a1, vi 2, vr a2, vi 1, vi 4, vi 1, vi i4]) rfl ?_
    refine XS.iinc X11.here hx rfl (B d11_35) rfl (l' := #[vr a1, vi 2, vr a2, vi 2, vi 4, vi 1, vi i4]) rfl ?_
    refine XS.iinc X11.here hx rfl (B d11_38) rfl (l' := #[vr a1, vi 2, vr a2, vi 2, vi 4, vi 2, vi i4]) rfl ?_
    refine XS.goto X11.here hx rfl (pc0 := 41) (pc' := 3) rfl (B d11_41) (by decide) (by decide) ?_
    refine sJ X11 hx (B d11_3) rfl ?_
    refine sJ X11 hx (B d11_5) rfl ?_
    refine XS.icmpNo X11.here hx rfl (B d11_7) rfl (tlt (by decide : (2 : Int32) < (4 : Int32))).2.1 ?_
    refine sA X11 hx (B d11_10) rfl rfl ?_
    refine sI X11 hx (B d11_11) rfl ?_
    refine X11.caload hx (j := 2) (v := (.int i5)) (by rw [e11]; exact Ar13.1) (State.isArrayOf_alike hZ.alike Ar13.2.1) Ar13.2.2 hin14 (Has.at Hs13 hin14 rfl) (g := (mkF m 12 #[vr a1, vi 2, vr a2, vi 2, vi 4, vi 2, vi i4] [(.int 2), (.ref a1)])) rfl rfl (B d11_12) _ ?_
    refine XS.istore X11.here hx rfl (B d11_13) rfl (l' := #[vr a1, vi 2, vr a2, vi 2, vi 4, vi 2, vi i5]) rfl ?_
    refine sJ X11 hx (B d11_15) rfl ?_
    refine XS.sipush X11.here hx rfl (B d11_17) ?_
    refine XS.icmpYes X11.here hx rfl (pc0 := 20) (pc' := 26) rfl (B d11_20) rfl (flt c11).2.2.2 (by decide) (by decide) ?_
    refine sA X11 hx (B d11_26) rfl rfl ?_
    refine sI X11 hx (B d11_27) rfl ?_
    refine sJ X11 hx (B d11_28) rfl ?_
    refine XS.i2b X11.here hx rfl (B d11_30) rfl ?_
    refine st17 _ ?_
    refine XS.iinc X17.here hx rfl (B d11_32) rfl (l' := #[vr a1, vi 3, vr a2, vi 2, vi 4, vi 2, vi i5]) rfl ?_
    refine XS.iinc X17.here hx rfl (B d11_35) rfl (l' := #[vr a1, vi 3, vr a2, vi 3, vi 4, vi 2, vi i5]) rfl ?_
    refine XS.iinc X17.here hx rfl (B d11_38) rfl (l' := #[vr a1, vi 3, vr a2, vi 3, vi 4, vi 3, vi i5]) rfl ?_
    refine XS.goto X17.here hx rfl (pc0 := 41) (pc' := 3) rfl (B d11_41) (by decide) (by decide) ?_
    refine sJ X17 hx (B d11_3) rfl ?_
    refine sJ X17 hx (B d11_5) rfl ?_
    refine XS.icmpNo X17.here hx rfl (B d11_7) rfl (tlt (by decide : (3 : Int32) < (4 : Int32))).2.1 ?_
    refine sA X17 hx (B d11_10) rfl rfl ?_
    refine sI X17 hx (B d11_11) rfl ?_
    refine X17.caload hx (j := 3) (v := (.int i6)) (by rw [e17]; exact Ar19.1) (State.isArrayOf_alike hZ.alike Ar19.2.1) Ar19.2.2 hin20 (Has.at Hs19 hin20 rfl) (g := (mkF m 12 #[vr a1, vi 3, vr a2, vi 3, vi 4, vi 3, vi i5] [(.int 3), (.ref a1)])) rfl rfl (B d11_12) _ ?_
    refine XS.istore X17.here hx rfl (B d11_13) rfl (l' := #[vr a1, vi 3, vr a2, vi 3, vi 4, vi 3, vi i6]) rfl ?_
    refine sJ X17 hx (B d11_15) rfl ?_
    refine XS.sipush X17.here hx rfl (B d11_17) ?_
    refine XS.icmpNo X17.here hx rfl (B d11_20) rfl (tlt c12).2.2.2 ?_
    refine sJ X17 hx (B d11_23) rfl ?_
    exact retI X17 hx hret (B d11_25) hr
abbrev Rm120 : Room := rmk 0 0 0 0
def Q120 (Z : State) (a1 a2 : Addr) (i3 i4 i5 i6 : Int32) (ck7 ck9 : ClassId) (h0 : Heap) (n0 : Nat) (v : Option Value) (h : Heap) (L : List Loc) : Prop := v = some (.int 4) ∧ Fr n0 L ∧ Keep h0 h [a2] ∧ Exa Z h a2 "[B" ∧ Arv Z h a2 ck9 .byte 4 [(.int (nar .byte (i3.toInt8.toInt32))), (.int (nar .byte (i4.toInt8.toInt32))), (.int (nar .byte (i5.toInt8.toInt32))), (.int (nar .byte (i6.toInt8.toInt32)))] (.int 0)
theorem rm120 (l : Launch) (Z : State) {a0 : Array Value} (hw : OW a0 Z) (a1 a2 : Addr) (i3 i4 i5 i6 : Int32) (ck7 ck9 : ClassId) (h0 : Heap) (n0 : Nat) (Z0 : n0 ≤ h0.size) (V_a1 : Arv Z h0 a1 ck7 .char 4 [(.int i3), (.int i4), (.int i5), (.int i6)] (.int 0)) (c8 : ¬ (255 < i3)) (V_a2 : Arv Z h0 a2 ck9 .byte 4 [(.int 0), (.int 0), (.int 0), (.int 0)] (.int 0)) (g_a2 : n0 ≤ a2) (ne_a1_a2 : a1 ≠ a2) (c10 : ¬ (255 < i4)) (c11 : ¬ (255 < i5)) (c12 : ¬ (255 < i6)) (E_a2 : Exa Z h0 a2 "[B") :
    OwnMet l Z y_9 jdk_52_method_21_code 7 (some .int) [] Rm120 #[(.ref a1), (.int 0), (.ref a2), (.int 0), (.int 4)] h0 (Q120 Z a1 a2 i3 i4 i5 i6 ck7 ck9 h0 n0) := by
  refine own_body (plainFor_of_name pn_3) (ef_b2aa3e a1 a2) ?_
  intro p e s m below meth c s₁ hx hby hml hown hnm hret hZ X0 e0
  have N0 := Fr.nil n0
  have B := hbx hby
  obtain ⟨cl1, Ar1, q1, S1, M1, Hs1, G1⟩ := id V_a1
  have hin2 := inb_of (j := 0) S1 ⟨by decide, by decide⟩
  obtain ⟨cl3, Ar3, q3, S3, M3, Hs3, G3⟩ := id V_a2
  have hin4 := inb_of (j := 0) S3 ⟨by decide, by decide⟩
  obtain ⟨T5, h5, X5, e5, W5, st5⟩ := stB X0 hx hZ e0 Ar3 (j := 0) hin4 (g := (mkF m 31 #[vr a1, vi 0, vr a2, vi 0, vi 4, vi 0, vi i3] [(.int (i3.toInt8.toInt32)), (.int 0), (.ref a2)])) rfl rfl (B d11_31)
  have s0 := (Keep.of_wr W5).1
  have N5 := Fr.snoc X5 N0 g_a2
  have Vs5 : Arv Z h5 a2 ck9 .byte 4 [(.int (nar .byte (i3.toInt8.toInt32))), (.int 0), (.int 0), (.int 0)] (.int 0) := Arv.set Ar3 q3 S3 M3 Hs3 G3 (fits_nar_byte _) W5 0 rfl (nl rfl)
  have Va6 := (V_a1.other W5 ne_a1_a2)
  obtain ⟨cl7, Ar7, q7, S7, M7, Hs7, G7⟩ := id Va6
  have hin8 := inb_of (j := 1) S7 ⟨by decide, by decide⟩
  obtain ⟨cl9, Ar9, q9, S9, M9, Hs9, G9⟩ := id Vs5
  have hin10 := inb_of (j := 1) S9 ⟨by decide, by decide⟩
  obtain ⟨T11, h11, X11, e11, W11, st11⟩ := stB X5 hx hZ e5 Ar9 (j := 1) hin10 (g := (mkF m 31 #[vr a1, vi 1, vr a2, vi 1, vi 4, vi 1, vi i4] [(.int (i4.toInt8.toInt32)), (.int 1), (.ref a2)])) rfl rfl (B d11_31)
  have s1 := (Keep.of_wr W11).1
  have N11 := Fr.snoc X11 N5 g_a2
  have Vs11 : Arv Z h11 a2 ck9 .byte 4 [(.int (nar .byte (i3.toInt8.toInt32))), (.int (nar .byte (i4.toInt8.toInt32))), (.int 0), (.int 0)] (.int 0) := Arv.set Ar9 q9 S9 M9 Hs9 G9 (fits_nar_byte _) W11 1 rfl (nl rfl)
  have Va12 := (Va6.other W11 ne_a1_a2)
  obtain ⟨cl13, Ar13, q13, S13, M13, Hs13, G13⟩ := id Va12
  have hin14 := inb_of (j := 2) S13 ⟨by decide, by decide⟩
  obtain ⟨cl15, Ar15, q15, S15, M15, Hs15, G15⟩ := id Vs11
  have hin16 := inb_of (j := 2) S15 ⟨by decide, by decide⟩
  obtain ⟨T17, h17, X17, e17, W17, st17⟩ := stB X11 hx hZ e11 Ar15 (j := 2) hin16 (g := (mkF m 31 #[vr a1, vi 2, vr a2, vi 2, vi 4, vi 2, vi i5] [(.int (i5.toInt8.toInt32)), (.int 2), (.ref a2)])) rfl rfl (B d11_31)
  have s2 := (Keep.of_wr W17).1
  have N17 := Fr.snoc X17 N11 g_a2
  have Vs17 : Arv Z h17 a2 ck9 .byte 4 [(.int (nar .byte (i3.toInt8.toInt32))), (.int (nar .byte (i4.toInt8.toInt32))), (.int (nar .byte (i5.toInt8.toInt32))), (.int 0)] (.int 0) := Arv.set Ar15 q15 S15 M15 Hs15 G15 (fits_nar_byte _) W17 2 rfl (nl rfl)
  have Va18 := (Va12.other W17 ne_a1_a2)
  obtain ⟨cl19, Ar19, q19, S19, M19, Hs19, G19⟩ := id Va18
  have hin20 := inb_of (j := 3) S19 ⟨by decide, by decide⟩
  obtain ⟨cl21, Ar21, q21, S21, M21, Hs21, G21⟩ := id Vs17
  have hin22 := inb_of (j := 3) S21 ⟨by decide, by decide⟩
  obtain ⟨T23, h23, X23, e23, W23, st23⟩ := stB X17 hx hZ e17 Ar21 (j := 3) hin22 (g := (mkF m 31 #[vr a1, vi 3, vr a2, vi 3, vi 4, vi 3, vi i6] [(.int (i6.toInt8.toInt32)), (.int 3), (.ref a2)])) rfl rfl (B d11_31)
  have s3 := (Keep.of_wr W23).1
  have N23 := Fr.snoc X23 N17 g_a2
  have Vs23 : Arv Z h23 a2 ck9 .byte 4 [(.int (nar .byte (i3.toInt8.toInt32))), (.int (nar .byte (i4.toInt8.toInt32))), (.int (nar .byte (i5.toInt8.toInt32))), (.int (nar .byte (i6.toInt8.toInt32)))] (.int 0) := Arv.set Ar21 q21 S21 M21 Hs21 G21 (fits_nar_byte _) W23 3 rfl (nl rfl)
  have Ex24 := ((((E_a2.wr W5).wr W11).wr W17).wr W23)
  have Kp0 := (Keep.refl h0 [a2]).wr W5 own_m0
  have Kp1 := Kp0.wr W11 own_m0
  have Kp2 := Kp1.wr W17 own_m0
  have Kp3 := Kp2.wr W23 own_m0
  refine ⟨T23, _, _, _, (some (.int 4)), X23, nofun, by decide, by decide, ?_, fun fs hr => ?_⟩
  · rw [e23]
    exact ⟨rfl, N23, Kp3, Ex24, Vs23⟩
  · refine sC X0 hx (B d11_0) ?_
    refine XS.istore X0.here hx rfl (B d11_1) rfl (l' := #[vr a1, vi 0, vr a2, vi 0, vi 4, vi 0, un]) rfl ?_
    refine sJ X0 hx (B d11_3) rfl ?_
    refine sJ X0 hx (B d11_5) rfl ?_
    refine XS.icmpNo X0.here hx rfl (B d11_7) rfl (tlt (by decide : (0 : Int32) < (4 : Int32))).2.1 ?_
    refine sA X0 hx (B d11_10) rfl rfl ?_
    refine sI X0 hx (B d11_11) rfl ?_
    refine X0.caload hx (j := 0) (v := (.int i3)) (by rw [e0]; exact Ar1.1) (State.isArrayOf_alike hZ.alike Ar1.2.1) Ar1.2.2 hin2 (Has.at Hs1 hin2 rfl) (g := (mkF m 12 #[vr a1, vi 0, vr a2, vi 0, vi 4, vi 0, un] [(.int 0), (.ref a1)])) rfl rfl (B d11_12) _ ?_
    refine XS.istore X0.here hx rfl (B d11_13) rfl (l' := #[vr a1, vi 0, vr a2, vi 0, vi 4, vi 0, vi i3]) rfl ?_
    refine sJ X0 hx (B d11_15) rfl ?_
    refine XS.sipush X0.here hx rfl (B d11_17) ?_
    refine XS.icmpYes X0.here hx rfl (pc0 := 20) (pc' := 26) rfl (B d11_20) rfl (flt c8).2.2.2 (by decide) (by decide) ?_
    refine sA X0 hx (B d11_26) rfl rfl ?_
    refine sI X0 hx (B d11_27) rfl ?_
    refine sJ X0 hx (B d11_28) rfl ?_
    refine XS.i2b X0.here hx rfl (B d11_30) rfl ?_
    refine st5 _ ?_
    refine XS.iinc X5.here hx rfl (B d11_32) rfl (l' := #[vr a1, vi 1, vr a2, vi 0, vi 4, vi 0, vi i3]) rfl ?_
    refine XS.iinc X5.here hx rfl (B d11_35) rfl (l' := #[vr a1, vi 1, vr a2, vi 1, vi 4, vi 0, vi i3]) rfl ?_
    refine XS.iinc X5.here hx rfl (B d11_38) rfl (l' := #[vr a1, vi 1, vr a2, vi 1, vi 4, vi 1, vi i3]) rfl ?_
    refine XS.goto X5.here hx rfl (pc0 := 41) (pc' := 3) rfl (B d11_41) (by decide) (by decide) ?_
    refine sJ X5 hx (B d11_3) rfl ?_
    refine sJ X5 hx (B d11_5) rfl ?_
    refine XS.icmpNo X5.here hx rfl (B d11_7) rfl (tlt (by decide : (1 : Int32) < (4 : Int32))).2.1 ?_
    refine sA X5 hx (B d11_10) rfl rfl ?_
    refine sI X5 hx (B d11_11) rfl ?_
    refine X5.caload hx (j := 1) (v := (.int i4)) (by rw [e5]; exact Ar7.1) (State.isArrayOf_alike hZ.alike Ar7.2.1) Ar7.2.2 hin8 (Has.at Hs7 hin8 rfl) (g := (mkF m 12 #[vr a1, vi 1, vr a2, vi 1, vi 4, vi 1, vi i3] [(.int 1), (.ref a1)])) rfl rfl (B d11_12) _ ?_
    refine XS.istore X5.here hx rfl (B d11_13) rfl (l' := #[vr a1, vi 1, vr a2, vi 1, vi 4, vi 1, vi i4]) rfl ?_
    refine sJ X5 hx (B d11_15) rfl ?_
    refine XS.sipush X5.here hx rfl (B d11_17) ?_
    refine XS.icmpYes X5.here hx rfl (pc0 := 20) (pc' := 26) rfl (B d11_20) rfl (flt c10).2.2.2 (by decide) (by decide) ?_
    refine sA X5 hx (B d11_26) rfl rfl ?_
    refine sI X5 hx (B d11_27) rfl ?_
    refine sJ X5 hx (B d11_28) rfl ?_
    refine XS.i2b X5.here hx rfl (B d11_30) rfl ?_
    refine st11 _ ?_
    refine XS.iinc X11.here hx rfl (B d11_32) rfl (l' := #[vr a1, vi 2, vr a2, vi 1, vi 4, vi 1, vi i4]) rfl ?_
    refine XS.iinc X11.here hx rfl (B d11_35) rfl (l' := #[vr a1, vi 2, vr a2, vi 2, vi 4, vi 1, vi i4]) rfl ?_
    refine XS.iinc X11.here hx rfl (B d11_38) rfl (l' := #[vr a1, vi 2, vr a2, vi 2, vi 4, vi 2, vi i4]) rfl ?_
    refine XS.goto X11.here hx rfl (pc0 := 41) (pc' := 3) rfl (B d11_41) (by decide) (by decide) ?_
    refine sJ X11 hx (B d11_3) rfl ?_
    refine sJ X11 hx (B d11_5) rfl ?_
    refine XS.icmpNo X11.here hx rfl (B d11_7) rfl (tlt (by decide : (2 : Int32) < (4 : Int32))).2.1 ?_
    refine sA X11 hx (B d11_10) rfl rfl ?_
    refine sI X11 hx (B d11_11) rfl ?_
    refine X11.caload hx (j := 2) (v := (.int i5)) (by rw [e11]; exact Ar13.1) (State.isArrayOf_alike hZ.alike Ar13.2.1) Ar13.2.2 hin14 (Has.at Hs13 hin14 rfl) (g := (mkF m 12 #[vr a1, vi 2, vr a2, vi 2, vi 4, vi 2, vi i4] [(.int 2), (.ref a1)])) rfl rfl (B d11_12) _ ?_
    refine XS.istore X11.here hx rfl (B d11_13) rfl (l' := #[vr a1, vi 2, vr a2, vi 2, vi 4, vi 2, vi i5]) rfl ?_
    refine sJ X11 hx (B d11_15) rfl ?_
    refine XS.sipush X11.here hx rfl (B d11_17) ?_
    refine XS.icmpYes X11.here hx rfl (pc0 := 20) (pc' := 26) rfl (B d11_20) rfl (flt c11).2.2.2 (by decide) (by decide) ?_
    refine sA X11 hx (B d11_26) rfl rfl ?_
    refine sI X11 hx (B d11_27) rfl ?_
    refine sJ X11 hx (B d11_28) rfl ?_
    refine XS.i2b X11.here hx rfl (B d11_30) rfl ?_
    refine st17 _ ?_
    refine XS.iinc X17.here hx rfl (B d11_32) rfl (l' := #[vr a1, vi 3, vr a2, vi 2, vi 4, vi 2, vi i5]) rfl ?_
    refine XS.iinc X17.here hx rfl (B d11_35) rfl (l' := #[vr a1, vi 3, vr a2, vi 3, vi 4, vi 2, vi i5]) rfl ?_
    refine XS.iinc X17.here hx rfl (B d11_38) rfl (l' := #[vr a1, vi 3, vr a2, vi 3, vi 4, vi 3, vi i5]) rfl ?_
    refine XS.goto X17.here hx rfl (pc0 := 41) (pc' := 3) rfl (B d11_41) (by decide) (by decide) ?_
    refine sJ X17 hx (B d11_3) rfl ?_
    refine sJ X17 hx (B d11_5) rfl ?_
    refine XS.icmpNo X17.here hx rfl (B d11_7) rfl (tlt (by decide : (3 : Int32) < (4 : Int32))).2.1 ?_
    refine sA X17 hx (B d11_10) rfl rfl ?_
    refine sI X17 hx (B d11_11) rfl ?_
    refine X17.caload hx (j := 3) (v := (.int i6)) (by rw [e17]; exact Ar19.1) (State.isArrayOf_alike hZ.alike Ar19.2.1) Ar19.2.2 hin20 (Has.at Hs19 hin20 rfl) (g := (mkF m 12 #[vr a1, vi 3, vr a2, vi 3, vi 4, vi 3, vi i5] [(.int 3), (.ref a1)])) rfl rfl (B d11_12) _ ?_
    refine XS.istore X17.here hx rfl (B d11_13) rfl (l' := #[vr a1, vi 3, vr a2, vi 3, vi 4, vi 3, vi i6]) rfl ?_
    refine sJ X17 hx (B d11_15) rfl ?_
    refine XS.sipush X17.here hx rfl (B d11_17) ?_
    refine XS.icmpYes X17.here hx rfl (pc0 := 20) (pc' := 26) rfl (B d11_20) rfl (flt c12).2.2.2 (by decide) (by decide) ?_
    refine sA X17 hx (B d11_26) rfl rfl ?_
    refine sI X17 hx (B d11_27) rfl ?_
    refine sJ X17 hx (B d11_28) rfl ?_
    refine XS.i2b X17.here hx rfl (B d11_30) rfl ?_
    refine st23 _ ?_
    refine XS.iinc X23.here hx rfl (B d11_32) rfl (l' := #[vr a1, vi 4, vr a2, vi 3, vi 4, vi 3, vi i6]) rfl ?_
    refine XS.iinc X23.here hx rfl (B d11_35) rfl (l' := #[vr a1, vi 4, vr a2, vi 4, vi 4, vi 3, vi i6]) rfl ?_
    refine XS.iinc X23.here hx rfl (B d11_38) rfl (l' := #[vr a1, vi 4, vr a2, vi 4, vi 4, vi 4, vi i6]) rfl ?_
    refine XS.goto X23.here hx rfl (pc0 := 41) (pc' := 3) rfl (B d11_41) (by decide) (by decide) ?_
    refine sJ X23 hx (B d11_3) rfl ?_
    refine sJ X23 hx (B d11_5) rfl ?_
    refine XS.icmpYes X23.here hx rfl (pc0 := 7) (pc' := 44) rfl (B d11_7) rfl (flt (by decide : ¬ ((4 : Int32) < (4 : Int32)))).2.1 (by decide) (by decide) ?_
    refine sJ X23 hx (B d11_44) rfl ?_
    exact retI X23 hx hret (B d11_46) hr
def own_cc3 (v0 v1 v2 v3 : Int32) : Int32 := (if 255 < v0 then (0 : Int32) else (if 255 < v1 then (0 : Int32) else (if 255 < v2 then (0 : Int32) else (if 255 < v3 then (0 : Int32) else (1 : Int32)))))
theorem ef_a299d2 (a1 : Addr) (m : MethodId) : entryFrame m #[(.ref a1), (.int 0), (.int 4)] 6 = mkF m 0 #[.val (.ref a1), .val (.int 0), .val (.int 4), .unset, .unset, .unset] [] := by first | (simp [entryFrame, mkF, argsToLocals, Value.category]; done) | rfl
abbrev Rm121 : Room := rmk 3 2 12 40
def Q121 (Z : State) (a1 : Addr) (i2 i3 i4 i5 : Int32) (ck6 : ClassId) (h0 : Heap) (n0 : Nat) (v : Option Value) (h : Heap) (L : List Loc) : Prop := ∃ m0 : Addr, ∃ kk1 : ClassId, v = some (.ref m0) ∧ Fr n0 L ∧ Keep h0 h [] ∧ h0.size ≤ m0 ∧ Exa Z h m0 "[B" ∧ Arv Z h m0 kk1 .byte 8 [(.int (nar .byte ((i2 >>> ((0 : Int32) &&& 31)).toInt8.toInt32))), (.int (nar .byte ((i2 >>> ((8 : Int32) &&& 31)).toInt8.toInt32))), (.int (nar .byte ((i3 >>> ((0 : Int32) &&& 31)).toInt8.toInt32))), (.int (nar .byte ((i3 >>> ((8 : Int32) &&& 31)).toInt8.toInt32))), (.int (nar .byte ((i4 >>> ((0 : Int32) &&& 31)).toInt8.toInt32))), (.int (nar .byte ((i4 >>> ((8 : Int32) &&& 31)).toInt8.toInt32))), (.int (nar .byte ((i5 >>> ((0 : Int32) &&& 31)).toInt8.toInt32))), (.int (nar .byte ((i5 >>> ((8 : Int32) &&& 31)).toInt8.toInt32)))] (.int 0)
theorem rm121 (l : Launch) (Z : State) {a0 : Array Value} (hw : OW a0 Z) (a1 : Addr) (i2 i3 i4 i5 : Int32) (ck6 : ClassId) (h0 : Heap) (n0 : Nat) (Z0 : n0 ≤ h0.size) (V_a1 : Arv Z h0 a1 ck6 .char 4 [(.int i2), (.int i3), (.int i4), (.int i5)] (.int 0)) (S__assertionsDisabled : Sta Z Z.heap "java/lang/StringUTF16" "$assertionsDisabled" "Z" (.int 1)) (Od0 : Old Z n0 h0) (S_HI_BYTE_SHIFT : Sta Z Z.heap "java/lang/StringUTF16" "HI_BYTE_SHIFT" "I" (.int 0)) (S_LO_BYTE_SHIFT : Sta Z Z.heap "java/lang/StringUTF16" "LO_BYTE_SHIFT" "I" (.int 8)) (c7 : ¬ (65535 < i2)) (c8 : ¬ (65535 < i3)) (c9 : ¬ (65535 < i4)) (c10 : ¬ (65535 < i5)) (c11 : (own_cc3 i2 i3 i4 i5) = 0) :
    OwnMet l Z y_15 jdk_52_method_16_code 6 (some (.array .byte)) [] Rm121 #[(.ref a1), (.int 0), (.int 4)] h0 (Q121 Z a1 i2 i3 i4 i5 ck6 h0 n0) := by
  refine own_body (plainFor_of_name pn_3) (ef_a299d2 a1) ?_
  intro p e s m below meth c s₁ hx hby hml hown hnm hret hZ X0 e0
  have N0 := Fr.nil n0
  have B := hbx hby
  obtain ⟨T1, h1, k1, X1, e1, E1, A1, B1, st1⟩ := newPE (aty := .byte) X0 hx hZ (w_27 hw) e0 (g := (mkF m 1 #[vr a1, vi 0, vi 4, un, un, un] [(.int 4)])) rfl (B d10_1) rfl (by decide) (cap := 4) (by decide) (by decide) (by decide) (by decide) (ad := "[B") (by decide)
  obtain ⟨b1, g1⟩ : ∃ z, z = h0.size := ⟨_, rfl⟩
  rw [← g1] at A1 B1 st1
  have s0 := E1.1
  have Vn1 : Arv Z h1 b1 k1 .byte 4 [(.int 0), (.int 0), (.int 0), (.int 0)] (.int 0) := (Arv.new A1 (by decide)).pad (pad_rep [] (.int 0) 4)
  have Va2 := (V_a1.ext E1)
  by_cases cc1 : 255 < i2
  · have z1 := Nat.le_trans Z0 s0
    obtain ⟨_, T3, L3, X3, hQ3, st3⟩ := own_callS X1 hx hZ hown (y := y_9) (w_57 hw) (w_58 hw) (w_55 hw) (w_59 hw) (rm109 l Z hw a1 b1 i2 i3 i4 i5 ck6 h1 n0 z1 Va2 cc1) e1 (Ls := #[vr a1, vi 0, vi 4, vr b1, un, un]) hml.symm (argsL := [(.ref a1), (.int 0), (.ref b1), (.int 0), (.int 4)]) (rest := []) (lenOf pd_8 rfl) (B d10_9) (W := 0)
    obtain ⟨rfl, Nq3, e3⟩ := hQ3
    have N3 := Fr.app N0 Nq3
    have Od1 := Od0.ext E1
    obtain ⟨_, T4, L4, X4, hQ4, st4⟩ := own_callS X3 hx hZ hown (y := y_13) (w_60 hw) (w_61 hw) (w_55 hw) (w_62 hw) (rm116 l Z hw a1 i2 i3 i4 i5 ck6 h1 n0 z1 Va2 S__assertionsDisabled Od1 S_HI_BYTE_SHIFT S_LO_BYTE_SHIFT) e3 (Ls := #[vr a1, vi 0, vi 4, vr b1, vi 0, un]) hml.symm (argsL := [(.ref a1), (.int 0), (.int 4)]) (rest := []) (lenOf pd_12 rfl) (B d10_23) (W := 0)
    obtain ⟨b4_0, k4_1, rfl, Nq4, K4, o4_0, o4_1, o4_2⟩ := hQ4
    have N4 := Fr.app N3 Nq4
    have s1 := K4.1
    have Od2 := Od1.keep K4 all0
    have z2 := Nat.le_trans Z0 (Nat.le_trans s0 s1)
    obtain ⟨_, T5, L5, X5, hQ5, st5⟩ := own_callS X4 hx hZ hown (y := y_14) (w_76 hw) (w_77 hw) (w_55 hw) (w_78 hw) (rm16 l Z hw b4_0 (0 : Int32) [(.int (nar .byte ((i2 >>> ((0 : Int32) &&& 31)).toInt8.toInt32))), (.int (nar .byte ((i2 >>> ((8 : Int32) &&& 31)).toInt8.toInt32))), (.int (nar .byte ((i3 >>> ((0 : Int32) &&& 31)).toInt8.toInt32))), (.int (nar .byte ((i3 >>> ((8 : Int32) &&& 31)).toInt8.toInt32))), (.int (nar .byte ((i4 >>> ((0 : Int32) &&& 31)).toInt8.toInt32))), (.int (nar .byte ((i4 >>> ((8 : Int32) &&& 31)).toInt8.toInt32))), (.int (nar .byte ((i5 >>> ((0 : Int32) &&& 31)).toInt8.toInt32))), (.int (nar .byte ((i5 >>> ((8 : Int32) &&& 31)).toInt8.toInt32)))] k4_1 (8 : Int32) (nar .byte ((i2 >>> ((0 : Int32) &&& 31)).toInt8.toInt32)) (nar .byte ((i2 >>> ((8 : Int32) &&& 31)).toInt8.toInt32)) T4.heap n0 z2 S__assertionsDisabled Od2 o4_2 (by decide) (by decide) rfl S_HI_BYTE_SHIFT (by decide) (by decide) rfl S_LO_BYTE_SHIFT) rfl (Ls := #[vr a1, vi 0, vi 4, vr b1, vi 0, vr b4_0]) hml.symm (argsL := [(.ref b4_0), (.int 0)]) (rest := []) (lenOf pd_13 rfl) (B d10_32) (W := 0)
    obtain ⟨rfl, Nq5, e5⟩ := hQ5
    have N5 := Fr.app N4 Nq5
    have cd6 : ¬ (i2 < 0) := (by rw [Int32.lt_iff_toInt_lt]; have := And.intro (own_lb cc1 255 (by decide)) (trivial); have := rng32 i2; have : ((0 : Int32)).toInt = 0 := (by decide); omega)
    have cd7 : 255 < (own_gc (nar .byte ((i2 >>> ((0 : Int32) &&& 31)).toInt8.toInt32)) (nar .byte ((i2 >>> ((8 : Int32) &&& 31)).toInt8.toInt32))) := (by rw [own_gcN i2 cd6 c7]; exact cc1)
    have sz_b4_0 : h0.size ≤ b4_0 := Nat.le_trans s0 o4_0
    have Kp0 := (Keep.refl h0 []).ext E1
    have Kp1 := Kp0.trans K4 all0
    refine ⟨T5, _, _, _, (some (.ref b4_0)), X5, nofun, by decide, by decide, ?_, fun fs hr => ?_⟩
    · rw [e5]
      exact ⟨b4_0, k4_1, rfl, N5, Kp1, sz_b4_0, o4_1, o4_2⟩
    · refine sI X0 hx (B d10_0) rfl ?_
      refine st1 _ ?_
      refine XS.astoreN X1.here hx rfl (B d10_3) rfl rfl (l' := #[vr a1, vi 0, vi 4, vr b1, un, un]) rfl ?_
      refine sA X1 hx (B d10_4) rfl rfl ?_
      refine sI X1 hx (B d10_5) rfl ?_
      refine sA X1 hx (B d10_6) rfl rfl ?_
      refine sC X1 hx (B d10_7) ?_
      refine sI X1 hx (B d10_8) rfl ?_
      refine st3 _ ?_
      refine XS.istore X3.here hx rfl (B d10_12) rfl (l' := #[vr a1, vi 0, vi 4, vr b1, vi 0, un]) rfl ?_
      refine sJ X3 hx (B d10_14) rfl ?_
      refine sI X3 hx (B d10_16) rfl ?_
      refine XS.icmpNo X3.here hx rfl (B d10_17) rfl (feq (by decide : ¬ ((0 : Int32) = (4 : Int32)))).1 ?_
      refine sA X3 hx (B d10_20) rfl rfl ?_
      refine sI X3 hx (B d10_21) rfl ?_
      refine sI X3 hx (B d10_22) rfl ?_
      refine st4 _ ?_
      refine XS.astore X4.here hx rfl (B d10_26) rfl rfl (l' := #[vr a1, vi 0, vi 4, vr b1, vi 0, vr b4_0]) rfl ?_
      refine sB X4 hx (B d10_28) rfl rfl ?_
      refine sJ X4 hx (B d10_30) rfl ?_
      refine st5 _ ?_
      refine XS.sipush X5.here hx rfl (B d10_35) ?_
      refine XS.icmpYes X5.here hx rfl (pc0 := 38) (pc' := 54) rfl (B d10_38) rfl (tlt cd7).2.2.1 (by decide) (by decide) ?_
      refine sB X5 hx (B d10_54) rfl rfl ?_
      exact retOut X5 hx hret rfl (Or.inr (Or.inr (Or.inr (Or.inr ⟨rfl, rfl, rfl⟩)))) (B d10_56) hr
  · have g_b1 : n0 ≤ b1 := Nat.le_trans Z0 (Nat.le_of_eq g1.symm)
    have ne_a1_b1 := Nat.ne_of_lt (Nat.lt_of_lt_of_le V_a1.lt (Nat.le_of_eq g1.symm))
    have z1 := Nat.le_trans Z0 s0
    by_cases cc2 : 255 < i3
    · obtain ⟨_, T3, L3, X3, hQ3, st3⟩ := own_callS X1 hx hZ hown (y := y_9) (w_57 hw) (w_58 hw) (w_55 hw) (w_59 hw) (rm117 l Z hw a1 b1 i2 i3 i4 i5 ck6 k1 h1 n0 z1 Va2 cc1 Vn1 g_b1 ne_a1_b1 cc2 B1) e1 (Ls := #[vr a1, vi 0, vi 4, vr b1, un, un]) hml.symm (argsL := [(.ref a1), (.int 0), (.ref b1), (.int 0), (.int 4)]) (rest := []) (lenOf pd_8 rfl) (B d10_9) (W := 0)
      obtain ⟨rfl, Nq3, K3, o3_0, o3_1⟩ := hQ3
      have N3 := Fr.app N0 Nq3
      have s1 := K3.1
      have Va4 := (Va2.keep K3 (ninS ne_a1_b1 nin0))
      have Od1 := Od0.ext E1
      have Od2 := Od1.keep K3 (allS g_b1 all0)
      have z2 := Nat.le_trans Z0 (Nat.le_trans s0 s1)
      obtain ⟨_, T5, L5, X5, hQ5, st5⟩ := own_callS X3 hx hZ hown (y := y_13) (w_60 hw) (w_61 hw) (w_55 hw) (w_62 hw) (rm116 l Z hw a1 i2 i3 i4 i5 ck6 T3.heap n0 z2 Va4 S__assertionsDisabled Od2 S_HI_BYTE_SHIFT S_LO_BYTE_SHIFT) rfl (Ls := #[vr a1, vi 0, vi 4, vr b1, vi 1, un]) hml.symm (argsL := [(.ref a1), (.int 0), (.int 4)]) (rest := []) (lenOf pd_12 rfl) (B d10_23) (W := 0)
      obtain ⟨b5_0, k5_1, rfl, Nq5, K5, o5_0, o5_1, o5_2⟩ := hQ5
      have N5 := Fr.app N3 Nq5
      have s2 := K5.1
      have Od3 := Od2.keep K5 all0
      have z3 := Nat.le_trans Z0 (Nat.le_trans (Nat.le_trans s0 s1) s2)
      obtain ⟨_, T6, L6, X6, hQ6, st6⟩ := own_callS X5 hx hZ hown (y := y_14) (w_76 hw) (w_77 hw) (w_55 hw) (w_78 hw) (rm16 l Z hw b5_0 (1 : Int32) [(.int (nar .byte ((i2 >>> ((0 : Int32) &&& 31)).toInt8.toInt32))), (.int (nar .byte ((i2 >>> ((8 : Int32) &&& 31)).toInt8.toInt32))), (.int (nar .byte ((i3 >>> ((0 : Int32) &&& 31)).toInt8.toInt32))), (.int (nar .byte ((i3 >>> ((8 : Int32) &&& 31)).toInt8.toInt32))), (.int (nar .byte ((i4 >>> ((0 : Int32) &&& 31)).toInt8.toInt32))), (.int (nar .byte ((i4 >>> ((8 : Int32) &&& 31)).toInt8.toInt32))), (.int (nar .byte ((i5 >>> ((0 : Int32) &&& 31)).toInt8.toInt32))), (.int (nar .byte ((i5 >>> ((8 : Int32) &&& 31)).toInt8.toInt32)))] k5_1 (8 : Int32) (nar .byte ((i3 >>> ((0 : Int32) &&& 31)).toInt8.toInt32)) (nar .byte ((i3 >>> ((8 : Int32) &&& 31)).toInt8.toInt32)) T5.heap n0 z3 S__assertionsDisabled Od3 o5_2 (by decide) (by decide) rfl S_HI_BYTE_SHIFT (by decide) (by decide) rfl S_LO_BYTE_SHIFT) rfl (Ls := #[vr a1, vi 0, vi 4, vr b1, vi 1, vr b5_0]) hml.symm (argsL := [(.ref b5_0), (.int 1)]) (rest := []) (lenOf pd_13 rfl) (B d10_32) (W := 0)
      obtain ⟨rfl, Nq6, e6⟩ := hQ6
      have N6 := Fr.app N5 Nq6
      have cd7 : ¬ (i3 < 0) := (by rw [Int32.lt_iff_toInt_lt]; have := And.intro (own_lb cc2 255 (by decide)) (trivial); have := rng32 i3; have : ((0 : Int32)).toInt = 0 := (by decide); omega)
      have cd8 : 255 < (own_gc (nar .byte ((i3 >>> ((0 : Int32) &&& 31)).toInt8.toInt32)) (nar .byte ((i3 >>> ((8 : Int32) &&& 31)).toInt8.toInt32))) := (by rw [own_gcN i3 cd7 c8]; exact cc2)
      have sz_b5_0 : h0.size ≤ b5_0 := Nat.le_trans (Nat.le_trans s0 s1) o5_0
      have Kp0 := (Keep.refl h0 []).ext E1
      have sz_b1 : h0.size ≤ b1 := (Nat.le_of_eq g1.symm)
      have Kp1 := Kp0.trans K3 (allS (Or.inr sz_b1) all0)
      have Kp2 := Kp1.trans K5 all0
      refine ⟨T6, _, _, _, (some (.ref b5_0)), X6, nofun, by decide, by decide, ?_, fun fs hr => ?_⟩
      · rw [e6]
        exact ⟨b5_0, k5_1, rfl, N6, Kp2, sz_b5_0, o5_1, o5_2⟩
      · refine sI X0 hx (B d10_0) rfl ?_
        refine st1 _ ?_
        refine XS.astoreN X1.here hx rfl (B d10_3) rfl rfl (l' := #[vr a1, vi 0, vi 4, vr b1, un, un]) rfl ?_
        refine sA X1 hx (B d10_4) rfl rfl ?_
        refine sI X1 hx (B d10_5) rfl ?_
        refine sA X1 hx (B d10_6) rfl rfl ?_
        refine sC X1 hx (B d10_7) ?_
        refine sI X1 hx (B d10_8) rfl ?_
        refine st3 _ ?_
        refine XS.istore X3.here hx rfl (B d10_12) rfl (l' := #[vr a1, vi 0, vi 4, vr b1, vi 1, un]) rfl ?_
        refine sJ X3 hx (B d10_14) rfl ?_
        refine sI X3 hx (B d10_16) rfl ?_
        refine XS.icmpNo X3.here hx rfl (B d10_17) rfl (feq (by decide : ¬ ((1 : Int32) = (4 : Int32)))).1 ?_
        refine sA X3 hx (B d10_20) rfl rfl ?_
        refine sI X3 hx (B d10_21) rfl ?_
        refine sI X3 hx (B d10_22) rfl ?_
        refine st5 _ ?_
        refine XS.astore X5.here hx rfl (B d10_26) rfl rfl (l' := #[vr a1, vi 0, vi 4, vr b1, vi 1, vr b5_0]) rfl ?_
        refine sB X5 hx (B d10_28) rfl rfl ?_
        refine sJ X5 hx (B d10_30) rfl ?_
        refine st6 _ ?_
        refine XS.sipush X6.here hx rfl (B d10_35) ?_
        refine XS.icmpYes X6.here hx rfl (pc0 := 38) (pc' := 54) rfl (B d10_38) rfl (tlt cd8).2.2.1 (by decide) (by decide) ?_
        refine sB X6 hx (B d10_54) rfl rfl ?_
        exact retOut X6 hx hret rfl (Or.inr (Or.inr (Or.inr (Or.inr ⟨rfl, rfl, rfl⟩)))) (B d10_56) hr
    · by_cases cc3 : 255 < i4
      · obtain ⟨_, T3, L3, X3, hQ3, st3⟩ := own_callS X1 hx hZ hown (y := y_9) (w_57 hw) (w_58 hw) (w_55 hw) (w_59 hw) (rm118 l Z hw a1 b1 i2 i3 i4 i5 ck6 k1 h1 n0 z1 Va2 cc1 Vn1 g_b1 ne_a1_b1 cc2 cc3 B1) e1 (Ls := #[vr a1, vi 0, vi 4, vr b1, un, un]) hml.symm (argsL := [(.ref a1), (.int 0), (.ref b1), (.int 0), (.int 4)]) (rest := []) (lenOf pd_8 rfl) (B d10_9) (W := 0)
        obtain ⟨rfl, Nq3, K3, o3_0, o3_1⟩ := hQ3
        have N3 := Fr.app N0 Nq3
        have s1 := K3.1
        have Va4 := (Va2.keep K3 (ninS ne_a1_b1 nin0))
        have Od1 := Od0.ext E1
        have Od2 := Od1.keep K3 (allS g_b1 all0)
        have z2 := Nat.le_trans Z0 (Nat.le_trans s0 s1)
        obtain ⟨_, T5, L5, X5, hQ5, st5⟩ := own_callS X3 hx hZ hown (y := y_13) (w_60 hw) (w_61 hw) (w_55 hw) (w_62 hw) (rm116 l Z hw a1 i2 i3 i4 i5 ck6 T3.heap n0 z2 Va4 S__assertionsDisabled Od2 S_HI_BYTE_SHIFT S_LO_BYTE_SHIFT) rfl (Ls := #[vr a1, vi 0, vi 4, vr b1, vi 2, un]) hml.symm (argsL := [(.ref a1), (.int 0), (.int 4)]) (rest := []) (lenOf pd_12 rfl) (B d10_23) (W := 0)
        obtain ⟨b5_0, k5_1, rfl, Nq5, K5, o5_0, o5_1, o5_2⟩ := hQ5
        have N5 := Fr.app N3 Nq5
        have s2 := K5.1
        have Od3 := Od2.keep K5 all0
        have z3 := Nat.le_trans Z0 (Nat.le_trans (Nat.le_trans s0 s1) s2)
        obtain ⟨_, T6, L6, X6, hQ6, st6⟩ := own_callS X5 hx hZ hown (y := y_14) (w_76 hw) (w_77 hw) (w_55 hw) (w_78 hw) (rm16 l Z hw b5_0 (2 : Int32) [(.int (nar .byte ((i2 >>> ((0 : Int32) &&& 31)).toInt8.toInt32))), (.int (nar .byte ((i2 >>> ((8 : Int32) &&& 31)).toInt8.toInt32))), (.int (nar .byte ((i3 >>> ((0 : Int32) &&& 31)).toInt8.toInt32))), (.int (nar .byte ((i3 >>> ((8 : Int32) &&& 31)).toInt8.toInt32))), (.int (nar .byte ((i4 >>> ((0 : Int32) &&& 31)).toInt8.toInt32))), (.int (nar .byte ((i4 >>> ((8 : Int32) &&& 31)).toInt8.toInt32))), (.int (nar .byte ((i5 >>> ((0 : Int32) &&& 31)).toInt8.toInt32))), (.int (nar .byte ((i5 >>> ((8 : Int32) &&& 31)).toInt8.toInt32)))] k5_1 (8 : Int32) (nar .byte ((i4 >>> ((0 : Int32) &&& 31)).toInt8.toInt32)) (nar .byte ((i4 >>> ((8 : Int32) &&& 31)).toInt8.toInt32)) T5.heap n0 z3 S__assertionsDisabled Od3 o5_2 (by decide) (by decide) rfl S_HI_BYTE_SHIFT (by decide) (by decide) rfl S_LO_BYTE_SHIFT) rfl (Ls := #[vr a1, vi 0, vi 4, vr b1, vi 2, vr b5_0]) hml.symm (argsL := [(.ref b5_0), (.int 2)]) (rest := []) (lenOf pd_13 rfl) (B d10_32) (W := 0)
        obtain ⟨rfl, Nq6, e6⟩ := hQ6
        have N6 := Fr.app N5 Nq6
        have cd7 : ¬ (i4 < 0) := (by rw [Int32.lt_iff_toInt_lt]; have := And.intro (own_lb cc3 255 (by decide)) (trivial); have := rng32 i4; have : ((0 : Int32)).toInt = 0 := (by decide); omega)
        have cd8 : 255 < (own_gc (nar .byte ((i4 >>> ((0 : Int32) &&& 31)).toInt8.toInt32)) (nar .byte ((i4 >>> ((8 : Int32) &&& 31)).toInt8.toInt32))) := (by rw [own_gcN i4 cd7 c9]; exact cc3)
        have sz_b5_0 : h0.size ≤ b5_0 := Nat.le_trans (Nat.le_trans s0 s1) o5_0
        have Kp0 := (Keep.refl h0 []).ext E1
        have sz_b1 : h0.size ≤ b1 := (Nat.le_of_eq g1.symm)
        have Kp1 := Kp0.trans K3 (allS (Or.inr sz_b1) all0)
        have Kp2 := Kp1.trans K5 all0
        refine ⟨T6, _, _, _, (some (.ref b5_0)), X6, nofun, by decide, by decide, ?_, fun fs hr => ?_⟩
        · rw [e6]
          exact ⟨b5_0, k5_1, rfl, N6, Kp2, sz_b5_0, o5_1, o5_2⟩
        · refine sI X0 hx (B d10_0) rfl ?_
          refine st1 _ ?_
          refine XS.astoreN X1.here hx rfl (B d10_3) rfl rfl (l' := #[vr a1, vi 0, vi 4, vr b1, un, un]) rfl ?_
          refine sA X1 hx (B d10_4) rfl rfl ?_
          refine sI X1 hx (B d10_5) rfl ?_
          refine sA X1 hx (B d10_6) rfl rfl ?_
          refine sC X1 hx (B d10_7) ?_
          refine sI X1 hx (B d10_8) rfl ?_
          refine st3 _ ?_
          refine XS.istore X3.here hx rfl (B d10_12) rfl (l' := #[vr a1, vi 0, vi 4, vr b1, vi 2, un]) rfl ?_
          refine sJ X3 hx (B d10_14) rfl ?_
          refine sI X3 hx (B d10_16) rfl ?_
          refine XS.icmpNo X3.here hx rfl (B d10_17) rfl (feq (by decide : ¬ ((2 : Int32) = (4 : Int32)))).1 ?_
          refine sA X3 hx (B d10_20) rfl rfl ?_
          refine sI X3 hx (B d10_21) rfl ?_
          refine sI X3 hx (B d10_22) rfl ?_
          refine st5 _ ?_
          refine XS.astore X5.here hx rfl (B d10_26) rfl rfl (l' := #[vr a1, vi 0, vi 4, vr b1, vi 2, vr b5_0]) rfl ?_
          refine sB X5 hx (B d10_28) rfl rfl ?_
          refine sJ X5 hx (B d10_30) rfl ?_
          refine st6 _ ?_
          refine XS.sipush X6.here hx rfl (B d10_35) ?_
          refine XS.icmpYes X6.here hx rfl (pc0 := 38) (pc' := 54) rfl (B d10_38) rfl (tlt cd8).2.2.1 (by decide) (by decide) ?_
          refine sB X6 hx (B d10_54) rfl rfl ?_
          exact retOut X6 hx hret rfl (Or.inr (Or.inr (Or.inr (Or.inr ⟨rfl, rfl, rfl⟩)))) (B d10_56) hr
      · by_cases cc4 : 255 < i5
        · obtain ⟨_, T3, L3, X3, hQ3, st3⟩ := own_callS X1 hx hZ hown (y := y_9) (w_57 hw) (w_58 hw) (w_55 hw) (w_59 hw) (rm119 l Z hw a1 b1 i2 i3 i4 i5 ck6 k1 h1 n0 z1 Va2 cc1 Vn1 g_b1 ne_a1_b1 cc2 cc3 cc4 B1) e1 (Ls := #[vr a1, vi 0, vi 4, vr b1, un, un]) hml.symm (argsL := [(.ref a1), (.int 0), (.ref b1), (.int 0), (.int 4)]) (rest := []) (lenOf pd_8 rfl) (B d10_9) (W := 0)
          obtain ⟨rfl, Nq3, K3, o3_0, o3_1⟩ := hQ3
          have N3 := Fr.app N0 Nq3
          have s1 := K3.1
          have Va4 := (Va2.keep K3 (ninS ne_a1_b1 nin0))
          have Od1 := Od0.ext E1
          have Od2 := Od1.keep K3 (allS g_b1 all0)
          have z2 := Nat.le_trans Z0 (Nat.le_trans s0 s1)
          obtain ⟨_, T5, L5, X5, hQ5, st5⟩ := own_callS X3 hx hZ hown (y := y_13) (w_60 hw) (w_61 hw) (w_55 hw) (w_62 hw) (rm116 l Z hw a1 i2 i3 i4 i5 ck6 T3.heap n0 z2 Va4 S__assertionsDisabled Od2 S_HI_BYTE_SHIFT S_LO_BYTE_SHIFT) rfl (Ls := #[vr a1, vi 0, vi 4, vr b1, vi 3, un]) hml.symm (argsL := [(.ref a1), (.int 0), (.int 4)]) (rest := []) (lenOf pd_12 rfl) (B d10_23) (W := 0)
          obtain ⟨b5_0, k5_1, rfl, Nq5, K5, o5_0, o5_1, o5_2⟩ := hQ5
          have N5 := Fr.app N3 Nq5
          have s2 := K5.1
          have Od3 := Od2.keep K5 all0
          have z3 := Nat.le_trans Z0 (Nat.le_trans (Nat.le_trans s0 s1) s2)
          obtain ⟨_, T6, L6, X6, hQ6, st6⟩ := own_callS X5 hx hZ hown (y := y_14) (w_76 hw) (w_77 hw) (w_55 hw) (w_78 hw) (rm16 l Z hw b5_0 (3 : Int32) [(.int (nar .byte ((i2 >>> ((0 : Int32) &&& 31)).toInt8.toInt32))), (.int (nar .byte ((i2 >>> ((8 : Int32) &&& 31)).toInt8.toInt32))), (.int (nar .byte ((i3 >>> ((0 : Int32) &&& 31)).toInt8.toInt32))), (.int (nar .byte ((i3 >>> ((8 : Int32) &&& 31)).toInt8.toInt32))), (.int (nar .byte ((i4 >>> ((0 : Int32) &&& 31)).toInt8.toInt32))), (.int (nar .byte ((i4 >>> ((8 : Int32) &&& 31)).toInt8.toInt32))), (.int (nar .byte ((i5 >>> ((0 : Int32) &&& 31)).toInt8.toInt32))), (.int (nar .byte ((i5 >>> ((8 : Int32) &&& 31)).toInt8.toInt32)))] k5_1 (8 : Int32) (nar .byte ((i5 >>> ((0 : Int32) &&& 31)).toInt8.toInt32)) (nar .byte ((i5 >>> ((8 : Int32) &&& 31)).toInt8.toInt32)) T5.heap n0 z3 S__assertionsDisabled Od3 o5_2 (by decide) (by decide) rfl S_HI_BYTE_SHIFT (by decide) (by decide) rfl S_LO_BYTE_SHIFT) rfl (Ls := #[vr a1, vi 0, vi 4, vr b1, vi 3, vr b5_0]) hml.symm (argsL := [(.ref b5_0), (.int 3)]) (rest := []) (lenOf pd_13 rfl) (B d10_32) (W := 0)
          obtain ⟨rfl, Nq6, e6⟩ := hQ6
          have N6 := Fr.app N5 Nq6
          have cd7 : ¬ (i5 < 0) := (by rw [Int32.lt_iff_toInt_lt]; have := And.intro (own_lb cc4 255 (by decide)) (trivial); have := rng32 i5; have : ((0 : Int32)).toInt = 0 := (by decide); omega)
          have cd8 : 255 < (own_gc (nar .byte ((i5 >>> ((0 : Int32) &&& 31)).toInt8.toInt32)) (nar .byte ((i5 >>> ((8 : Int32) &&& 31)).toInt8.toInt32))) := (by rw [own_gcN i5 cd7 c10]; exact cc4)
          have sz_b5_0 : h0.size ≤ b5_0 := Nat.le_trans (Nat.le_trans s0 s1) o5_0
          have Kp0 := (Keep.refl h0 []).ext E1
          have sz_b1 : h0.size ≤ b1 := (Nat.le_of_eq g1.symm)
          have Kp1 := Kp0.trans K3 (allS (Or.inr sz_b1) all0)
          have Kp2 := Kp1.trans K5 all0
          refine ⟨T6, _, _, _, (some (.ref b5_0)), X6, nofun, by decide, by decide, ?_, fun fs hr => ?_⟩
          · rw [e6]
            exact ⟨b5_0, k5_1, rfl, N6, Kp2, sz_b5_0, o5_1, o5_2⟩
          · refine sI X0 hx (B d10_0) rfl ?_
            refine st1 _ ?_
            refine XS.astoreN X1.here hx rfl (B d10_3) rfl rfl (l' := #[vr a1, vi 0, vi 4, vr b1, un, un]) rfl ?_
            refine sA X1 hx (B d10_4) rfl rfl ?_
            refine sI X1 hx (B d10_5) rfl ?_
            refine sA X1 hx (B d10_6) rfl rfl ?_
            refine sC X1 hx (B d10_7) ?_
            refine sI X1 hx (B d10_8) rfl ?_
            refine st3 _ ?_
            refine XS.istore X3.here hx rfl (B d10_12) rfl (l' := #[vr a1, vi 0, vi 4, vr b1, vi 3, un]) rfl ?_
            refine sJ X3 hx (B d10_14) rfl ?_
            refine sI X3 hx (B d10_16) rfl ?_
            refine XS.icmpNo X3.here hx rfl (B d10_17) rfl (feq (by decide : ¬ ((3 : Int32) = (4 : Int32)))).1 ?_
            refine sA X3 hx (B d10_20) rfl rfl ?_
            refine sI X3 hx (B d10_21) rfl ?_
            refine sI X3 hx (B d10_22) rfl ?_
            refine st5 _ ?_
            refine XS.astore X5.here hx rfl (B d10_26) rfl rfl (l' := #[vr a1, vi 0, vi 4, vr b1, vi 3, vr b5_0]) rfl ?_
            refine sB X5 hx (B d10_28) rfl rfl ?_
            refine sJ X5 hx (B d10_30) rfl ?_
            refine st6 _ ?_
            refine XS.sipush X6.here hx rfl (B d10_35) ?_
            refine XS.icmpYes X6.here hx rfl (pc0 := 38) (pc' := 54) rfl (B d10_38) rfl (tlt cd8).2.2.1 (by decide) (by decide) ?_
            refine sB X6 hx (B d10_54) rfl rfl ?_
            exact retOut X6 hx hret rfl (Or.inr (Or.inr (Or.inr (Or.inr ⟨rfl, rfl, rfl⟩)))) (B d10_56) hr
        · exact absurd c11 (by unfold own_cc3; rw [if_neg cc1, if_neg cc2, if_neg cc3, if_neg cc4]; decide)
theorem ef_3abfcd (a1 : Addr) (a2 : Addr) (m : MethodId) : entryFrame m #[(.ref a1), (.ref a2), (.int 0), (.int 4), .null] 6 = mkF m 0 #[.val (.ref a1), .val (.ref a2), .val (.int 0), .val (.int 4), .val .null, .unset] [] := by first | (simp [entryFrame, mkF, argsToLocals, Value.category]; done) | rfl
abbrev Rm122 : Room := rmk 4 2 12 57
def Q122 (Z : State) (a1 a2 : Addr) (i3 i5 i6 i7 i8 : Int32) (ck9 : ClassId) (h0 : Heap) (n0 : Nat) (v : Option Value) (h : Heap) (L : List Loc) : Prop := ∃ b3_0 : Addr, ∃ k3_1 : ClassId, v = none ∧ Fr n0 L ∧ Keep h0 h [a1] ∧ Exa Z h a1 jS ∧ Fld Z h a1 jS "coder" "B" (.int 1) ∧ Fld Z h a1 jS "value" "[B" (.ref b3_0) ∧ h0.size ≤ b3_0 ∧ Exa Z h b3_0 "[B" ∧ Arv Z h b3_0 k3_1 .byte 8 [(.int (nar .byte ((i5 >>> ((0 : Int32) &&& 31)).toInt8.toInt32))), (.int (nar .byte ((i5 >>> ((8 : Int32) &&& 31)).toInt8.toInt32))), (.int (nar .byte ((i6 >>> ((0 : Int32) &&& 31)).toInt8.toInt32))), (.int (nar .byte ((i6 >>> ((8 : Int32) &&& 31)).toInt8.toInt32))), (.int (nar .byte ((i7 >>> ((0 : Int32) &&& 31)).toInt8.toInt32))), (.int (nar .byte ((i7 >>> ((8 : Int32) &&& 31)).toInt8.toInt32))), (.int (nar .byte ((i8 >>> ((0 : Int32) &&& 31)).toInt8.toInt32))), (.int (nar .byte ((i8 >>> ((8 : Int32) &&& 31)).toInt8.toInt32)))] (.int 0)
theorem rm122 (l : Launch) (Z : State) {a0 : Array Value} (hw : OW a0 Z) (a1 a2 : Addr) (i3 i5 i6 i7 i8 : Int32) (ck9 : ClassId) (h0 : Heap) (n0 : Nat) (Z0 : n0 ≤ h0.size) (S_COMPACT_STRINGS : Sta Z Z.heap "java/lang/String" "COMPACT_STRINGS" "Z" (.int i3)) (Od0 : Old Z n0 h0) (c4 : ¬ (i3 = 0)) (V_a2 : Arv Z h0 a2 ck9 .char 4 [(.int i5), (.int i6), (.int i7), (.int i8)] (.int 0)) (S__assertionsDisabled : Sta Z Z.heap "java/lang/StringUTF16" "$assertionsDisabled" "Z" (.int 1)) (S_HI_BYTE_SHIFT : Sta Z Z.heap "java/lang/StringUTF16" "HI_BYTE_SHIFT" "I" (.int 0)) (S_LO_BYTE_SHIFT : Sta Z Z.heap "java/lang/StringUTF16" "LO_BYTE_SHIFT" "I" (.int 8)) (c10 : ¬ (65535 < i5)) (c11 : ¬ (65535 < i6)) (c12 : ¬ (65535 < i7)) (c13 : ¬ (65535 < i8)) (c14 : (own_cc3 i5 i6 i7 i8) = 0) (F_coder_a1 : Fld Z h0 a1 jS "coder" "B" (.int 0)) (E_a1 : Exa Z h0 a1 jS) (g_a1 : n0 ≤ a1) (F_value_a1 : Fld Z h0 a1 jS "value" "[B" .null) :
    OwnMet l Z y_2 jdk_42_method_149_code 6 none [] Rm122 #[(.ref a1), (.ref a2), (.int 0), (.int 4), .null] h0 (Q122 Z a1 a2 i3 i5 i6 i7 i8 ck9 h0 n0) := by
  refine own_body (plainFor_of_name pn_1) (ef_3abfcd a1 a2) ?_
  intro p e s m below meth c s₁ hx hby hml hown hnm hret hZ X0 e0
  have N0 := Fr.nil n0
  have B := hbx hby
  obtain ⟨T1, X1, e1, st1⟩ := initO X0 hx hZ hown (w_23 hw) (w_24 hw) (w_25 hw) e0 (g := (mkF m 1 #[vr a1, vr a2, vi 0, vi 4, .val .null, un] [(.ref a1)])) rfl hml.symm rfl (B d4_1) (by decide) (W := 0) (by show 2 * 0 + _ ≤ _; exact Nat.le_of_eq rfl) (by decide)
  obtain ⟨T2, X2, e2, st2⟩ := getS2 X1 hx hZ hown (host := "") (Or.inl (w_51 hw)) Via.refl e1 (S_COMPACT_STRINGS.ext Od0.2) (g := (mkF m 27 #[vr a1, vr a2, vi 0, vi 4, .val .null, un] [])) rfl (B d4_27)
  obtain ⟨_, T3, L3, X3, hQ3, st3⟩ := own_callS X2 hx hZ hown (y := y_15) (w_53 hw) (w_54 hw) (w_55 hw) (w_56 hw) (rm121 l Z hw a2 i5 i6 i7 i8 ck9 h0 n0 Z0 V_a2 S__assertionsDisabled Od0 S_HI_BYTE_SHIFT S_LO_BYTE_SHIFT c10 c11 c12 c13 c14) e2 (Ls := #[vr a1, vr a2, vi 0, vi 4, .val .null, un]) hml.symm (argsL := [(.ref a2), (.int 0), (.int 4)]) (rest := []) (lenOf pd_12 rfl) (B d4_36) (W := 0)
  obtain ⟨b3_0, k3_1, rfl, Nq3, K3, o3_0, o3_1, o3_2⟩ := hQ3
  have N3 := Fr.app N0 Nq3
  have s0 := K3.1
  have z1 := Nat.le_trans Z0 s0
  obtain ⟨_, T4, L4, X4, hQ4, st4⟩ := own_callS X3 hx hZ hown (y := y_16) (w_79 hw) (w_80 hw) (w_55 hw) (w_81 hw) (rm19 l Z hw b3_0 (4 : Int32) [(.int (nar .byte ((i5 >>> ((0 : Int32) &&& 31)).toInt8.toInt32))), (.int (nar .byte ((i5 >>> ((8 : Int32) &&& 31)).toInt8.toInt32))), (.int (nar .byte ((i6 >>> ((0 : Int32) &&& 31)).toInt8.toInt32))), (.int (nar .byte ((i6 >>> ((8 : Int32) &&& 31)).toInt8.toInt32))), (.int (nar .byte ((i7 >>> ((0 : Int32) &&& 31)).toInt8.toInt32))), (.int (nar .byte ((i7 >>> ((8 : Int32) &&& 31)).toInt8.toInt32))), (.int (nar .byte ((i8 >>> ((0 : Int32) &&& 31)).toInt8.toInt32))), (.int (nar .byte ((i8 >>> ((8 : Int32) &&& 31)).toInt8.toInt32)))] k3_1 (8 : Int32) T3.heap n0 z1 o3_2) rfl (Ls := #[vr a1, vr a2, vi 0, vi 4, .val .null, vr b3_0]) hml.symm (argsL := [(.ref b3_0), (.int 4)]) (rest := [(.ref a1)]) (lenOf pd_14 rfl) (B d4_45) (W := 1)
  obtain ⟨rfl, Nq4, e4⟩ := hQ4
  have N4 := Fr.app N3 Nq4
  have Fl5 := (F_coder_a1.keep K3 nin0)
  have Ex6 := (E_a1.keep K3)
  obtain ⟨T7, h7, X7, e7, W7, st7⟩ := putFN X4 hx hZ hown (w_33 hw) Via.refl e4 Fl5 Ex6 (Or.inr ⟨(w_29 hw), rfl, hnm⟩) (w_13 hw) (ty := .byte) (v' := (.int (nar .byte (1 : Int32)))) (by decide) rfl (fits_nar_byte _) (g := (mkF m 48 #[vr a1, vr a2, vi 0, vi 4, .val .null, vr b3_0] [(.int 1), (.ref a1)])) rfl rfl (B d4_48)
  have s1 := (Keep.of_wr W7).1
  have N7 := Fr.snoc X7 N4 g_a1
  have Fw7 : Fld Z h7 a1 jS "coder" "B" (.int 1) := Fl5.same W7
  have Ex8 := (Ex6.wr W7)
  have Fl9 := ((F_value_a1.keep K3 nin0).other W7 (Or.inr (slot_ne (Or.inr (w_28 hw)) (Or.inr (w_29 hw)) (by decide) (t := (.array .byte)) (t' := .byte) (by decide) (by decide))))
  obtain ⟨T10, h10, X10, e10, W10, st10⟩ := putF X7 hx hZ hown (host := "") (Or.inl (w_32 hw)) Via.refl e7 Fl9 Ex8 (Or.inr ⟨(w_28 hw), rfl, hnm⟩) (w_13 hw) (ty := (.array .byte)) (by decide) rfl rfl (g := (mkF m 54 #[vr a1, vr a2, vi 0, vi 4, .val .null, vr b3_0] [(.ref b3_0), (.ref a1)])) rfl rfl (B d4_54)
  have s2 := (Keep.of_wr W10).1
  have N10 := Fr.snoc X10 N7 g_a1
  have Fw10 : Fld Z h10 a1 jS "value" "[B" (.ref b3_0) := Fl9.same W10
  have Ex11 := (Ex8.wr W10)
  have Fl12 := (Fw7.other W10 (Or.inr (slot_ne (Or.inr (w_29 hw)) (Or.inr (w_28 hw)) (by decide) (t := .byte) (t' := (.array .byte)) (by decide) (by decide))))
  have sz_b3_0 : h0.size ≤ b3_0 := o3_0
  have Ex13 := ((o3_1.wr W7).wr W10)
  have ne_a1_b3_0 := Nat.ne_of_lt (Nat.lt_of_lt_of_le F_value_a1.lt o3_0)
  have Va14 := ((o3_2.other W7 (Ne.symm ne_a1_b3_0)).other W10 (Ne.symm ne_a1_b3_0))
  have Kp0 := (Keep.refl h0 [a1]).trans K3 all0
  have Kp1 := Kp0.wr W7 own_m0
  have Kp2 := Kp1.wr W10 own_m0
  refine ⟨T10, _, _, _, none, X10, (fun _ => rfl), by decide, by decide, ?_, fun fs hr => ?_⟩
  · rw [e10]
    exact ⟨b3_0, k3_1, rfl, N10, Kp2, Ex11, Fl12, Fw10, sz_b3_0, Ex13, Va14⟩
  · refine sA X0 hx (B d4_0) rfl rfl ?_
    refine st1 _ ?_
    refine sI X1 hx (B d4_4) rfl ?_
    refine XS.ifYes X1.here hx rfl (pc0 := 5) (pc' := 27) rfl (B d4_5) rfl ((if0 _ _).trans (feq (by decide : ¬ ((4 : Int32) = (0 : Int32)))).2) (by decide) (by decide) ?_
    refine st2 _ ?_
    refine XS.ifNo X2.here hx rfl (B d4_30) rfl ((if0 _ _).trans (feq c4).1) ?_
    refine sA X2 hx (B d4_33) rfl rfl ?_
    refine sI X2 hx (B d4_34) rfl ?_
    refine sI X2 hx (B d4_35) rfl ?_
    refine st3 _ ?_
    refine XS.astore X3.here hx rfl (B d4_39) rfl rfl (l' := #[vr a1, vr a2, vi 0, vi 4, .val .null, vr b3_0]) rfl ?_
    refine sA X3 hx (B d4_41) rfl rfl ?_
    refine sB X3 hx (B d4_42) rfl rfl ?_
    refine sI X3 hx (B d4_44) rfl ?_
    refine st4 _ ?_
    refine st7 _ ?_
    refine sA X7 hx (B d4_51) rfl rfl ?_
    refine sB X7 hx (B d4_52) rfl rfl ?_
    refine st10 _ ?_
    exact X10.returnOut hx hret (B d4_57) hr
abbrev Rm123 : Room := rmk 5 2 12 74
def Q123 (Z : State) (a1 a2 : Addr) (i3 i4 i5 i6 : Int32) (ck7 : ClassId) (i8 : Int32) (h0 : Heap) (n0 : Nat) (v : Option Value) (h : Heap) (L : List Loc) : Prop := ∃ b2_0 : Addr, ∃ k2_1 : ClassId, v = none ∧ Fr n0 L ∧ Keep h0 h [a1] ∧ Exa Z h a1 jS ∧ Fld Z h a1 jS "coder" "B" (.int 1) ∧ Fld Z h a1 jS "value" "[B" (.ref b2_0) ∧ h0.size ≤ b2_0 ∧ Exa Z h b2_0 "[B" ∧ Arv Z h b2_0 k2_1 .byte 8 [(.int (nar .byte ((i3 >>> ((0 : Int32) &&& 31)).toInt8.toInt32))), (.int (nar .byte ((i3 >>> ((8 : Int32) &&& 31)).toInt8.toInt32))), (.int (nar .byte ((i4 >>> ((0 : Int32) &&& 31)).toInt8.toInt32))), (.int (nar .byte ((i4 >>> ((8 : Int32) &&& 31)).toInt8.toInt32))), (.int (nar .byte ((i5 >>> ((0 : Int32) &&& 31)).toInt8.toInt32))), (.int (nar .byte ((i5 >>> ((8 : Int32) &&& 31)).toInt8.toInt32))), (.int (nar .byte ((i6 >>> ((0 : Int32) &&& 31)).toInt8.toInt32))), (.int (nar .byte ((i6 >>> ((8 : Int32) &&& 31)).toInt8.toInt32)))] (.int 0)
theorem rm123 (l : Launch) (Z : State) {a0 : Array Value} (hw : OW a0 Z) (a1 a2 : Addr) (i3 i4 i5 i6 : Int32) (ck7 : ClassId) (i8 : Int32) (h0 : Heap) (n0 : Nat) (Z0 : n0 ≤ h0.size) (V_a2 : Arv Z h0 a2 ck7 .char 4 [(.int i3), (.int i4), (.int i5), (.int i6)] (.int 0)) (S_COMPACT_STRINGS : Sta Z Z.heap "java/lang/String" "COMPACT_STRINGS" "Z" (.int i8)) (Od0 : Old Z n0 h0) (c9 : ¬ (i8 = 0)) (S__assertionsDisabled : Sta Z Z.heap "java/lang/StringUTF16" "$assertionsDisabled" "Z" (.int 1)) (S_HI_BYTE_SHIFT : Sta Z Z.heap "java/lang/StringUTF16" "HI_BYTE_SHIFT" "I" (.int 0)) (S_LO_BYTE_SHIFT : Sta Z Z.heap "java/lang/StringUTF16" "LO_BYTE_SHIFT" "I" (.int 8)) (c10 : ¬ (65535 < i3)) (c11 : ¬ (65535 < i4)) (c12 : ¬ (65535 < i5)) (c13 : ¬ (65535 < i6)) (c14 : (own_cc3 i3 i4 i5 i6) = 0) (F_coder_a1 : Fld Z h0 a1 jS "coder" "B" (.int 0)) (E_a1 : Exa Z h0 a1 jS) (g_a1 : n0 ≤ a1) (F_value_a1 : Fld Z h0 a1 jS "value" "[B" .null) :
    OwnMet l Z y_3 jdk_42_method_3_code 2 none [] Rm123 #[(.ref a1), (.ref a2)] h0 (Q123 Z a1 a2 i3 i4 i5 i6 ck7 i8 h0 n0) := by
  refine own_body (plainFor_of_name pn_1) (ef_463e93 a1 a2) ?_
  intro p e s m below meth c s₁ hx hby hml hown hnm hret hZ X0 e0
  have N0 := Fr.nil n0
  have B := hbx hby
  obtain ⟨cl1, Ar1, q1, S1, M1, Hs1, G1⟩ := id V_a2
  obtain ⟨_, T2, L2, X2, hQ2, st2⟩ := own_special X0 hx hZ hown (y := y_2) (a := a1) (w_19 hw) (w_20 hw) (w_14 hw) (w_22 hw) (rm122 l Z hw a1 a2 i8 i3 i4 i5 i6 ck7 h0 n0 Z0 S_COMPACT_STRINGS Od0 c9 V_a2 S__assertionsDisabled S_HI_BYTE_SHIFT S_LO_BYTE_SHIFT c10 c11 c12 c13 c14 F_coder_a1 E_a1 g_a1 F_value_a1) e0 (Ls := #[vr a1, vr a2]) hml.symm (argsL := [(.ref a2), (.int 0), (.int 4), .null]) (rest := []) (lenOf pd_1 rfl) (B d3_6) (W := 0)
  obtain ⟨b2_0, k2_1, rfl, Nq2, K2, o2_0, o2_1, o2_2, o2_3, o2_4, o2_5⟩ := hQ2
  have N2 := Fr.app N0 Nq2
  have s0 := K2.1
  have sz_b2_0 : h0.size ≤ b2_0 := o2_3
  have Kp0 := (Keep.refl h0 [a1]).trans K2 (allS own_m0 all0)
  refine ⟨T2, _, _, _, none, X2, (fun _ => rfl), by decide, by decide, ?_, fun fs hr => ?_⟩
  · exact ⟨b2_0, k2_1, rfl, N2, Kp0, o2_0, o2_1, o2_2, sz_b2_0, o2_4, o2_5⟩
  · refine sA X0 hx (B d3_0) rfl rfl ?_
    refine sA X0 hx (B d3_1) rfl rfl ?_
    refine sC X0 hx (B d3_2) ?_
    refine sA X0 hx (B d3_3) rfl rfl ?_
    refine X0.arraylength hx (by rw [e0]; exact Ar1.1) (State.isArrayOf_alike hZ.alike Ar1.2.1) (g := (mkF m 4 #[vr a1, vr a2] [(.ref a2), (.int 0), (.ref a2), (.ref a1)])) rfl rfl (B d3_4) _ ?_
    show Steps p.tables e below (s₁.setTop (mkF m 5 #[vr a1, vr a2] [(.int cl1.slots.size.toInt32), (.int 0), (.ref a2), (.ref a1)])) _
    rw [len_of S1 M1]
    refine XS.aconstNull X0.here hx rfl (B d3_5) ?_
    refine st2 _ ?_
    exact X2.returnOut hx hret (B d3_9) hr
theorem d2_114 : decode Kc2 114 = .ok (.areturn, 1) := by decide +kernel
theorem ef_05a483 (i1 : Int32) (i2 : Int32) (i3 : Int32) (i4 : Int32) (m : MethodId) : entryFrame m #[(.int 4), (.int i1), (.int i2), (.int i3), (.int i4)] 5 = mkF m 0 #[.val (.int 4), .val (.int i1), .val (.int i2), .val (.int i3), .val (.int i4)] [] := by first | (simp [entryFrame, mkF, argsToLocals, Value.category]; done) | rfl
abbrev Rm124 : Room := rmk 6 4 20 88
def Q124 (Z : State) (i1 i2 i3 i4 i5 : Int32) (h0 : Heap) (n0 : Nat) (v : Option Value) (h : Heap) (L : List Loc) : Prop := ∃ b1 : Addr, ∃ b22_0 : Addr, ∃ k22_1 : ClassId, v = some (.ref b1) ∧ Fr n0 L ∧ Keep h0 h [] ∧ h0.size ≤ b1 ∧ Exa Z h b1 jS ∧ Fld Z h b1 jS "coder" "B" (.int 1) ∧ Fld Z h b1 jS "value" "[B" (.ref b22_0) ∧ h0.size ≤ b22_0 ∧ Exa Z h b22_0 "[B" ∧ Arv Z h b22_0 k22_1 .byte 8 [(.int (nar .byte (((nar .char i1) >>> ((0 : Int32) &&& 31)).toInt8.toInt32))), (.int (nar .byte (((nar .char i1) >>> ((8 : Int32) &&& 31)).toInt8.toInt32))), (.int (nar .byte (((nar .char i2) >>> ((0 : Int32) &&& 31)).toInt8.toInt32))), (.int (nar .byte (((nar .char i2) >>> ((8 : Int32) &&& 31)).toInt8.toInt32))), (.int (nar .byte (((nar .char i3) >>> ((0 : Int32) &&& 31)).toInt8.toInt32))), (.int (nar .byte (((nar .char i3) >>> ((8 : Int32) &&& 31)).toInt8.toInt32))), (.int (nar .byte (((nar .char i4) >>> ((0 : Int32) &&& 31)).toInt8.toInt32))), (.int (nar .byte (((nar .char i4) >>> ((8 : Int32) &&& 31)).toInt8.toInt32)))] (.int 0) ∧ b1 ≠ b22_0
theorem rm124 (l : Launch) (Z : State) {a0 : Array Value} (hw : OW a0 Z) (i1 i2 i3 i4 i5 : Int32) (h0 : Heap) (n0 : Nat) (Z0 : n0 ≤ h0.size) (S_COMPACT_STRINGS : Sta Z Z.heap "java/lang/String" "COMPACT_STRINGS" "Z" (.int i5)) (Od0 : Old Z n0 h0) (c6 : ¬ (i5 = 0)) (S__assertionsDisabled : Sta Z Z.heap "java/lang/StringUTF16" "$assertionsDisabled" "Z" (.int 1)) (S_HI_BYTE_SHIFT : Sta Z Z.heap "java/lang/StringUTF16" "HI_BYTE_SHIFT" "I" (.int 0)) (S_LO_BYTE_SHIFT : Sta Z Z.heap "java/lang/StringUTF16" "LO_BYTE_SHIFT" "I" (.int 8)) (c7 : (own_cc3 (nar .char i1) (nar .char i2) (nar .char i3) (nar .char i4)) = 0) :
    OwnMet l Z y_4 method_4_code 5 (some (.object "java/lang/String")) [] Rm124 #[(.int 4), (.int i1), (.int i2), (.int i3), (.int i4)] h0 (Q124 Z i1 i2 i3 i4 i5 h0 n0) := by
  refine own_body (plainFor_of_name pn_0) (ef_05a483 i1 i2 i3 i4) ?_
  intro p e s m below meth c s₁ hx hby hml hown hnm hret hZ X0 e0
  have N0 := Fr.nil n0
  have B := hbx hby
  obtain ⟨T1, h1, X1, e1, E1, A1, D1, -, st1⟩ := newO X0 hx hZ hown (w_12 hw) (w_13 hw) (w_14 hw) e0 (g := (mkF m 87 #[vi 4, vi i1, vi i2, vi i3, vi i4] [])) rfl (B d2_87) (by decide) (by decide)
  obtain ⟨b1, g1⟩ : ∃ z, z = h0.size := ⟨_, rfl⟩
  rw [← g1] at A1 D1 st1
  have s0 := E1.1
  have Fn1_value : Fld Z h1 b1 jS "value" "[B" .null := D1 (Or.inr (w_28 hw)) (ty := (.array .byte)) (by decide)
  have Fn1_coder : Fld Z h1 b1 jS "coder" "B" (.int 0) := D1 (Or.inr (w_29 hw)) (ty := .byte) (by decide)
  obtain ⟨T2, h2, k2, X2, e2, E2, A2, B2, st2⟩ := newPE (aty := .char) X1 hx hZ (w_15 hw) e1 (g := (mkF m 92 #[vi 4, vi i1, vi i2, vi i3, vi i4] [(.int 4), (.ref b1), (.ref b1)])) rfl (B d2_92) rfl (by decide) (cap := 4) (by decide) (by decide) (by decide) (by decide) (ad := "[C") (by decide)
  obtain ⟨b2, g2⟩ : ∃ z, z = h1.size := ⟨_, rfl⟩
  rw [← g2] at A2 B2 st2
  have s1 := E2.1
  have Vn2 : Arv Z h2 b2 k2 .char 4 [(.int 0), (.int 0), (.int 0), (.int 0)] (.int 0) := (Arv.new A2 (by decide)).pad (pad_rep [] (.int 0) 4)
  obtain ⟨cl3, Ar3, q3, S3, M3, Hs3, G3⟩ := id Vn2
  have hin4 := inb_of (j := 0) S3 ⟨by decide, by decide⟩
  obtain ⟨T5, h5, X5, e5, W5, st5⟩ := stC X2 hx hZ e2 Ar3 (j := 0) hin4 (g := (mkF m 97 #[vi 4, vi i1, vi i2, vi i3, vi i4] [(.int i1), (.int 0), (.ref b2), (.ref b2), (.ref b1), (.ref b1)])) rfl rfl (B d2_97)
  have s2 := (Keep.of_wr W5).1
  have z1 := Nat.le_trans Z0 s0
  have g_b2 : n0 ≤ b2 := Nat.le_trans z1 (Nat.le_of_eq g2.symm)
  have N5 := Fr.snoc X5 N0 g_b2
  have Vs5 : Arv Z h5 b2 k2 .char 4 [(.int (nar .char i1)), (.int 0), (.int 0), (.int 0)] (.int 0) := Arv.set Ar3 q3 S3 M3 Hs3 G3 (fits_nar_char _) W5 0 rfl (nl rfl)
  obtain ⟨cl6, Ar6, q6, S6, M6, Hs6, G6⟩ := id Vs5
  have hin7 := inb_of (j := 1) S6 ⟨by decide, by decide⟩
  obtain ⟨T8, h8, X8, e8, W8, st8⟩ := stC X5 hx hZ e5 Ar6 (j := 1) hin7 (g := (mkF m 101 #[vi 4, vi i1, vi i2, vi i3, vi i4] [(.int i2), (.int 1), (.ref b2), (.ref b2), (.ref b1), (.ref b1)])) rfl rfl (B d2_101)
  have s3 := (Keep.of_wr W8).1
  have N8 := Fr.snoc X8 N5 g_b2
  have Vs8 : Arv Z h8 b2 k2 .char 4 [(.int (nar .char i1)), (.int (nar .char i2)), (.int 0), (.int 0)] (.int 0) := Arv.set Ar6 q6 S6 M6 Hs6 G6 (fits_nar_char _) W8 1 rfl (nl rfl)
  obtain ⟨cl9, Ar9, q9, S9, M9, Hs9, G9⟩ := id Vs8
  have hin10 := inb_of (j := 2) S9 ⟨by decide, by decide⟩
  obtain ⟨T11, h11, X11, e11, W11, st11⟩ := stC X8 hx hZ e8 Ar9 (j := 2) hin10 (g := (mkF m 105 #[vi 4, vi i1, vi i2, vi i3, vi i4] [(.int i3), (.int 2), (.ref b2), (.ref b2), (.ref b1), (.ref b1)])) rfl rfl (B d2_105)
  have s4 := (Keep.of_wr W11).1
  have N11 := Fr.snoc X11 N8 g_b2
  have Vs11 : Arv Z h11 b2 k2 .char 4 [(.int (nar .char i1)), (.int (nar .char i2)), (.int (nar .char i3)), (.int 0)] (.int 0) := Arv.set Ar9 q9 S9 M9 Hs9 G9 (fits_nar_char _) W11 2 rfl (nl rfl)
  obtain ⟨cl12, Ar12, q12, S12, M12, Hs12, G12⟩ := id Vs11
  have hin13 := inb_of (j := 3) S12 ⟨by decide, by decide⟩
  obtain ⟨T14, h14, X14, e14, W14, st14⟩ := stC X11 hx hZ e11 Ar12 (j := 3) hin13 (g := (mkF m 110 #[vi 4, vi i1, vi i2, vi i3, vi i4] [(.int i4), (.int 3), (.ref b2), (.ref b2), (.ref b1), (.ref b1)])) rfl rfl (B d2_110)
  have s5 := (Keep.of_wr W14).1
  have N14 := Fr.snoc X14 N11 g_b2
  have Vs14 : Arv Z h14 b2 k2 .char 4 [(.int (nar .char i1)), (.int (nar .char i2)), (.int (nar .char i3)), (.int (nar .char i4))] (.int 0) := Arv.set Ar12 q12 S12 M12 Hs12 G12 (fits_nar_char _) W14 3 rfl (nl rfl)
  have Od1 := Od0.ext E1
  have Od2 := Od1.ext E2
  have Od3 := Od2.wr W5 g_b2
  have Od4 := Od3.wr W8 g_b2
  have Od5 := Od4.wr W11 g_b2
  have Od6 := Od5.wr W14 g_b2
  have cd15 : ¬ (65535 < (nar .char i1)) := (by rw [Int32.lt_iff_toInt_lt]; have : ((65535 : Int32)).toInt = 65535 := (by decide); have := rng32 (nar .char i1); have := rng32 i1; have := own_c_nar_char i1; omega)
  have cd16 : ¬ (65535 < (nar .char i2)) := (by rw [Int32.lt_iff_toInt_lt]; have : ((65535 : Int32)).toInt = 65535 := (by decide); have := rng32 (nar .char i2); have := rng32 i2; have := own_c_nar_char i2; omega)
  have cd17 : ¬ (65535 < (nar .char i3)) := (by rw [Int32.lt_iff_toInt_lt]; have : ((65535 : Int32)).toInt = 65535 := (by decide); have := rng32 (nar .char i3); have := rng32 i3; have := own_c_nar_char i3; omega)
  have cd18 : ¬ (65535 < (nar .char i4)) := (by rw [Int32.lt_iff_toInt_lt]; have : ((65535 : Int32)).toInt = 65535 := (by decide); have := rng32 (nar .char i4); have := rng32 i4; have := own_c_nar_char i4; omega)
  have ne_b1_b2 := Nat.ne_of_lt (Nat.lt_of_lt_of_le Fn1_value.lt (Nat.le_of_eq g2.symm))
  have Fl19 := (((((Fn1_coder.ext E2).other W5 (Or.inl ne_b1_b2)).other W8 (Or.inl ne_b1_b2)).other W11 (Or.inl ne_b1_b2)).other W14 (Or.inl ne_b1_b2))
  have Ex20 := (((((A1.ext E2).wr W5).wr W8).wr W11).wr W14)
  have g_b1 : n0 ≤ b1 := Nat.le_trans Z0 (Nat.le_of_eq g1.symm)
  have Fl21 := (((((Fn1_value.ext E2).other W5 (Or.inl ne_b1_b2)).other W8 (Or.inl ne_b1_b2)).other W11 (Or.inl ne_b1_b2)).other W14 (Or.inl ne_b1_b2))
  have z6 := Nat.le_trans Z0 (Nat.le_trans (Nat.le_trans (Nat.le_trans (Nat.le_trans (Nat.le_trans s0 s1) s2) s3) s4) s5)
  obtain ⟨_, T22, L22, X22, hQ22, st22⟩ := own_special X14 hx hZ hown (y := y_3) (a := b1) (w_16 hw) (w_17 hw) (w_14 hw) (w_18 hw) (rm123 l Z hw b1 b2 (nar .char i1) (nar .char i2) (nar .char i3) (nar .char i4) k2 i5 h14 n0 z6 Vs14 S_COMPACT_STRINGS Od6 c6 S__assertionsDisabled S_HI_BYTE_SHIFT S_LO_BYTE_SHIFT cd15 cd16 cd17 cd18 c7 Fl19 Ex20 g_b1 Fl21) e14 (Ls := #[vi 4, vi i1, vi i2, vi i3, vi i4]) hml.symm (argsL := [(.ref b2)]) (rest := [(.ref b1)]) (lenOf pd_2 rfl) (B d2_111) (W := 1)
  obtain ⟨b22_0, k22_1, rfl, Nq22, K22, o22_0, o22_1, o22_2, o22_3, o22_4, o22_5⟩ := hQ22
  have N22 := Fr.app N14 Nq22
  have s6 := K22.1
  have sz_b1 : h0.size ≤ b1 := (Nat.le_of_eq g1.symm)
  have sz_b22_0 : h0.size ≤ b22_0 := Nat.le_trans (Nat.le_trans (Nat.le_trans (Nat.le_trans (Nat.le_trans (Nat.le_trans s0 s1) s2) s3) s4) s5) o22_3
  have ne_b1_b22_0 := Nat.ne_of_lt (Nat.lt_of_lt_of_le Fl21.lt o22_3)
  have Kp0 := (Keep.refl h0 []).ext E1
  have Kp1 := Kp0.ext E2
  have sz_b2 : h0.size ≤ b2 := Nat.le_trans s0 (Nat.le_of_eq g2.symm)
  have Kp2 := Kp1.wr W5 (Or.inr sz_b2)
  have Kp3 := Kp2.wr W8 (Or.inr sz_b2)
  have Kp4 := Kp3.wr W11 (Or.inr sz_b2)
  have Kp5 := Kp4.wr W14 (Or.inr sz_b2)
  have Kp6 := Kp5.trans K22 (allS (Or.inr sz_b1) all0)
  refine ⟨T22, _, _, _, (some (.ref b1)), X22, nofun, by decide, by decide, ?_, fun fs hr => ?_⟩
  · exact ⟨b1, b22_0, k22_1, rfl, N22, Kp6, sz_b1, o22_0, o22_1, o22_2, sz_b22_0, o22_4, o22_5, ne_b1_b22_0⟩
  · refine sI X0 hx (B d2_0) rfl ?_
    refine XS.ifYes X0.here hx rfl (pc0 := 1) (pc' := 15) rfl (B d2_1) rfl ((if0 _ _).trans (feq (by decide : ¬ ((4 : Int32) = (0 : Int32)))).2) (by decide) (by decide) ?_
    refine sI X0 hx (B d2_15) rfl ?_
    refine sC X0 hx (B d2_16) ?_
    refine XS.icmpYes X0.here hx rfl (pc0 := 17) (pc' := 35) rfl (B d2_17) rfl (feq (by decide : ¬ ((4 : Int32) = (1 : Int32)))).2 (by decide) (by decide) ?_
    refine sI X0 hx (B d2_35) rfl ?_
    refine sC X0 hx (B d2_36) ?_
    refine XS.icmpYes X0.here hx rfl (pc0 := 37) (pc' := 59) rfl (B d2_37) rfl (feq (by decide : ¬ ((4 : Int32) = (2 : Int32)))).2 (by decide) (by decide) ?_
    refine sI X0 hx (B d2_59) rfl ?_
    refine sC X0 hx (B d2_60) ?_
    refine XS.icmpYes X0.here hx rfl (pc0 := 61) (pc' := 87) rfl (B d2_61) rfl (feq (by decide : ¬ ((4 : Int32) = (3 : Int32)))).2 (by decide) (by decide) ?_
    refine st1 _ ?_
    refine XS.dup X1.here hx rfl (B d2_90) rfl rfl ?_
    refine sC X1 hx (B d2_91) ?_
    refine st2 _ ?_
    refine XS.dup X2.here hx rfl (B d2_94) rfl rfl ?_
    refine sC X2 hx (B d2_95) ?_
    refine sI X2 hx (B d2_96) rfl ?_
    refine st5 _ ?_
    refine XS.dup X5.here hx rfl (B d2_98) rfl rfl ?_
    refine sC X5 hx (B d2_99) ?_
    refine sI X5 hx (B d2_100) rfl ?_
    refine st8 _ ?_
    refine XS.dup X8.here hx rfl (B d2_102) rfl rfl ?_
    refine sC X8 hx (B d2_103) ?_
    refine sI X8 hx (B d2_104) rfl ?_
    refine st11 _ ?_
    refine XS.dup X11.here hx rfl (B d2_106) rfl rfl ?_
    refine sC X11 hx (B d2_107) ?_
    refine sJ X11 hx (B d2_108) rfl ?_
    refine st14 _ ?_
    refine st22 _ ?_
    exact retOut X22 hx hret rfl (Or.inr (Or.inr (Or.inr (Or.inr ⟨rfl, rfl, rfl⟩)))) (B d2_114) hr
def own_ex3 (v0 v1 v2 v3 : Int32) : Int32 := (if (own_ln1 v0 v1) = 0 then (if (own_ln3 v1 v0 v2) = 0 then (if (own_ln3 v2 v1 v3) = 0 then (if (own_ln2 v3 v2) = 0 then (-1 : Int32) else (3 : Int32)) else (2 : Int32)) else (1 : Int32)) else (0 : Int32))
theorem tn125 (l : Launch) (Z : State) {a0 : Array Value} (hw : OW a0 Z) (i1 i2 i3 i4 i5 i6 i7 i8 i9 : Int32) (a10 a11 : Addr) (i12 i13 i14 i15 : Int32) (ck16 : ClassId) (h0 : Heap) (n0 : Nat) (Z0 : n0 ≤ h0.size) (V_a11 : Arv Z h0 a11 ck16 .char 4 [(.int i12), (.int i13), (.int i14), (.int i15)] (.int 0)) {p : Program} {e : Env} {s : State} {m : MethodId} {args : Array Value} {below : List Frame} {meth : Method} {c : Code} {s₁ : State} {L0 : List Loc} {ce sl : Nat} (hx : p.tables.exec = Jvm.exec) (hby : c.code = code) (hml : c.maxLocals = maxLocals) (hown : s.vm.findClass "com/example/sidwire/sidwire/cbor/CborWriterUnpairedSurrogatePinLaw" = some m.cls) (hZ : Z.Warmed39 s.vm) (X0 : Stand p l e room_1 s m args below meth c s₁ L0 ce sl) (e0 : s₁.heap = h0) (N0 : Fr n0 L0) (hce : ce ≤ room_1.cells) (hsl : sl ≤ room_1.slots) :
    ∃ (T : State) (L : List Loc), Stand p l e room_1 s m args below meth c T L ce sl ∧ T.heap = h0 ∧ Fr n0 L ∧ ∀ target, Steps p.tables e below (T.setTop (mkF m 144 #[vi i1, vi i2, vi i3, vi i4, vi i5, vi 4, vi i6, vi i7, vi i8, vi i9, vr a10, vr a11, vi (own_ex3 i12 i13 i14 i15)] [])) target → Steps p.tables e below (s₁.setTop (mkF m 73 #[vi i1, vi i2, vi i3, vi i4, vi i5, vi 4, vi i6, vi i7, vi i8, vi i9, vr a10, vr a11, un] [])) target := by
  have B := hbx hby
  obtain ⟨_, T1, L1, X1, hQ1, st1⟩ := own_callS X0 hx hZ hown (y := y_5) (w_34 hw) (w_35 hw) (w_3 hw) (w_36 hw) (rm69 l Z hw a11 (4 : Int32) (0 : Int32) [(.int i12), (.int i13), (.int i14), (.int i15)] ck16 (4 : Int32) i12 i13 h0 n0 Z0 (by decide) V_a11 (by decide) (by decide) rfl (by decide) (by decide) (by decide) (by decide) rfl) e0 (Ls := #[vi i1, vi i2, vi i3, vi i4, vi i5, vi 4, vi i6, vi i7, vi i8, vi i9, vr a10, vr a11, un]) hml.symm (argsL := [(.ref a11), (.int 4), (.int 0)]) (rest := []) (lenOf pd_4 rfl) (B at_78) (W := 0) (hc := hce) (hs := hsl)
  obtain ⟨rfl, Nq1, e1⟩ := hQ1
  have N1 := Fr.app N0 Nq1
  by_cases cc1 : (own_ln1 i12 i13) = 0
  · obtain ⟨_, T2, L2, X2, hQ2, st2⟩ := own_callS X1 hx hZ hown (y := y_5) (w_34 hw) (w_35 hw) (w_3 hw) (w_36 hw) (rm101 l Z hw a11 (4 : Int32) (1 : Int32) [(.int i12), (.int i13), (.int i14), (.int i15)] ck16 (4 : Int32) i13 i12 i14 h0 n0 Z0 (by decide) V_a11 (by decide) (by decide) rfl (by decide) (by decide) rfl (by decide) (by decide) (by decide) rfl) e1 (Ls := #[vi i1, vi i2, vi i3, vi i4, vi i5, vi 4, vi i6, vi i7, vi i8, vi i9, vr a10, vr a11, un]) hml.symm (argsL := [(.ref a11), (.int 4), (.int 1)]) (rest := []) (lenOf pd_4 rfl) (B at_95) (W := 0) (hc := hce) (hs := hsl)
    obtain ⟨rfl, Nq2, e2⟩ := hQ2
    have N2 := Fr.app N1 Nq2
    by_cases cc2 : (own_ln3 i13 i12 i14) = 0
    · obtain ⟨_, T3, L3, X3, hQ3, st3⟩ := own_callS X2 hx hZ hown (y := y_5) (w_34 hw) (w_35 hw) (w_3 hw) (w_36 hw) (rm101 l Z hw a11 (4 : Int32) (2 : Int32) [(.int i12), (.int i13), (.int i14), (.int i15)] ck16 (4 : Int32) i14 i13 i15 h0 n0 Z0 (by decide) V_a11 (by decide) (by decide) rfl (by decide) (by decide) rfl (by decide) (by decide) (by decide) rfl) e2 (Ls := #[vi i1, vi i2, vi i3, vi i4, vi i5, vi 4, vi i6, vi i7, vi i8, vi i9, vr a10, vr a11, un]) hml.symm (argsL := [(.ref a11), (.int 4), (.int 2)]) (rest := []) (lenOf pd_4 rfl) (B at_112) (W := 0) (hc := hce) (hs := hsl)
      obtain ⟨rfl, Nq3, e3⟩ := hQ3
      have N3 := Fr.app N2 Nq3
      by_cases cc3 : (own_ln3 i14 i13 i15) = 0
      · obtain ⟨_, T4, L4, X4, hQ4, st4⟩ := own_callS X3 hx hZ hown (y := y_5) (w_34 hw) (w_35 hw) (w_3 hw) (w_36 hw) (rm70 l Z hw a11 (4 : Int32) (3 : Int32) [(.int i12), (.int i13), (.int i14), (.int i15)] ck16 (4 : Int32) i15 i14 h0 n0 Z0 (by decide) V_a11 (by decide) (by decide) rfl (by decide) (by decide) rfl (by decide)) e3 (Ls := #[vi i1, vi i2, vi i3, vi i4, vi i5, vi 4, vi i6, vi i7, vi i8, vi i9, vr a10, vr a11, un]) hml.symm (argsL := [(.ref a11), (.int 4), (.int 3)]) (rest := []) (lenOf pd_4 rfl) (B at_129) (W := 0) (hc := hce) (hs := hsl)
        obtain ⟨rfl, Nq4, e4⟩ := hQ4
        have N4 := Fr.app N3 Nq4
        by_cases cc4 : (own_ln2 i15 i14) = 0
        · refine ⟨T4, _, X4, e4, N4, fun target hr => ?_⟩
          refine sB X0 hx (B at_73) rfl rfl ?_
          refine sJ X0 hx (B at_75) rfl ?_
          refine sC X0 hx (B at_77) ?_
          refine st1 _ ?_
          refine XS.ifYes X1.here hx rfl (pc0 := 81) (pc' := 90) rfl (B at_81) rfl ((if0 _ _).trans (teq cc1).1) (by decide) (by decide) ?_
          refine sB X1 hx (B at_90) rfl rfl ?_
          refine sJ X1 hx (B at_92) rfl ?_
          refine sC X1 hx (B at_94) ?_
          refine st2 _ ?_
          refine XS.ifYes X2.here hx rfl (pc0 := 98) (pc' := 107) rfl (B at_98) rfl ((if0 _ _).trans (teq cc2).1) (by decide) (by decide) ?_
          refine sB X2 hx (B at_107) rfl rfl ?_
          refine sJ X2 hx (B at_109) rfl ?_
          refine sC X2 hx (B at_111) ?_
          refine st3 _ ?_
          refine XS.ifYes X3.here hx rfl (pc0 := 115) (pc' := 124) rfl (B at_115) rfl ((if0 _ _).trans (teq cc3).1) (by decide) (by decide) ?_
          refine sB X3 hx (B at_124) rfl rfl ?_
          refine sJ X3 hx (B at_126) rfl ?_
          refine sC X3 hx (B at_128) ?_
          refine st4 _ ?_
          refine XS.ifYes X4.here hx rfl (pc0 := 132) (pc' := 141) rfl (B at_132) rfl ((if0 _ _).trans (teq cc4).1) (by decide) (by decide) ?_
          refine sC X4 hx (B at_141) ?_
          refine XS.istore X4.here hx rfl (B at_142) rfl (l' := #[vi i1, vi i2, vi i3, vi i4, vi i5, vi 4, vi i6, vi i7, vi i8, vi i9, vr a10, vr a11, vi (-1)]) rfl ?_
          rw [show (own_ex3 i12 i13 i14 i15) = (-1 : Int32) from by unfold own_ex3; rw [if_pos cc1, if_pos cc2, if_pos cc3, if_pos cc4]] at hr
          exact hr
        · refine ⟨T4, _, X4, e4, N4, fun target hr => ?_⟩
          refine sB X0 hx (B at_73) rfl rfl ?_
          refine sJ X0 hx (B at_75) rfl ?_
          refine sC X0 hx (B at_77) ?_
          refine st1 _ ?_
          refine XS.ifYes X1.here hx rfl (pc0 := 81) (pc' := 90) rfl (B at_81) rfl ((if0 _ _).trans (teq cc1).1) (by decide) (by decide) ?_
          refine sB X1 hx (B at_90) rfl rfl ?_
          refine sJ X1 hx (B at_92) rfl ?_
          refine sC X1 hx (B at_94) ?_
          refine st2 _ ?_
          refine XS.ifYes X2.here hx rfl (pc0 := 98) (pc' := 107) rfl (B at_98) rfl ((if0 _ _).trans (teq cc2).1) (by decide) (by decide) ?_
          refine sB X2 hx (B at_107) rfl rfl ?_
          refine sJ X2 hx (B at_109) rfl ?_
          refine sC X2 hx (B at_111) ?_
          refine st3 _ ?_
          refine XS.ifYes X3.here hx rfl (pc0 := 115) (pc' := 124) rfl (B at_115) rfl ((if0 _ _).trans (teq cc3).1) (by decide) (by decide) ?_
          refine sB X3 hx (B at_124) rfl rfl ?_
          refine sJ X3 hx (B at_126) rfl ?_
          refine sC X3 hx (B at_128) ?_
          refine st4 _ ?_
          refine XS.ifNo X4.here hx rfl (B at_132) rfl ((if0 _ _).trans (feq cc4).1) ?_
          refine sC X4 hx (B at_135) ?_
          refine XS.istore X4.here hx rfl (B at_136) rfl (l' := #[vi i1, vi i2, vi i3, vi i4, vi i5, vi 4, vi i6, vi i7, vi i8, vi i9, vr a10, vr a11, vi 3]) rfl ?_
          refine XS.goto X4.here hx rfl (pc0 := 138) (pc' := 144) rfl (B at_138) (by decide) (by decide) ?_
          rw [show (own_ex3 i12 i13 i14 i15) = (3 : Int32) from by unfold own_ex3; rw [if_pos cc1, if_pos cc2, if_pos cc3, if_neg cc4]] at hr
          exact hr
      · refine ⟨T3, _, X3, e3, N3, fun target hr => ?_⟩
        refine sB X0 hx (B at_73) rfl rfl ?_
        refine sJ X0 hx (B at_75) rfl ?_
        refine sC X0 hx (B at_77) ?_
        refine st1 _ ?_
        refine XS.ifYes X1.here hx rfl (pc0 := 81) (pc' := 90) rfl (B at_81) rfl ((if0 _ _).trans (teq cc1).1) (by decide) (by decide) ?_
        refine sB X1 hx (B at_90) rfl rfl ?_
        refine sJ X1 hx (B at_92) rfl ?_
        refine sC X1 hx (B at_94) ?_
        refine st2 _ ?_
        refine XS.ifYes X2.here hx rfl (pc0 := 98) (pc' := 107) rfl (B at_98) rfl ((if0 _ _).trans (teq cc2).1) (by decide) (by decide) ?_
        refine sB X2 hx (B at_107) rfl rfl ?_
        refine sJ X2 hx (B at_109) rfl ?_
        refine sC X2 hx (B at_111) ?_
        refine st3 _ ?_
        refine XS.ifNo X3.here hx rfl (B at_115) rfl ((if0 _ _).trans (feq cc3).1) ?_
        refine sC X3 hx (B at_118) ?_
        refine XS.istore X3.here hx rfl (B at_119) rfl (l' := #[vi i1, vi i2, vi i3, vi i4, vi i5, vi 4, vi i6, vi i7, vi i8, vi i9, vr a10, vr a11, vi 2]) rfl ?_
        refine XS.goto X3.here hx rfl (pc0 := 121) (pc' := 144) rfl (B at_121) (by decide) (by decide) ?_
        rw [show (own_ex3 i12 i13 i14 i15) = (2 : Int32) from by unfold own_ex3; rw [if_pos cc1, if_pos cc2, if_neg cc3]] at hr
        exact hr
    · refine ⟨T2, _, X2, e2, N2, fun target hr => ?_⟩
      refine sB X0 hx (B at_73) rfl rfl ?_
      refine sJ X0 hx (B at_75) rfl ?_
      refine sC X0 hx (B at_77) ?_
      refine st1 _ ?_
      refine XS.ifYes X1.here hx rfl (pc0 := 81) (pc' := 90) rfl (B at_81) rfl ((if0 _ _).trans (teq cc1).1) (by decide) (by decide) ?_
      refine sB X1 hx (B at_90) rfl rfl ?_
      refine sJ X1 hx (B at_92) rfl ?_
      refine sC X1 hx (B at_94) ?_
      refine st2 _ ?_
      refine XS.ifNo X2.here hx rfl (B at_98) rfl ((if0 _ _).trans (feq cc2).1) ?_
      refine sC X2 hx (B at_101) ?_
      refine XS.istore X2.here hx rfl (B at_102) rfl (l' := #[vi i1, vi i2, vi i3, vi i4, vi i5, vi 4, vi i6, vi i7, vi i8, vi i9, vr a10, vr a11, vi 1]) rfl ?_
      refine XS.goto X2.here hx rfl (pc0 := 104) (pc' := 144) rfl (B at_104) (by decide) (by decide) ?_
      rw [show (own_ex3 i12 i13 i14 i15) = (1 : Int32) from by unfold own_ex3; rw [if_pos cc1, if_neg cc2]] at hr
      exact hr
  · refine ⟨T1, _, X1, e1, N1, fun target hr => ?_⟩
    refine sB X0 hx (B at_73) rfl rfl ?_
    refine sJ X0 hx (B at_75) rfl ?_
    refine sC X0 hx (B at_77) ?_
    refine st1 _ ?_
    refine XS.ifNo X1.here hx rfl (B at_81) rfl ((if0 _ _).trans (feq cc1).1) ?_
    refine sC X1 hx (B at_84) ?_
    refine XS.istore X1.here hx rfl (B at_85) rfl (l' := #[vi i1, vi i2, vi i3, vi i4, vi i5, vi 4, vi i6, vi i7, vi i8, vi i9, vr a10, vr a11, vi 0]) rfl ?_
    refine XS.goto X1.here hx rfl (pc0 := 87) (pc' := 144) rfl (B at_87) (by decide) (by decide) ?_
    rw [show (own_ex3 i12 i13 i14 i15) = (0 : Int32) from by unfold own_ex3; rw [if_neg cc1]] at hr
    exact hr
def own_un3 (v0 v1 v2 v3 v4 v5 v6 v7 : Int32) : Int32 := (if (own_tc1 v0 v1 v2 v3) = 0 then (if (own_tc1 v2 v3 v4 v5) = 0 then (if (own_tc1 v4 v5 v6 v7) = 0 then (if (own_tc v6 v7) = 0 then (-1 : Int32) else (3 : Int32)) else (if (own_tc1 v4 v5 v6 v7) = 1 then (-1 : Int32) else (2 : Int32))) else (if (own_tc1 v2 v3 v4 v5) = 1 then (if (own_tc v6 v7) = 0 then (-1 : Int32) else (3 : Int32)) else (1 : Int32))) else (if (own_tc1 v0 v1 v2 v3) = 1 then (if (own_tc1 v4 v5 v6 v7) = 0 then (if (own_tc v6 v7) = 0 then (-1 : Int32) else (3 : Int32)) else (if (own_tc1 v4 v5 v6 v7) = 1 then (-1 : Int32) else (2 : Int32))) else (0 : Int32)))
abbrev Rm126 : Room := rmk 8 0 0 150
def Q126 (Z : State) (a1 a2 : Addr) (i3 i4 i5 i6 i7 i8 i9 i10 : Int32) (ck11 : ClassId) (i12 : Int32) (r14 : Value) (h0 : Heap) (n0 : Nat) (v : Option Value) (h : Heap) (L : List Loc) : Prop := v = some (.int (own_un3 i3 i4 i5 i6 i7 i8 i9 i10)) ∧ Fr n0 L ∧ h = h0
theorem rm126 (l : Launch) (Z : State) {a0 : Array Value} (hw : OW a0 Z) (a1 a2 : Addr) (i3 i4 i5 i6 i7 i8 i9 i10 : Int32) (ck11 : ClassId) (i12 : Int32) (r14 : Value) (h0 : Heap) (n0 : Nat) (Z0 : n0 ≤ h0.size) (E_a1 : Exa Z h0 a1 jS) (F_value_a1 : Fld Z h0 a1 jS "value" "[B" (.ref a2)) (V_a2 : Arv Z h0 a2 ck11 .byte 8 [(.int i3), (.int i4), (.int i5), (.int i6), (.int i7), (.int i8), (.int i9), (.int i10)] (.int 0)) (S_COMPACT_STRINGS : Sta Z Z.heap "java/lang/String" "COMPACT_STRINGS" "Z" (.int i12)) (Od0 : Old Z n0 h0) (c13 : ¬ (i12 = 0)) (F_coder_a1 : Fld Z h0 a1 jS "coder" "B" (.int 1)) (R_r14 : r14.isRef = true) (S_SIOOBE_FORMATTER : Sta Z Z.heap "jdk/internal/util/Preconditions" "SIOOBE_FORMATTER" "Ljava/util/function/BiFunction;" r14) (S__assertionsDisabled : Sta Z Z.heap "java/lang/StringUTF16" "$assertionsDisabled" "Z" (.int 1)) (S_HI_BYTE_SHIFT : Sta Z Z.heap "java/lang/StringUTF16" "HI_BYTE_SHIFT" "I" (.int 0)) (S_LO_BYTE_SHIFT : Sta Z Z.heap "java/lang/StringUTF16" "LO_BYTE_SHIFT" "I" (.int 8)) :
    OwnMet l Z y_8 prog_10_method_10_code 3 (some .int) [] Rm126 #[(.ref a1)] h0 (Q126 Z a1 a2 i3 i4 i5 i6 i7 i8 i9 i10 ck11 i12 r14 h0 n0) := by
  refine own_body (plainFor_of_name pn_2) (ef_aae876 a1) ?_
  intro p e s m below meth c s₁ hx hby hml hown hnm hret hZ X0 e0
  have N0 := Fr.nil n0
  have B := hbx hby
  by_cases cc1 : (own_tc1 i3 i4 i5 i6) = 0
  · obtain ⟨T1, L1, X1, e1, N1, st1⟩ := tn78 l Z hw a1 (0 : Int32) .unset a2 [(.int i3), (.int i4), (.int i5), (.int i6), (.int i7), (.int i8), (.int i9), (.int i10)] ck11 (8 : Int32) i12 r14 i3 i4 i5 i6 h0 n0 Z0 (Or.inl rfl) E_a1 F_value_a1 V_a2 S_COMPACT_STRINGS Od0 c13 F_coder_a1 (by decide) R_r14 S_SIOOBE_FORMATTER (by decide) S__assertionsDisabled (by decide) (by decide) rfl S_HI_BYTE_SHIFT (by decide) (by decide) rfl S_LO_BYTE_SHIFT (by decide) (by decide) (by decide) rfl (by decide) (by decide) rfl cc1 hx hby hml hown hZ X0 e0 N0 (by decide) (by decide)
    by_cases cc2 : (own_tc1 i5 i6 i7 i8) = 0
    · obtain ⟨T2, L2, X2, e2, N2, st2⟩ := tn78 l Z hw a1 (1 : Int32) (vi (own_cp i3 i4 i5 i6)) a2 [(.int i3), (.int i4), (.int i5), (.int i6), (.int i7), (.int i8), (.int i9), (.int i10)] ck11 (8 : Int32) i12 r14 i5 i6 i7 i8 h0 n0 Z0 (Or.inr ⟨_, rfl⟩) E_a1 F_value_a1 V_a2 S_COMPACT_STRINGS Od0 c13 F_coder_a1 (by decide) R_r14 S_SIOOBE_FORMATTER (by decide) S__assertionsDisabled (by decide) (by decide) rfl S_HI_BYTE_SHIFT (by decide) (by decide) rfl S_LO_BYTE_SHIFT (by decide) (by decide) (by decide) rfl (by decide) (by decide) rfl cc2 hx hby hml hown hZ X1 e1 N1 (by decide) (by decide)
      by_cases cc3 : (own_tc1 i7 i8 i9 i10) = 0
      · obtain ⟨T3, L3, X3, e3, N3, st3⟩ := tn78 l Z hw a1 (2 : Int32) (vi (own_cp i5 i6 i7 i8)) a2 [(.int i3), (.int i4), (.int i5), (.int i6), (.int i7), (.int i8), (.int i9), (.int i10)] ck11 (8 : Int32) i12 r14 i7 i8 i9 i10 h0 n0 Z0 (Or.inr ⟨_, rfl⟩) E_a1 F_value_a1 V_a2 S_COMPACT_STRINGS Od0 c13 F_coder_a1 (by decide) R_r14 S_SIOOBE_FORMATTER (by decide) S__assertionsDisabled (by decide) (by decide) rfl S_HI_BYTE_SHIFT (by decide) (by decide) rfl S_LO_BYTE_SHIFT (by decide) (by decide) (by decide) rfl (by decide) (by decide) rfl cc3 hx hby hml hown hZ X2 e2 N2 (by decide) (by decide)
        by_cases cc4 : (own_tc i9 i10) = 0
        · obtain ⟨T4, L4, X4, e4, N4, st4⟩ := tn45 l Z hw a1 (3 : Int32) (vi (own_cp i7 i8 i9 i10)) a2 [(.int i3), (.int i4), (.int i5), (.int i6), (.int i7), (.int i8), (.int i9), (.int i10)] ck11 (8 : Int32) i12 r14 i9 i10 h0 n0 Z0 (Or.inr ⟨_, rfl⟩) E_a1 F_value_a1 V_a2 S_COMPACT_STRINGS Od0 c13 F_coder_a1 (by decide) R_r14 S_SIOOBE_FORMATTER (by decide) S__assertionsDisabled (by decide) (by decide) rfl S_HI_BYTE_SHIFT (by decide) (by decide) rfl S_LO_BYTE_SHIFT (by decide) cc4 hx hby hml hown hZ X3 e3 N3 (by decide) (by decide)
          obtain ⟨T5, L5, X5, e5, N5, st5⟩ := tn46 l Z hw a1 (4 : Int32) (vi (own_gc i9 i10)) a2 [(.int i3), (.int i4), (.int i5), (.int i6), (.int i7), (.int i8), (.int i9), (.int i10)] ck11 (8 : Int32) i12 h0 n0 Z0 (Or.inr ⟨_, rfl⟩) E_a1 F_value_a1 V_a2 S_COMPACT_STRINGS Od0 c13 F_coder_a1 (by decide) hx hby hml hown hZ X4 e4 N4 (by decide) (by decide)
          refine ⟨T5, _, _, _, (some (.int (-1))), X5, nofun, by decide, by decide, ?_, fun fs hr => ?_⟩
          · rw [e5]
            unfold Q126
            rw [show (own_un3 i3 i4 i5 i6 i7 i8 i9 i10) = (-1 : Int32) from by unfold own_un3; rw [if_pos cc1, if_pos cc2, if_pos cc3, if_pos cc4]]
            exact ⟨rfl, N5, rfl⟩
          · refine sC X0 hx (B d7_0) ?_
            refine XS.istoreN X0.here hx rfl (B d7_1) rfl (l' := #[vr a1, vi 0, un]) rfl ?_
            refine st1 _ ?_
            refine st2 _ ?_
            refine st3 _ ?_
            refine st4 _ ?_
            refine st5 _ ?_
            refine sC X5 hx (B d7_40) ?_
            exact retI X5 hx hret (B d7_41) hr
        · obtain ⟨T4, L4, X4, e4, N4, st4⟩ := tn47 l Z hw a1 (3 : Int32) (vi (own_cp i7 i8 i9 i10)) a2 [(.int i3), (.int i4), (.int i5), (.int i6), (.int i7), (.int i8), (.int i9), (.int i10)] ck11 (8 : Int32) i12 r14 i9 i10 h0 n0 Z0 (Or.inr ⟨_, rfl⟩) E_a1 F_value_a1 V_a2 S_COMPACT_STRINGS Od0 c13 F_coder_a1 (by decide) R_r14 S_SIOOBE_FORMATTER (by decide) S__assertionsDisabled (by decide) (by decide) rfl S_HI_BYTE_SHIFT (by decide) (by decide) rfl S_LO_BYTE_SHIFT (by decide) cc4 hx hby hml hown hZ X3 e3 N3 (by decide) (by decide)
          refine ⟨T4, _, _, _, (some (.int 3)), X4, nofun, by decide, by decide, ?_, fun fs hr => ?_⟩
          · rw [e4]
            unfold Q126
            rw [show (own_un3 i3 i4 i5 i6 i7 i8 i9 i10) = (3 : Int32) from by unfold own_un3; rw [if_pos cc1, if_pos cc2, if_pos cc3, if_neg cc4]]
            exact ⟨rfl, N4, rfl⟩
          · refine sC X0 hx (B d7_0) ?_
            refine XS.istoreN X0.here hx rfl (B d7_1) rfl (l' := #[vr a1, vi 0, un]) rfl ?_
            refine st1 _ ?_
            refine st2 _ ?_
            refine st3 _ ?_
            refine st4 _ ?_
            refine sI X4 hx (B d7_28) rfl ?_
            exact retI X4 hx hret (B d7_29) hr
      · by_cases cc4 : (own_tc1 i7 i8 i9 i10) = 1
        · obtain ⟨T3, L3, X3, e3, N3, st3⟩ := tn79 l Z hw a1 (2 : Int32) (vi (own_cp i5 i6 i7 i8)) a2 [(.int i3), (.int i4), (.int i5), (.int i6), (.int i7), (.int i8), (.int i9), (.int i10)] ck11 (8 : Int32) i12 r14 i7 i8 i9 i10 h0 n0 Z0 (Or.inr ⟨_, rfl⟩) E_a1 F_value_a1 V_a2 S_COMPACT_STRINGS Od0 c13 F_coder_a1 (by decide) R_r14 S_SIOOBE_FORMATTER (by decide) S__assertionsDisabled (by decide) (by decide) rfl S_HI_BYTE_SHIFT (by decide) (by decide) rfl S_LO_BYTE_SHIFT (by decide) (by decide) (by decide) rfl (by decide) (by decide) rfl cc3 cc4 hx hby hml hown hZ X2 e2 N2 (by decide) (by decide)
          obtain ⟨T4, L4, X4, e4, N4, st4⟩ := tn46 l Z hw a1 (4 : Int32) (vi (own_cp i7 i8 i9 i10)) a2 [(.int i3), (.int i4), (.int i5), (.int i6), (.int i7), (.int i8), (.int i9), (.int i10)] ck11 (8 : Int32) i12 h0 n0 Z0 (Or.inr ⟨_, rfl⟩) E_a1 F_value_a1 V_a2 S_COMPACT_STRINGS Od0 c13 F_coder_a1 (by decide) hx hby hml hown hZ X3 e3 N3 (by decide) (by decide)
          refine ⟨T4, _, _, _, (some (.int (-1))), X4, nofun, by decide, by decide, ?_, fun fs hr => ?_⟩
          · rw [e4]
            unfold Q126
            rw [show (own_un3 i3 i4 i5 i6 i7 i8 i9 i10) = (-1 : Int32) from by unfold own_un3; rw [if_pos cc1, if_pos cc2, if_neg cc3, if_pos cc4]]
            exact ⟨rfl, N4, rfl⟩
          · refine sC X0 hx (B d7_0) ?_
            refine XS.istoreN X0.here hx rfl (B d7_1) rfl (l' := #[vr a1, vi 0, un]) rfl ?_
            refine st1 _ ?_
            refine st2 _ ?_
            refine st3 _ ?_
            refine st4 _ ?_
            refine sC X4 hx (B d7_40) ?_
            exact retI X4 hx hret (B d7_41) hr
        · obtain ⟨T3, L3, X3, e3, N3, st3⟩ := tn80 l Z hw a1 (2 : Int32) (vi (own_cp i5 i6 i7 i8)) a2 [(.int i3), (.int i4), (.int i5), (.int i6), (.int i7), (.int i8), (.int i9), (.int i10)] ck11 (8 : Int32) i12 r14 i7 i8 i9 i10 h0 n0 Z0 (Or.inr ⟨_, rfl⟩) E_a1 F_value_a1 V_a2 S_COMPACT_STRINGS Od0 c13 F_coder_a1 (by decide) R_r14 S_SIOOBE_FORMATTER (by decide) S__assertionsDisabled (by decide) (by decide) rfl S_HI_BYTE_SHIFT (by decide) (by decide) rfl S_LO_BYTE_SHIFT (by decide) (by decide) (by decide) rfl (by decide) (by decide) rfl cc3 cc4 hx hby hml hown hZ X2 e2 N2 (by decide) (by decide)
          refine ⟨T3, _, _, _, (some (.int 2)), X3, nofun, by decide, by decide, ?_, fun fs hr => ?_⟩
          · rw [e3]
            unfold Q126
            rw [show (own_un3 i3 i4 i5 i6 i7 i8 i9 i10) = (2 : Int32) from by unfold own_un3; rw [if_pos cc1, if_pos cc2, if_neg cc3, if_neg cc4]]
            exact ⟨rfl, N3, rfl⟩
          · refine sC X0 hx (B d7_0) ?_
            refine XS.istoreN X0.here hx rfl (B d7_1) rfl (l' := #[vr a1, vi 0, un]) rfl ?_
            refine st1 _ ?_
            refine st2 _ ?_
            refine st3 _ ?_
            refine sI X3 hx (B d7_28) rfl ?_
            exact retI X3 hx hret (B d7_29) hr
    · by_cases cc3 : (own_tc1 i5 i6 i7 i8) = 1
      · obtain ⟨T2, L2, X2, e2, N2, st2⟩ := tn79 l Z hw a1 (1 : Int32) (vi (own_cp i3 i4 i5 i6)) a2 [(.int i3), (.int i4), (.int i5), (.int i6), (.int i7), (.int i8), (.int i9), (.int i10)] ck11 (8 : Int32) i12 r14 i5 i6 i7 i8 h0 n0 Z0 (Or.inr ⟨_, rfl⟩) E_a1 F_value_a1 V_a2 S_COMPACT_STRINGS Od0 c13 F_coder_a1 (by decide) R_r14 S_SIOOBE_FORMATTER (by decide) S__assertionsDisabled (by decide) (by decide) rfl S_HI_BYTE_SHIFT (by decide) (by decide) rfl S_LO_BYTE_SHIFT (by decide) (by decide) (by decide) rfl (by decide) (by decide) rfl cc2 cc3 hx hby hml hown hZ X1 e1 N1 (by decide) (by decide)
        by_cases cc4 : (own_tc i9 i10) = 0
        · obtain ⟨T3, L3, X3, e3, N3, st3⟩ := tn45 l Z hw a1 (3 : Int32) (vi (own_cp i5 i6 i7 i8)) a2 [(.int i3), (.int i4), (.int i5), (.int i6), (.int i7), (.int i8), (.int i9), (.int i10)] ck11 (8 : Int32) i12 r14 i9 i10 h0 n0 Z0 (Or.inr ⟨_, rfl⟩) E_a1 F_value_a1 V_a2 S_COMPACT_STRINGS Od0 c13 F_coder_a1 (by decide) R_r14 S_SIOOBE_FORMATTER (by decide) S__assertionsDisabled (by decide) (by decide) rfl S_HI_BYTE_SHIFT (by decide) (by decide) rfl S_LO_BYTE_SHIFT (by decide) cc4 hx hby hml hown hZ X2 e2 N2 (by decide) (by decide)
          obtain ⟨T4, L4, X4, e4, N4, st4⟩ := tn46 l Z hw a1 (4 : Int32) (vi (own_gc i9 i10)) a2 [(.int i3), (.int i4), (.int i5), (.int i6), (.int i7), (.int i8), (.int i9), (.int i10)] ck11 (8 : Int32) i12 h0 n0 Z0 (Or.inr ⟨_, rfl⟩) E_a1 F_value_a1 V_a2 S_COMPACT_STRINGS Od0 c13 F_coder_a1 (by decide) hx hby hml hown hZ X3 e3 N3 (by decide) (by decide)
          refine ⟨T4, _, _, _, (some (.int (-1))), X4, nofun, by decide, by decide, ?_, fun fs hr => ?_⟩
          · rw [e4]
            unfold Q126
            rw [show (own_un3 i3 i4 i5 i6 i7 i8 i9 i10) = (-1 : Int32) from by unfold own_un3; rw [if_pos cc1, if_neg cc2, if_pos cc3, if_pos cc4]]
            exact ⟨rfl, N4, rfl⟩
          · refine sC X0 hx (B d7_0) ?_
            refine XS.istoreN X0.here hx rfl (B d7_1) rfl (l' := #[vr a1, vi 0, un]) rfl ?_
            refine st1 _ ?_
            refine st2 _ ?_
            refine st3 _ ?_
            refine st4 _ ?_
            refine sC X4 hx (B d7_40) ?_
            exact retI X4 hx hret (B d7_41) hr
        · obtain ⟨T3, L3, X3, e3, N3, st3⟩ := tn47 l Z hw a1 (3 : Int32) (vi (own_cp i5 i6 i7 i8)) a2 [(.int i3), (.int i4), (.int i5), (.int i6), (.int i7), (.int i8), (.int i9), (.int i10)] ck11 (8 : Int32) i12 r14 i9 i10 h0 n0 Z0 (Or.inr ⟨_, rfl⟩) E_a1 F_value_a1 V_a2 S_COMPACT_STRINGS Od0 c13 F_coder_a1 (by decide) R_r14 S_SIOOBE_FORMATTER (by decide) S__assertionsDisabled (by decide) (by decide) rfl S_HI_BYTE_SHIFT (by decide) (by decide) rfl S_LO_BYTE_SHIFT (by decide) cc4 hx hby hml hown hZ X2 e2 N2 (by decide) (by decide)
          refine ⟨T3, _, _, _, (some (.int 3)), X3, nofun, by decide, by decide, ?_, fun fs hr => ?_⟩
          · rw [e3]
            unfold Q126
            rw [show (own_un3 i3 i4 i5 i6 i7 i8 i9 i10) = (3 : Int32) from by unfold own_un3; rw [if_pos cc1, if_neg cc2, if_pos cc3, if_neg cc4]]
            exact ⟨rfl, N3, rfl⟩
          · refine sC X0 hx (B d7_0) ?_
            refine XS.istoreN X0.here hx rfl (B d7_1) rfl (l' := #[vr a1, vi 0, un]) rfl ?_
            refine st1 _ ?_
            refine st2 _ ?_
            refine st3 _ ?_
            refine sI X3 hx (B d7_28) rfl ?_
            exact retI X3 hx hret (B d7_29) hr
      · obtain ⟨T2, L2, X2, e2, N2, st2⟩ := tn80 l Z hw a1 (1 : Int32) (vi (own_cp i3 i4 i5 i6)) a2 [(.int i3), (.int i4), (.int i5), (.int i6), (.int i7), (.int i8), (.int i9), (.int i10)] ck11 (8 : Int32) i12 r14 i5 i6 i7 i8 h0 n0 Z0 (Or.inr ⟨_, rfl⟩) E_a1 F_value_a1 V_a2 S_COMPACT_STRINGS Od0 c13 F_coder_a1 (by decide) R_r14 S_SIOOBE_FORMATTER (by decide) S__assertionsDisabled (by decide) (by decide) rfl S_HI_BYTE_SHIFT (by decide) (by decide) rfl S_LO_BYTE_SHIFT (by decide) (by decide) (by decide) rfl (by decide) (by decide) rfl cc2 cc3 hx hby hml hown hZ X1 e1 N1 (by decide) (by decide)
        refine ⟨T2, _, _, _, (some (.int 1)), X2, nofun, by decide, by decide, ?_, fun fs hr => ?_⟩
        · rw [e2]
          unfold Q126
          rw [show (own_un3 i3 i4 i5 i6 i7 i8 i9 i10) = (1 : Int32) from by unfold own_un3; rw [if_pos cc1, if_neg cc2, if_neg cc3]]
          exact ⟨rfl, N2, rfl⟩
        · refine sC X0 hx (B d7_0) ?_
          refine XS.istoreN X0.here hx rfl (B d7_1) rfl (l' := #[vr a1, vi 0, un]) rfl ?_
          refine st1 _ ?_
          refine st2 _ ?_
          refine sI X2 hx (B d7_28) rfl ?_
          exact retI X2 hx hret (B d7_29) hr
  · by_cases cc2 : (own_tc1 i3 i4 i5 i6) = 1
    · obtain ⟨T1, L1, X1, e1, N1, st1⟩ := tn79 l Z hw a1 (0 : Int32) .unset a2 [(.int i3), (.int i4), (.int i5), (.int i6), (.int i7), (.int i8), (.int i9), (.int i10)] ck11 (8 : Int32) i12 r14 i3 i4 i5 i6 h0 n0 Z0 (Or.inl rfl) E_a1 F_value_a1 V_a2 S_COMPACT_STRINGS Od0 c13 F_coder_a1 (by decide) R_r14 S_SIOOBE_FORMATTER (by decide) S__assertionsDisabled (by decide) (by decide) rfl S_HI_BYTE_SHIFT (by decide) (by decide) rfl S_LO_BYTE_SHIFT (by decide) (by decide) (by decide) rfl (by decide) (by decide) rfl cc1 cc2 hx hby hml hown hZ X0 e0 N0 (by decide) (by decide)
      by_cases cc3 : (own_tc1 i7 i8 i9 i10) = 0
      · obtain ⟨T2, L2, X2, e2, N2, st2⟩ := tn78 l Z hw a1 (2 : Int32) (vi (own_cp i3 i4 i5 i6)) a2 [(.int i3), (.int i4), (.int i5), (.int i6), (.int i7), (.int i8), (.int i9), (.int i10)] ck11 (8 : Int32) i12 r14 i7 i8 i9 i10 h0 n0 Z0 (Or.inr ⟨_, rfl⟩) E_a1 F_value_a1 V_a2 S_COMPACT_STRINGS Od0 c13 F_coder_a1 (by decide) R_r14 S_SIOOBE_FORMATTER (by decide) S__assertionsDisabled (by decide) (by decide) rfl S_HI_BYTE_SHIFT (by decide) (by decide) rfl S_LO_BYTE_SHIFT (by decide) (by decide) (by decide) rfl (by decide) (by decide) rfl cc3 hx hby hml hown hZ X1 e1 N1 (by decide) (by decide)
        by_cases cc4 : (own_tc i9 i10) = 0
        · obtain ⟨T3, L3, X3, e3, N3, st3⟩ := tn45 l Z hw a1 (3 : Int32) (vi (own_cp i7 i8 i9 i10)) a2 [(.int i3), (.int i4), (.int i5), (.int i6), (.int i7), (.int i8), (.int i9), (.int i10)] ck11 (8 : Int32) i12 r14 i9 i10 h0 n0 Z0 (Or.inr ⟨_, rfl⟩) E_a1 F_value_a1 V_a2 S_COMPACT_STRINGS Od0 c13 F_coder_a1 (by decide) R_r14 S_SIOOBE_FORMATTER (by decide) S__assertionsDisabled (by decide) (by decide) rfl S_HI_BYTE_SHIFT (by decide) (by decide) rfl S_LO_BYTE_SHIFT (by decide) cc4 hx hby hml hown hZ X2 e2 N2 (by decide) (by decide)
          obtain ⟨T4, L4, X4, e4, N4, st4⟩ := tn46 l Z hw a1 (4 : Int32) (vi (own_gc i9 i10)) a2 [(.int i3), (.int i4), (.int i5), (.int i6), (.int i7), (.int i8), (.int i9), (.int i10)] ck11 (8 : Int32) i12 h0 n0 Z0 (Or.inr ⟨_, rfl⟩) E_a1 F_value_a1 V_a2 S_COMPACT_STRINGS Od0 c13 F_coder_a1 (by decide) hx hby hml hown hZ X3 e3 N3 (by decide) (by decide)
          refine ⟨T4, _, _, _, (some (.int (-1))), X4, nofun, by decide, by decide, ?_, fun fs hr => ?_⟩
          · rw [e4]
            unfold Q126
            rw [show (own_un3 i3 i4 i5 i6 i7 i8 i9 i10) = (-1 : Int32) from by unfold own_un3; rw [if_neg cc1, if_pos cc2, if_pos cc3, if_pos cc4]]
            exact ⟨rfl, N4, rfl⟩
          · refine sC X0 hx (B d7_0) ?_
            refine XS.istoreN X0.here hx rfl (B d7_1) rfl (l' := #[vr a1, vi 0, un]) rfl ?_
            refine st1 _ ?_
            refine st2 _ ?_
            refine st3 _ ?_
            refine st4 _ ?_
            refine sC X4 hx (B d7_40) ?_
            exact retI X4 hx hret (B d7_41) hr
        · obtain ⟨T3, L3, X3, e3, N3, st3⟩ := tn47 l Z hw a1 (3 : Int32) (vi (own_cp i7 i8 i9 i10)) a2 [(.int i3), (.int i4), (.int i5), (.int i6), (.int i7), (.int i8), (.int i9), (.int i10)] ck11 (8 : Int32) i12 r14 i9 i10 h0 n0 Z0 (Or.inr ⟨_, rfl⟩) E_a1 F_value_a1 V_a2 S_COMPACT_STRINGS Od0 c13 F_coder_a1 (by decide) R_r14 S_SIOOBE_FORMATTER (by decide) S__assertionsDisabled (by decide) (by decide) rfl S_HI_BYTE_SHIFT (by decide) (by decide) rfl S_LO_BYTE_SHIFT (by decide) cc4 hx hby hml hown hZ X2 e2 N2 (by decide) (by decide)
          refine ⟨T3, _, _, _, (some (.int 3)), X3, nofun, by decide, by decide, ?_, fun fs hr => ?_⟩
          · rw [e3]
            unfold Q126
            rw [show (own_un3 i3 i4 i5 i6 i7 i8 i9 i10) = (3 : Int32) from by unfold own_un3; rw [if_neg cc1, if_pos cc2, if_pos cc3, if_neg cc4]]
            exact ⟨rfl, N3, rfl⟩
          · refine sC X0 hx (B d7_0) ?_
            refine XS.istoreN X0.here hx rfl (B d7_1) rfl (l' := #[vr a1, vi 0, un]) rfl ?_
            refine st1 _ ?_
            refine st2 _ ?_
            refine st3 _ ?_
            refine sI X3 hx (B d7_28) rfl ?_
            exact retI X3 hx hret (B d7_29) hr
      · by_cases cc4 : (own_tc1 i7 i8 i9 i10) = 1
        · obtain ⟨T2, L2, X2, e2, N2, st2⟩ := tn79 l Z hw a1 (2 : Int32) (vi (own_cp i3 i4 i5 i6)) a2 [(.int i3), (.int i4), (.int i5), (.int i6), (.int i7), (.int i8), (.int i9), (.int i10)] ck11 (8 : Int32) i12 r14 i7 i8 i9 i10 h0 n0 Z0 (Or.inr ⟨_, rfl⟩) E_a1 F_value_a1 V_a2 S_COMPACT_STRINGS Od0 c13 F_coder_a1 (by decide) R_r14 S_SIOOBE_FORMATTER (by decide) S__assertionsDisabled (by decide) (by decide) rfl S_HI_BYTE_SHIFT (by decide) (by decide) rfl S_LO_BYTE_SHIFT (by decide) (by decide) (by decide) rfl (by decide) (by decide) rfl cc3 cc4 hx hby hml hown hZ X1 e1 N1 (by decide) (by decide)
          obtain ⟨T3, L3, X3, e3, N3, st3⟩ := tn46 l Z hw a1 (4 : Int32) (vi (own_cp i7 i8 i9 i10)) a2 [(.int i3), (.int i4), (.int i5), (.int i6), (.int i7), (.int i8), (.int i9), (.int i10)] ck11 (8 : Int32) i12 h0 n0 Z0 (Or.inr ⟨_, rfl⟩) E_a1 F_value_a1 V_a2 S_COMPACT_STRINGS Od0 c13 F_coder_a1 (by decide) hx hby hml hown hZ X2 e2 N2 (by decide) (by decide)
          refine ⟨T3, _, _, _, (some (.int (-1))), X3, nofun, by decide, by decide, ?_, fun fs hr => ?_⟩
          · rw [e3]
            unfold Q126
            rw [show (own_un3 i3 i4 i5 i6 i7 i8 i9 i10) = (-1 : Int32) from by unfold own_un3; rw [if_neg cc1, if_pos cc2, if_neg cc3, if_pos cc4]]
            exact ⟨rfl, N3, rfl⟩
          · refine sC X0 hx (B d7_0) ?_
            refine XS.istoreN X0.here hx rfl (B d7_1) rfl (l' := #[vr a1, vi 0, un]) rfl ?_
            refine st1 _ ?_
            refine st2 _ ?_
            refine st3 _ ?_
            refine sC X3 hx (B d7_40) ?_
            exact retI X3 hx hret (B d7_41) hr
        · obtain ⟨T2, L2, X2, e2, N2, st2⟩ := tn80 l Z hw a1 (2 : Int32) (vi (own_cp i3 i4 i5 i6)) a2 [(.int i3), (.int i4), (.int i5), (.int i6), (.int i7), (.int i8), (.int i9), (.int i10)] ck11 (8 : Int32) i12 r14 i7 i8 i9 i10 h0 n0 Z0 (Or.inr ⟨_, rfl⟩) E_a1 F_value_a1 V_a2 S_COMPACT_STRINGS Od0 c13 F_coder_a1 (by decide) R_r14 S_SIOOBE_FORMATTER (by decide) S__assertionsDisabled (by decide) (by decide) rfl S_HI_BYTE_SHIFT (by decide) (by decide) rfl S_LO_BYTE_SHIFT (by decide) (by decide) (by decide) rfl (by decide) (by decide) rfl cc3 cc4 hx hby hml hown hZ X1 e1 N1 (by decide) (by decide)
          refine ⟨T2, _, _, _, (some (.int 2)), X2, nofun, by decide, by decide, ?_, fun fs hr => ?_⟩
          · rw [e2]
            unfold Q126
            rw [show (own_un3 i3 i4 i5 i6 i7 i8 i9 i10) = (2 : Int32) from by unfold own_un3; rw [if_neg cc1, if_pos cc2, if_neg cc3, if_neg cc4]]
            exact ⟨rfl, N2, rfl⟩
          · refine sC X0 hx (B d7_0) ?_
            refine XS.istoreN X0.here hx rfl (B d7_1) rfl (l' := #[vr a1, vi 0, un]) rfl ?_
            refine st1 _ ?_
            refine st2 _ ?_
            refine sI X2 hx (B d7_28) rfl ?_
            exact retI X2 hx hret (B d7_29) hr
    · obtain ⟨T1, L1, X1, e1, N1, st1⟩ := tn80 l Z hw a1 (0 : Int32) .unset a2 [(.int i3), (.int i4), (.int i5), (.int i6), (.int i7), (.int i8), (.int i9), (.int i10)] ck11 (8 : Int32) i12 r14 i3 i4 i5 i6 h0 n0 Z0 (Or.inl rfl) E_a1 F_value_a1 V_a2 S_COMPACT_STRINGS Od0 c13 F_coder_a1 (by decide) R_r14 S_SIOOBE_FORMATTER (by decide) S__assertionsDisabled (by decide) (by decide) rfl S_HI_BYTE_SHIFT (by decide) (by decide) rfl S_LO_BYTE_SHIFT (by decide) (by decide) (by decide) rfl (by decide) (by decide) rfl cc1 cc2 hx hby hml hown hZ X0 e0 N0 (by decide) (by decide)
      refine ⟨T1, _, _, _, (some (.int 0)), X1, nofun, by decide, by decide, ?_, fun fs hr => ?_⟩
      · rw [e1]
        unfold Q126
        rw [show (own_un3 i3 i4 i5 i6 i7 i8 i9 i10) = (0 : Int32) from by unfold own_un3; rw [if_neg cc1, if_neg cc2]]
        exact ⟨rfl, N1, rfl⟩
      · refine sC X0 hx (B d7_0) ?_
        refine XS.istoreN X0.here hx rfl (B d7_1) rfl (l' := #[vr a1, vi 0, un]) rfl ?_
        refine st1 _ ?_
        refine sI X1 hx (B d7_28) rfl ?_
        exact retI X1 hx hret (B d7_29) hr
theorem own_finU_4 (c0 c1 c2 c3 : Int32) (l0 : ¬ c0 < 0) (g0 : ¬ 65535 < c0) (l1 : ¬ c1 < 0) (g1 : ¬ 65535 < c1) (l2 : ¬ c2 < 0) (g2 : ¬ 65535 < c2) (l3 : ¬ c3 < 0) (g3 : ¬ 65535 < c3) : own_un3 (nar .byte ((c0 >>> ((0 : Int32) &&& 31)).toInt8.toInt32)) (nar .byte ((c0 >>> ((8 : Int32) &&& 31)).toInt8.toInt32)) (nar .byte ((c1 >>> ((0 : Int32) &&& 31)).toInt8.toInt32)) (nar .byte ((c1 >>> ((8 : Int32) &&& 31)).toInt8.toInt32)) (nar .byte ((c2 >>> ((0 : Int32) &&& 31)).toInt8.toInt32)) (nar .byte ((c2 >>> ((8 : Int32) &&& 31)).toInt8.toInt32)) (nar .byte ((c3 >>> ((0 : Int32) &&& 31)).toInt8.toInt32)) (nar .byte ((c3 >>> ((8 : Int32) &&& 31)).toInt8.toInt32)) = own_ex3 c0 c1 c2 c3 := by
  unfold own_un3 own_ex3 own_ln1 own_ln3 own_ln2
  simp only [own_tc1_k c0 c1 l0 g0 l1 g1, own_tc1_k c1 c2 l1 g1 l2 g2, own_tc1_k c2 c3 l2 g2 l3 g3, own_tc_k c3 l3 g3, own_hi_k, own_lw_k]
  rcases own_kk3 c0 with k0 | k0 | k0 <;> rcases own_kk3 c1 with k1 | k1 | k1 <;> rcases own_kk3 c2 with k2 | k2 | k2 <;> rcases own_kk3 c3 with k3 | k3 | k3 <;> simp only [k0, k1, k2, k3] <;> decide
abbrev Rm127 : Room := rmk 1 1 4 18
def Q127 (Z : State) (a1 : Addr) (i2 i3 i4 i5 : Int32) (ck6 : ClassId) (h0 : Heap) (n0 : Nat) (v : Option Value) (h : Heap) (L : List Loc) : Prop := ∃ m0 : Addr, ∃ kk1 : ClassId, v = some (.ref m0) ∧ Fr n0 L ∧ Keep h0 h [] ∧ h0.size ≤ m0 ∧ Exa Z h m0 "[B" ∧ Arv Z h m0 kk1 .byte 4 [(.int (nar .byte (i2.toInt8.toInt32))), (.int (nar .byte (i3.toInt8.toInt32))), (.int (nar .byte (i4.toInt8.toInt32))), (.int (nar .byte (i5.toInt8.toInt32)))] (.int 0)
theorem rm127 (l : Launch) (Z : State) {a0 : Array Value} (hw : OW a0 Z) (a1 : Addr) (i2 i3 i4 i5 : Int32) (ck6 : ClassId) (h0 : Heap) (n0 : Nat) (Z0 : n0 ≤ h0.size) (V_a1 : Arv Z h0 a1 ck6 .char 4 [(.int i2), (.int i3), (.int i4), (.int i5)] (.int 0)) (S__assertionsDisabled : Sta Z Z.heap "java/lang/StringUTF16" "$assertionsDisabled" "Z" (.int 1)) (Od0 : Old Z n0 h0) (S_HI_BYTE_SHIFT : Sta Z Z.heap "java/lang/StringUTF16" "HI_BYTE_SHIFT" "I" (.int 0)) (S_LO_BYTE_SHIFT : Sta Z Z.heap "java/lang/StringUTF16" "LO_BYTE_SHIFT" "I" (.int 8)) (c7 : ¬ (65535 < i2)) (c8 : ¬ (65535 < i3)) (c9 : ¬ (65535 < i4)) (c10 : ¬ (65535 < i5)) (c11 : ¬ ((own_cc3 i2 i3 i4 i5) = 0)) :
    OwnMet l Z y_15 jdk_52_method_16_code 6 (some (.array .byte)) [] Rm127 #[(.ref a1), (.int 0), (.int 4)] h0 (Q127 Z a1 i2 i3 i4 i5 ck6 h0 n0) := by
  refine own_body (plainFor_of_name pn_3) (ef_a299d2 a1) ?_
  intro p e s m below meth c s₁ hx hby hml hown hnm hret hZ X0 e0
  have N0 := Fr.nil n0
  have B := hbx hby
  obtain ⟨T1, h1, k1, X1, e1, E1, A1, B1, st1⟩ := newPE (aty := .byte) X0 hx hZ (w_27 hw) e0 (g := (mkF m 1 #[vr a1, vi 0, vi 4, un, un, un] [(.int 4)])) rfl (B d10_1) rfl (by decide) (cap := 4) (by decide) (by decide) (by decide) (by decide) (ad := "[B") (by decide)
  obtain ⟨b1, g1⟩ : ∃ z, z = h0.size := ⟨_, rfl⟩
  rw [← g1] at A1 B1 st1
  have s0 := E1.1
  have Vn1 : Arv Z h1 b1 k1 .byte 4 [(.int 0), (.int 0), (.int 0), (.int 0)] (.int 0) := (Arv.new A1 (by decide)).pad (pad_rep [] (.int 0) 4)
  have Va2 := (V_a1.ext E1)
  have g_b1 : n0 ≤ b1 := Nat.le_trans Z0 (Nat.le_of_eq g1.symm)
  have ne_a1_b1 := Nat.ne_of_lt (Nat.lt_of_lt_of_le V_a1.lt (Nat.le_of_eq g1.symm))
  have z1 := Nat.le_trans Z0 s0
  by_cases cc1 : 255 < i2
  · exact absurd (by unfold own_cc3; rw [if_pos cc1]) c11
  · by_cases cc2 : 255 < i3
    · exact absurd (by unfold own_cc3; rw [if_neg cc1, if_pos cc2]) c11
    · by_cases cc3 : 255 < i4
      · exact absurd (by unfold own_cc3; rw [if_neg cc1, if_neg cc2, if_pos cc3]) c11
      · by_cases cc4 : 255 < i5
        · exact absurd (by unfold own_cc3; rw [if_neg cc1, if_neg cc2, if_neg cc3, if_pos cc4]) c11
        · obtain ⟨_, T3, L3, X3, hQ3, st3⟩ := own_callS X1 hx hZ hown (y := y_9) (w_57 hw) (w_58 hw) (w_55 hw) (w_59 hw) (rm120 l Z hw a1 b1 i2 i3 i4 i5 ck6 k1 h1 n0 z1 Va2 cc1 Vn1 g_b1 ne_a1_b1 cc2 cc3 cc4 B1) e1 (Ls := #[vr a1, vi 0, vi 4, vr b1, un, un]) hml.symm (argsL := [(.ref a1), (.int 0), (.ref b1), (.int 0), (.int 4)]) (rest := []) (lenOf pd_8 rfl) (B d10_9) (W := 0)
          obtain ⟨rfl, Nq3, K3, o3_0, o3_1⟩ := hQ3
          have N3 := Fr.app N0 Nq3
          have s1 := K3.1
          have sz_b1 : h0.size ≤ b1 := (Nat.le_of_eq g1.symm)
          have Kp0 := (Keep.refl h0 []).ext E1
          have Kp1 := Kp0.trans K3 (allS (Or.inr sz_b1) all0)
          refine ⟨T3, _, _, _, (some (.ref b1)), X3, nofun, by decide, by decide, ?_, fun fs hr => ?_⟩
          · exact ⟨b1, k1, rfl, N3, Kp1, sz_b1, o3_0, o3_1⟩
          · refine sI X0 hx (B d10_0) rfl ?_
            refine st1 _ ?_
            refine XS.astoreN X1.here hx rfl (B d10_3) rfl rfl (l' := #[vr a1, vi 0, vi 4, vr b1, un, un]) rfl ?_
            refine sA X1 hx (B d10_4) rfl rfl ?_
            refine sI X1 hx (B d10_5) rfl ?_
            refine sA X1 hx (B d10_6) rfl rfl ?_
            refine sC X1 hx (B d10_7) ?_
            refine sI X1 hx (B d10_8) rfl ?_
            refine st3 _ ?_
            refine XS.istore X3.here hx rfl (B d10_12) rfl (l' := #[vr a1, vi 0, vi 4, vr b1, vi 4, un]) rfl ?_
            refine sJ X3 hx (B d10_14) rfl ?_
            refine sI X3 hx (B d10_16) rfl ?_
            refine XS.icmpYes X3.here hx rfl (pc0 := 17) (pc' := 57) rfl (B d10_17) rfl (teq (by decide : (4 : Int32) = (4 : Int32))).1 (by decide) (by decide) ?_
            refine sA X3 hx (B d10_57) rfl rfl ?_
            exact retOut X3 hx hret rfl (Or.inr (Or.inr (Or.inr (Or.inr ⟨rfl, rfl, rfl⟩)))) (B d10_58) hr
abbrev Rm128 : Room := rmk 2 1 4 35
def Q128 (Z : State) (a1 a2 : Addr) (i3 i5 i6 i7 i8 : Int32) (ck9 : ClassId) (h0 : Heap) (n0 : Nat) (v : Option Value) (h : Heap) (L : List Loc) : Prop := ∃ b3_0 : Addr, ∃ k3_1 : ClassId, v = none ∧ Fr n0 L ∧ Keep h0 h [a1] ∧ Exa Z h a1 jS ∧ Fld Z h a1 jS "coder" "B" (.int 0) ∧ Fld Z h a1 jS "value" "[B" (.ref b3_0) ∧ h0.size ≤ b3_0 ∧ Exa Z h b3_0 "[B" ∧ Arv Z h b3_0 k3_1 .byte 4 [(.int (nar .byte (i5.toInt8.toInt32))), (.int (nar .byte (i6.toInt8.toInt32))), (.int (nar .byte (i7.toInt8.toInt32))), (.int (nar .byte (i8.toInt8.toInt32)))] (.int 0)
theorem rm128 (l : Launch) (Z : State) {a0 : Array Value} (hw : OW a0 Z) (a1 a2 : Addr) (i3 i5 i6 i7 i8 : Int32) (ck9 : ClassId) (h0 : Heap) (n0 : Nat) (Z0 : n0 ≤ h0.size) (S_COMPACT_STRINGS : Sta Z Z.heap "java/lang/String" "COMPACT_STRINGS" "Z" (.int i3)) (Od0 : Old Z n0 h0) (c4 : ¬ (i3 = 0)) (V_a2 : Arv Z h0 a2 ck9 .char 4 [(.int i5), (.int i6), (.int i7), (.int i8)] (.int 0)) (S__assertionsDisabled : Sta Z Z.heap "java/lang/StringUTF16" "$assertionsDisabled" "Z" (.int 1)) (S_HI_BYTE_SHIFT : Sta Z Z.heap "java/lang/StringUTF16" "HI_BYTE_SHIFT" "I" (.int 0)) (S_LO_BYTE_SHIFT : Sta Z Z.heap "java/lang/StringUTF16" "LO_BYTE_SHIFT" "I" (.int 8)) (c10 : ¬ (65535 < i5)) (c11 : ¬ (65535 < i6)) (c12 : ¬ (65535 < i7)) (c13 : ¬ (65535 < i8)) (c14 : ¬ ((own_cc3 i5 i6 i7 i8) = 0)) (F_coder_a1 : Fld Z h0 a1 jS "coder" "B" (.int 0)) (E_a1 : Exa Z h0 a1 jS) (g_a1 : n0 ≤ a1) (F_value_a1 : Fld Z h0 a1 jS "value" "[B" .null) :
    OwnMet l Z y_2 jdk_42_method_149_code 6 none [] Rm128 #[(.ref a1), (.ref a2), (.int 0), (.int 4), .null] h0 (Q128 Z a1 a2 i3 i5 i6 i7 i8 ck9 h0 n0) := by
  refine own_body (plainFor_of_name pn_1) (ef_3abfcd a1 a2) ?_
  intro p e s m below meth c s₁ hx hby hml hown hnm hret hZ X0 e0
  have N0 := Fr.nil n0
  have B := hbx hby
  obtain ⟨T1, X1, e1, st1⟩ := initO X0 hx hZ hown (w_23 hw) (w_24 hw) (w_25 hw) e0 (g := (mkF m 1 #[vr a1, vr a2, vi 0, vi 4, .val .null, un] [(.ref a1)])) rfl hml.symm rfl (B d4_1) (by decide) (W := 0) (by show 2 * 0 + _ ≤ _; exact Nat.le_of_eq rfl) (by decide)
  obtain ⟨T2, X2, e2, st2⟩ := getS2 X1 hx hZ hown (host := "") (Or.inl (w_51 hw)) Via.refl e1 (S_COMPACT_STRINGS.ext Od0.2) (g := (mkF m 27 #[vr a1, vr a2, vi 0, vi 4, .val .null, un] [])) rfl (B d4_27)
  obtain ⟨_, T3, L3, X3, hQ3, st3⟩ := own_callS X2 hx hZ hown (y := y_15) (w_53 hw) (w_54 hw) (w_55 hw) (w_56 hw) (rm127 l Z hw a2 i5 i6 i7 i8 ck9 h0 n0 Z0 V_a2 S__assertionsDisabled Od0 S_HI_BYTE_SHIFT S_LO_BYTE_SHIFT c10 c11 c12 c13 c14) e2 (Ls := #[vr a1, vr a2, vi 0, vi 4, .val .null, un]) hml.symm (argsL := [(.ref a2), (.int 0), (.int 4)]) (rest := []) (lenOf pd_12 rfl) (B d4_36) (W := 0)
  obtain ⟨b3_0, k3_1, rfl, Nq3, K3, o3_0, o3_1, o3_2⟩ := hQ3
  have N3 := Fr.app N0 Nq3
  have s0 := K3.1
  have z1 := Nat.le_trans Z0 s0
  obtain ⟨_, T4, L4, X4, hQ4, st4⟩ := own_callS X3 hx hZ hown (y := y_16) (w_79 hw) (w_80 hw) (w_55 hw) (w_81 hw) (rm19 l Z hw b3_0 (4 : Int32) [(.int (nar .byte (i5.toInt8.toInt32))), (.int (nar .byte (i6.toInt8.toInt32))), (.int (nar .byte (i7.toInt8.toInt32))), (.int (nar .byte (i8.toInt8.toInt32)))] k3_1 (4 : Int32) T3.heap n0 z1 o3_2) rfl (Ls := #[vr a1, vr a2, vi 0, vi 4, .val .null, vr b3_0]) hml.symm (argsL := [(.ref b3_0), (.int 4)]) (rest := [(.ref a1)]) (lenOf pd_14 rfl) (B d4_45) (W := 1)
  obtain ⟨rfl, Nq4, e4⟩ := hQ4
  have N4 := Fr.app N3 Nq4
  have Fl5 := (F_coder_a1.keep K3 nin0)
  have Ex6 := (E_a1.keep K3)
  obtain ⟨T7, h7, X7, e7, W7, st7⟩ := putFN X4 hx hZ hown (w_33 hw) Via.refl e4 Fl5 Ex6 (Or.inr ⟨(w_29 hw), rfl, hnm⟩) (w_13 hw) (ty := .byte) (v' := (.int (nar .byte (0 : Int32)))) (by decide) rfl (fits_nar_byte _) (g := (mkF m 48 #[vr a1, vr a2, vi 0, vi 4, .val .null, vr b3_0] [(.int 0), (.ref a1)])) rfl rfl (B d4_48)
  have s1 := (Keep.of_wr W7).1
  have N7 := Fr.snoc X7 N4 g_a1
  have Fw7 : Fld Z h7 a1 jS "coder" "B" (.int 0) := Fl5.same W7
  have Ex8 := (Ex6.wr W7)
  have Fl9 := ((F_value_a1.keep K3 nin0).other W7 (Or.inr (slot_ne (Or.inr (w_28 hw)) (Or.inr (w_29 hw)) (by decide) (t := (.array .byte)) (t' := .byte) (by decide) (by decide))))
  obtain ⟨T10, h10, X10, e10, W10, st10⟩ := putF X7 hx hZ hown (host := "") (Or.inl (w_32 hw)) Via.refl e7 Fl9 Ex8 (Or.inr ⟨(w_28 hw), rfl, hnm⟩) (w_13 hw) (ty := (.array .byte)) (by decide) rfl rfl (g := (mkF m 54 #[vr a1, vr a2, vi 0, vi 4, .val .null, vr b3_0] [(.ref b3_0), (.ref a1)])) rfl rfl (B d4_54)
  have s2 := (Keep.of_wr W10).1
  have N10 := Fr.snoc X10 N7 g_a1
  have Fw10 : Fld Z h10 a1 jS "value" "[B" (.ref b3_0) := Fl9.same W10
  have Ex11 := (Ex8.wr W10)
  have Fl12 := (Fw7.other W10 (Or.inr (slot_ne (Or.inr (w_29 hw)) (Or.inr (w_28 hw)) (by decide) (t := .byte) (t' := (.array .byte)) (by decide) (by decide))))
  have sz_b3_0 : h0.size ≤ b3_0 := o3_0
  have Ex13 := ((o3_1.wr W7).wr W10)
  have ne_a1_b3_0 := Nat.ne_of_lt (Nat.lt_of_lt_of_le F_value_a1.lt o3_0)
  have Va14 := ((o3_2.other W7 (Ne.symm ne_a1_b3_0)).other W10 (Ne.symm ne_a1_b3_0))
  have Kp0 := (Keep.refl h0 [a1]).trans K3 all0
  have Kp1 := Kp0.wr W7 own_m0
  have Kp2 := Kp1.wr W10 own_m0
  refine ⟨T10, _, _, _, none, X10, (fun _ => rfl), by decide, by decide, ?_, fun fs hr => ?_⟩
  · rw [e10]
    exact ⟨b3_0, k3_1, rfl, N10, Kp2, Ex11, Fl12, Fw10, sz_b3_0, Ex13, Va14⟩
  · refine sA X0 hx (B d4_0) rfl rfl ?_
    refine st1 _ ?_
    refine sI X1 hx (B d4_4) rfl ?_
    refine XS.ifYes X1.here hx rfl (pc0 := 5) (pc' := 27) rfl (B d4_5) rfl ((if0 _ _).trans (feq (by decide : ¬ ((4 : Int32) = (0 : Int32)))).2) (by decide) (by decide) ?_
    refine st2 _ ?_
    refine XS.ifNo X2.here hx rfl (B d4_30) rfl ((if0 _ _).trans (feq c4).1) ?_
    refine sA X2 hx (B d4_33) rfl rfl ?_
    refine sI X2 hx (B d4_34) rfl ?_
    refine sI X2 hx (B d4_35) rfl ?_
    refine st3 _ ?_
    refine XS.astore X3.here hx rfl (B d4_39) rfl rfl (l' := #[vr a1, vr a2, vi 0, vi 4, .val .null, vr b3_0]) rfl ?_
    refine sA X3 hx (B d4_41) rfl rfl ?_
    refine sB X3 hx (B d4_42) rfl rfl ?_
    refine sI X3 hx (B d4_44) rfl ?_
    refine st4 _ ?_
    refine st7 _ ?_
    refine sA X7 hx (B d4_51) rfl rfl ?_
    refine sB X7 hx (B d4_52) rfl rfl ?_
    refine st10 _ ?_
    exact X10.returnOut hx hret (B d4_57) hr
abbrev Rm129 : Room := rmk 3 1 4 52
def Q129 (Z : State) (a1 a2 : Addr) (i3 i4 i5 i6 : Int32) (ck7 : ClassId) (i8 : Int32) (h0 : Heap) (n0 : Nat) (v : Option Value) (h : Heap) (L : List Loc) : Prop := ∃ b2_0 : Addr, ∃ k2_1 : ClassId, v = none ∧ Fr n0 L ∧ Keep h0 h [a1] ∧ Exa Z h a1 jS ∧ Fld Z h a1 jS "coder" "B" (.int 0) ∧ Fld Z h a1 jS "value" "[B" (.ref b2_0) ∧ h0.size ≤ b2_0 ∧ Exa Z h b2_0 "[B" ∧ Arv Z h b2_0 k2_1 .byte 4 [(.int (nar .byte (i3.toInt8.toInt32))), (.int (nar .byte (i4.toInt8.toInt32))), (.int (nar .byte (i5.toInt8.toInt32))), (.int (nar .byte (i6.toInt8.toInt32)))] (.int 0)
theorem rm129 (l : Launch) (Z : State) {a0 : Array Value} (hw : OW a0 Z) (a1 a2 : Addr) (i3 i4 i5 i6 : Int32) (ck7 : ClassId) (i8 : Int32) (h0 : Heap) (n0 : Nat) (Z0 : n0 ≤ h0.size) (V_a2 : Arv Z h0 a2 ck7 .char 4 [(.int i3), (.int i4), (.int i5), (.int i6)] (.int 0)) (S_COMPACT_STRINGS : Sta Z Z.heap "java/lang/String" "COMPACT_STRINGS" "Z" (.int i8)) (Od0 : Old Z n0 h0) (c9 : ¬ (i8 = 0)) (S__assertionsDisabled : Sta Z Z.heap "java/lang/StringUTF16" "$assertionsDisabled" "Z" (.int 1)) (S_HI_BYTE_SHIFT : Sta Z Z.heap "java/lang/StringUTF16" "HI_BYTE_SHIFT" "I" (.int 0)) (S_LO_BYTE_SHIFT : Sta Z Z.heap "java/lang/StringUTF16" "LO_BYTE_SHIFT" "I" (.int 8)) (c10 : ¬ (65535 < i3)) (c11 : ¬ (65535 < i4)) (c12 : ¬ (65535 < i5)) (c13 : ¬ (65535 < i6)) (c14 : ¬ ((own_cc3 i3 i4 i5 i6) = 0)) (F_coder_a1 : Fld Z h0 a1 jS "coder" "B" (.int 0)) (E_a1 : Exa Z h0 a1 jS) (g_a1 : n0 ≤ a1) (F_value_a1 : Fld Z h0 a1 jS "value" "[B" .null) :
    OwnMet l Z y_3 jdk_42_method_3_code 2 none [] Rm129 #[(.ref a1), (.ref a2)] h0 (Q129 Z a1 a2 i3 i4 i5 i6 ck7 i8 h0 n0) := by
  refine own_body (plainFor_of_name pn_1) (ef_463e93 a1 a2) ?_
  intro p e s m below meth c s₁ hx hby hml hown hnm hret hZ X0 e0
  have N0 := Fr.nil n0
  have B := hbx hby
  obtain ⟨cl1, Ar1, q1, S1, M1, Hs1, G1⟩ := id V_a2
  obtain ⟨_, T2, L2, X2, hQ2, st2⟩ := own_special X0 hx hZ hown (y := y_2) (a := a1) (w_19 hw) (w_20 hw) (w_14 hw) (w_22 hw) (rm128 l Z hw a1 a2 i8 i3 i4 i5 i6 ck7 h0 n0 Z0 S_COMPACT_STRINGS Od0 c9 V_a2 S__assertionsDisabled S_HI_BYTE_SHIFT S_LO_BYTE_SHIFT c10 c11 c12 c13 c14 F_coder_a1 E_a1 g_a1 F_value_a1) e0 (Ls := #[vr a1, vr a2]) hml.symm (argsL := [(.ref a2), (.int 0), (.int 4), .null]) (rest := []) (lenOf pd_1 rfl) (B d3_6) (W := 0)
  obtain ⟨b2_0, k2_1, rfl, Nq2, K2, o2_0, o2_1, o2_2, o2_3, o2_4, o2_5⟩ := hQ2
  have N2 := Fr.app N0 Nq2
  have s0 := K2.1
  have sz_b2_0 : h0.size ≤ b2_0 := o2_3
  have Kp0 := (Keep.refl h0 [a1]).trans K2 (allS own_m0 all0)
  refine ⟨T2, _, _, _, none, X2, (fun _ => rfl), by decide, by decide, ?_, fun fs hr => ?_⟩
  · exact ⟨b2_0, k2_1, rfl, N2, Kp0, o2_0, o2_1, o2_2, sz_b2_0, o2_4, o2_5⟩
  · refine sA X0 hx (B d3_0) rfl rfl ?_
    refine sA X0 hx (B d3_1) rfl rfl ?_
    refine sC X0 hx (B d3_2) ?_
    refine sA X0 hx (B d3_3) rfl rfl ?_
    refine X0.arraylength hx (by rw [e0]; exact Ar1.1) (State.isArrayOf_alike hZ.alike Ar1.2.1) (g := (mkF m 4 #[vr a1, vr a2] [(.ref a2), (.int 0), (.ref a2), (.ref a1)])) rfl rfl (B d3_4) _ ?_
    show Steps p.tables e below (s₁.setTop (mkF m 5 #[vr a1, vr a2] [(.int cl1.slots.size.toInt32), (.int 0), (.ref a2), (.ref a1)])) _
    rw [len_of S1 M1]
    refine XS.aconstNull X0.here hx rfl (B d3_5) ?_
    refine st2 _ ?_
    exact X2.returnOut hx hret (B d3_9) hr
abbrev Rm130 : Room := rmk 4 3 12 66
def Q130 (Z : State) (i1 i2 i3 i4 i5 : Int32) (h0 : Heap) (n0 : Nat) (v : Option Value) (h : Heap) (L : List Loc) : Prop := ∃ b1 : Addr, ∃ b22_0 : Addr, ∃ k22_1 : ClassId, v = some (.ref b1) ∧ Fr n0 L ∧ Keep h0 h [] ∧ h0.size ≤ b1 ∧ Exa Z h b1 jS ∧ Fld Z h b1 jS "coder" "B" (.int 0) ∧ Fld Z h b1 jS "value" "[B" (.ref b22_0) ∧ h0.size ≤ b22_0 ∧ Exa Z h b22_0 "[B" ∧ Arv Z h b22_0 k22_1 .byte 4 [(.int (nar .byte ((nar .char i1).toInt8.toInt32))), (.int (nar .byte ((nar .char i2).toInt8.toInt32))), (.int (nar .byte ((nar .char i3).toInt8.toInt32))), (.int (nar .byte ((nar .char i4).toInt8.toInt32)))] (.int 0) ∧ b1 ≠ b22_0
theorem rm130 (l : Launch) (Z : State) {a0 : Array Value} (hw : OW a0 Z) (i1 i2 i3 i4 i5 : Int32) (h0 : Heap) (n0 : Nat) (Z0 : n0 ≤ h0.size) (S_COMPACT_STRINGS : Sta Z Z.heap "java/lang/String" "COMPACT_STRINGS" "Z" (.int i5)) (Od0 : Old Z n0 h0) (c6 : ¬ (i5 = 0)) (S__assertionsDisabled : Sta Z Z.heap "java/lang/StringUTF16" "$assertionsDisabled" "Z" (.int 1)) (S_HI_BYTE_SHIFT : Sta Z Z.heap "java/lang/StringUTF16" "HI_BYTE_SHIFT" "I" (.int 0)) (S_LO_BYTE_SHIFT : Sta Z Z.heap "java/lang/StringUTF16" "LO_BYTE_SHIFT" "I" (.int 8)) (c7 : ¬ ((own_cc3 (nar .char i1) (nar .char i2) (nar .char i3) (nar .char i4)) = 0)) :
    OwnMet l Z y_4 method_4_code 5 (some (.object "java/lang/String")) [] Rm130 #[(.int 4), (.int i1), (.int i2), (.int i3), (.int i4)] h0 (Q130 Z i1 i2 i3 i4 i5 h0 n0) := by
  refine own_body (plainFor_of_name pn_0) (ef_05a483 i1 i2 i3 i4) ?_
  intro p e s m below meth c s₁ hx hby hml hown hnm hret hZ X0 e0
  have N0 := Fr.nil n0
  have B := hbx hby
  obtain ⟨T1, h1, X1, e1, E1, A1, D1, -, st1⟩ := newO X0 hx hZ hown (w_12 hw) (w_13 hw) (w_14 hw) e0 (g := (mkF m 87 #[vi 4, vi i1, vi i2, vi i3, vi i4] [])) rfl (B d2_87) (by decide) (by decide)
  obtain ⟨b1, g1⟩ : ∃ z, z = h0.size := ⟨_, rfl⟩
  rw [← g1] at A1 D1 st1
  have s0 := E1.1
  have Fn1_value : Fld Z h1 b1 jS "value" "[B" .null := D1 (Or.inr (w_28 hw)) (ty := (.array .byte)) (by decide)
  have Fn1_coder : Fld Z h1 b1 jS "coder" "B" (.int 0) := D1 (Or.inr (w_29 hw)) (ty := .byte) (by decide)
  obtain ⟨T2, h2, k2, X2, e2, E2, A2, B2, st2⟩ := newPE (aty := .char) X1 hx hZ (w_15 hw) e1 (g := (mkF m 92 #[vi 4, vi i1, vi i2, vi i3, vi i4] [(.int 4), (.ref b1), (.ref b1)])) rfl (B d2_92) rfl (by decide) (cap := 4) (by decide) (by decide) (by decide) (by decide) (ad := "[C") (by decide)
  obtain ⟨b2, g2⟩ : ∃ z, z = h1.size := ⟨_, rfl⟩
  rw [← g2] at A2 B2 st2
  have s1 := E2.1
  have Vn2 : Arv Z h2 b2 k2 .char 4 [(.int 0), (.int 0), (.int 0), (.int 0)] (.int 0) := (Arv.new A2 (by decide)).pad (pad_rep [] (.int 0) 4)
  obtain ⟨cl3, Ar3, q3, S3, M3, Hs3, G3⟩ := id Vn2
  have hin4 := inb_of (j := 0) S3 ⟨by decide, by decide⟩
  obtain ⟨T5, h5, X5, e5, W5, st5⟩ := stC X2 hx hZ e2 Ar3 (j := 0) hin4 (g := (mkF m 97 #[vi 4, vi i1, vi i2, vi i3, vi i4] [(.int i1), (.int 0), (.ref b2), (.ref b2), (.ref b1), (.ref b1)])) rfl rfl (B d2_97)
  have s2 := (Keep.of_wr W5).1
  have z1 := Nat.le_trans Z0 s0
  have g_b2 : n0 ≤ b2 := Nat.le_trans z1 (Nat.le_of_eq g2.symm)
  have N5 := Fr.snoc X5 N0 g_b2
  have Vs5 : Arv Z h5 b2 k2 .char 4 [(.int (nar .char i1)), (.int 0), (.int 0), (.int 0)] (.int 0) := Arv.set Ar3 q3 S3 M3 Hs3 G3 (fits_nar_char _) W5 0 rfl (nl rfl)
  obtain ⟨cl6, Ar6, q6, S6, M6, Hs6, G6⟩ := id Vs5
  have hin7 := inb_of (j := 1) S6 ⟨by decide, by decide⟩
  obtain ⟨T8, h8, X8, e8, W8, st8⟩ := stC X5 hx hZ e5 Ar6 (j := 1) hin7 (g := (mkF m 101 #[vi 4, vi i1, vi i2, vi i3, vi i4] [(.int i2), (.int 1), (.ref b2), (.ref b2), (.ref b1), (.ref b1)])) rfl rfl (B d2_101)
  have s3 := (Keep.of_wr W8).1
  have N8 := Fr.snoc X8 N5 g_b2
  have Vs8 : Arv Z h8 b2 k2 .char 4 [(.int (nar .char i1)), (.int (nar .char i2)), (.int 0), (.int 0)] (.int 0) := Arv.set Ar6 q6 S6 M6 Hs6 G6 (fits_nar_char _) W8 1 rfl (nl rfl)
  obtain ⟨cl9, Ar9, q9, S9, M9, Hs9, G9⟩ := id Vs8
  have hin10 := inb_of (j := 2) S9 ⟨by decide, by decide⟩
  obtain ⟨T11, h11, X11, e11, W11, st11⟩ := stC X8 hx hZ e8 Ar9 (j := 2) hin10 (g := (mkF m 105 #[vi 4, vi i1, vi i2, vi i3, vi i4] [(.int i3), (.int 2), (.ref b2), (.ref b2), (.ref b1), (.ref b1)])) rfl rfl (B d2_105)
  have s4 := (Keep.of_wr W11).1
  have N11 := Fr.snoc X11 N8 g_b2
  have Vs11 : Arv Z h11 b2 k2 .char 4 [(.int (nar .char i1)), (.int (nar .char i2)), (.int (nar .char i3)), (.int 0)] (.int 0) := Arv.set Ar9 q9 S9 M9 Hs9 G9 (fits_nar_char _) W11 2 rfl (nl rfl)
  obtain ⟨cl12, Ar12, q12, S12, M12, Hs12, G12⟩ := id Vs11
  have hin13 := inb_of (j := 3) S12 ⟨by decide, by decide⟩
  obtain ⟨T14, h14, X14, e14, W14, st14⟩ := stC X11 hx hZ e11 Ar12 (j := 3) hin13 (g := (mkF m 110 #[vi 4, vi i1, vi i2, vi i3, vi i4] [(.int i4), (.int 3), (.ref b2), (.ref b2), (.ref b1), (.ref b1)])) rfl rfl (B d2_110)
  have s5 := (Keep.of_wr W14).1
  have N14 := Fr.snoc X14 N11 g_b2
  have Vs14 : Arv Z h14 b2 k2 .char 4 [(.int (nar .char i1)), (.int (nar .char i2)), (.int (nar .char i3)), (.int (nar .char i4))] (.int 0) := Arv.set Ar12 q12 S12 M12 Hs12 G12 (fits_nar_char _) W14 3 rfl (nl rfl)
  have Od1 := Od0.ext E1
  have Od2 := Od1.ext E2
  have Od3 := Od2.wr W5 g_b2
  have Od4 := Od3.wr W8 g_b2
  have Od5 := Od4.wr W11 g_b2
  have Od6 := Od5.wr W14 g_b2
  have cd15 : ¬ (65535 < (nar .char i1)) := (by rw [Int32.lt_iff_toInt_lt]; have : ((65535 : Int32)).toInt = 65535 := (by decide); have := rng32 (nar .char i1); have := rng32 i1; have := own_c_nar_char i1; omega)
  have cd16 : ¬ (65535 < (nar .char i2)) := (by rw [Int32.lt_iff_toInt_lt]; have : ((65535 : Int32)).toInt = 65535 := (by decide); have := rng32 (nar .char i2); have := rng32 i2; have := own_c_nar_char i2; omega)
  have cd17 : ¬ (65535 < (nar .char i3)) := (by rw [Int32.lt_iff_toInt_lt]; have : ((65535 : Int32)).toInt = 65535 := (by decide); have := rng32 (nar .char i3); have := rng32 i3; have := own_c_nar_char i3; omega)
  have cd18 : ¬ (65535 < (nar .char i4)) := (by rw [Int32.lt_iff_toInt_lt]; have : ((65535 : Int32)).toInt = 65535 := (by decide); have := rng32 (nar .char i4); have := rng32 i4; have := own_c_nar_char i4; omega)
  have ne_b1_b2 := Nat.ne_of_lt (Nat.lt_of_lt_of_le Fn1_value.lt (Nat.le_of_eq g2.symm))
  have Fl19 := (((((Fn1_coder.ext E2).other W5 (Or.inl ne_b1_b2)).other W8 (Or.inl ne_b1_b2)).other W11 (Or.inl ne_b1_b2)).other W14 (Or.inl ne_b1_b2))
  have Ex20 := (((((A1.ext E2).wr W5).wr W8).wr W11).wr W14)
  have g_b1 : n0 ≤ b1 := Nat.le_trans Z0 (Nat.le_of_eq g1.symm)
  have Fl21 := (((((Fn1_value.ext E2).other W5 (Or.inl ne_b1_b2)).other W8 (Or.inl ne_b1_b2)).other W11 (Or.inl ne_b1_b2)).other W14 (Or.inl ne_b1_b2))
  have z6 := Nat.le_trans Z0 (Nat.le_trans (Nat.le_trans (Nat.le_trans (Nat.le_trans (Nat.le_trans s0 s1) s2) s3) s4) s5)
  obtain ⟨_, T22, L22, X22, hQ22, st22⟩ := own_special X14 hx hZ hown (y := y_3) (a := b1) (w_16 hw) (w_17 hw) (w_14 hw) (w_18 hw) (rm129 l Z hw b1 b2 (nar .char i1) (nar .char i2) (nar .char i3) (nar .char i4) k2 i5 h14 n0 z6 Vs14 S_COMPACT_STRINGS Od6 c6 S__assertionsDisabled S_HI_BYTE_SHIFT S_LO_BYTE_SHIFT cd15 cd16 cd17 cd18 c7 Fl19 Ex20 g_b1 Fl21) e14 (Ls := #[vi 4, vi i1, vi i2, vi i3, vi i4]) hml.symm (argsL := [(.ref b2)]) (rest := [(.ref b1)]) (lenOf pd_2 rfl) (B d2_111) (W := 1)
  obtain ⟨b22_0, k22_1, rfl, Nq22, K22, o22_0, o22_1, o22_2, o22_3, o22_4, o22_5⟩ := hQ22
  have N22 := Fr.app N14 Nq22
  have s6 := K22.1
  have sz_b1 : h0.size ≤ b1 := (Nat.le_of_eq g1.symm)
  have sz_b22_0 : h0.size ≤ b22_0 := Nat.le_trans (Nat.le_trans (Nat.le_trans (Nat.le_trans (Nat.le_trans (Nat.le_trans s0 s1) s2) s3) s4) s5) o22_3
  have ne_b1_b22_0 := Nat.ne_of_lt (Nat.lt_of_lt_of_le Fl21.lt o22_3)
  have Kp0 := (Keep.refl h0 []).ext E1
  have Kp1 := Kp0.ext E2
  have sz_b2 : h0.size ≤ b2 := Nat.le_trans s0 (Nat.le_of_eq g2.symm)
  have Kp2 := Kp1.wr W5 (Or.inr sz_b2)
  have Kp3 := Kp2.wr W8 (Or.inr sz_b2)
  have Kp4 := Kp3.wr W11 (Or.inr sz_b2)
  have Kp5 := Kp4.wr W14 (Or.inr sz_b2)
  have Kp6 := Kp5.trans K22 (allS (Or.inr sz_b1) all0)
  refine ⟨T22, _, _, _, (some (.ref b1)), X22, nofun, by decide, by decide, ?_, fun fs hr => ?_⟩
  · exact ⟨b1, b22_0, k22_1, rfl, N22, Kp6, sz_b1, o22_0, o22_1, o22_2, sz_b22_0, o22_4, o22_5, ne_b1_b22_0⟩
  · refine sI X0 hx (B d2_0) rfl ?_
    refine XS.ifYes X0.here hx rfl (pc0 := 1) (pc' := 15) rfl (B d2_1) rfl ((if0 _ _).trans (feq (by decide : ¬ ((4 : Int32) = (0 : Int32)))).2) (by decide) (by decide) ?_
    refine sI X0 hx (B d2_15) rfl ?_
    refine sC X0 hx (B d2_16) ?_
    refine XS.icmpYes X0.here hx rfl (pc0 := 17) (pc' := 35) rfl (B d2_17) rfl (feq (by decide : ¬ ((4 : Int32) = (1 : Int32)))).2 (by decide) (by decide) ?_
    refine sI X0 hx (B d2_35) rfl ?_
    refine sC X0 hx (B d2_36) ?_
    refine XS.icmpYes X0.here hx rfl (pc0 := 37) (pc' := 59) rfl (B d2_37) rfl (feq (by decide : ¬ ((4 : Int32) = (2 : Int32)))).2 (by decide) (by decide) ?_
    refine sI X0 hx (B d2_59) rfl ?_
    refine sC X0 hx (B d2_60) ?_
    refine XS.icmpYes X0.here hx rfl (pc0 := 61) (pc' := 87) rfl (B d2_61) rfl (feq (by decide : ¬ ((4 : Int32) = (3 : Int32)))).2 (by decide) (by decide) ?_
    refine st1 _ ?_
    refine XS.dup X1.here hx rfl (B d2_90) rfl rfl ?_
    refine sC X1 hx (B d2_91) ?_
    refine st2 _ ?_
    refine XS.dup X2.here hx rfl (B d2_94) rfl rfl ?_
    refine sC X2 hx (B d2_95) ?_
    refine sI X2 hx (B d2_96) rfl ?_
    refine st5 _ ?_
    refine XS.dup X5.here hx rfl (B d2_98) rfl rfl ?_
    refine sC X5 hx (B d2_99) ?_
    refine sI X5 hx (B d2_100) rfl ?_
    refine st8 _ ?_
    refine XS.dup X8.here hx rfl (B d2_102) rfl rfl ?_
    refine sC X8 hx (B d2_103) ?_
    refine sI X8 hx (B d2_104) rfl ?_
    refine st11 _ ?_
    refine XS.dup X11.here hx rfl (B d2_106) rfl rfl ?_
    refine sC X11 hx (B d2_107) ?_
    refine sJ X11 hx (B d2_108) rfl ?_
    refine st14 _ ?_
    refine st22 _ ?_
    exact retOut X22 hx hret rfl (Or.inr (Or.inr (Or.inr (Or.inr ⟨rfl, rfl, rfl⟩)))) (B d2_114) hr
abbrev Rm131 : Room := rmk 8 0 0 150
def Q131 (Z : State) (a1 a2 : Addr) (i3 i4 i5 i6 : Int32) (ck7 : ClassId) (i8 : Int32) (r10 : Value) (h0 : Heap) (n0 : Nat) (v : Option Value) (h : Heap) (L : List Loc) : Prop := v = some (.int (-1)) ∧ Fr n0 L ∧ h = h0
theorem rm131 (l : Launch) (Z : State) {a0 : Array Value} (hw : OW a0 Z) (a1 a2 : Addr) (i3 i4 i5 i6 : Int32) (ck7 : ClassId) (i8 : Int32) (r10 : Value) (h0 : Heap) (n0 : Nat) (Z0 : n0 ≤ h0.size) (E_a1 : Exa Z h0 a1 jS) (F_value_a1 : Fld Z h0 a1 jS "value" "[B" (.ref a2)) (V_a2 : Arv Z h0 a2 ck7 .byte 4 [(.int i3), (.int i4), (.int i5), (.int i6)] (.int 0)) (S_COMPACT_STRINGS : Sta Z Z.heap "java/lang/String" "COMPACT_STRINGS" "Z" (.int i8)) (Od0 : Old Z n0 h0) (c9 : ¬ (i8 = 0)) (F_coder_a1 : Fld Z h0 a1 jS "coder" "B" (.int 0)) (R_r10 : r10.isRef = true) (S_SIOOBE_FORMATTER : Sta Z Z.heap "jdk/internal/util/Preconditions" "SIOOBE_FORMATTER" "Ljava/util/function/BiFunction;" r10) :
    OwnMet l Z y_8 prog_10_method_10_code 3 (some .int) [] Rm131 #[(.ref a1)] h0 (Q131 Z a1 a2 i3 i4 i5 i6 ck7 i8 r10 h0 n0) := by
  refine own_body (plainFor_of_name pn_2) (ef_aae876 a1) ?_
  intro p e s m below meth c s₁ hx hby hml hown hnm hret hZ X0 e0
  have N0 := Fr.nil n0
  have B := hbx hby
  obtain ⟨T1, L1, X1, e1, N1, st1⟩ := tn55 l Z hw a1 (0 : Int32) .unset a2 [(.int i3), (.int i4), (.int i5), (.int i6)] ck7 (4 : Int32) i8 r10 i3 h0 n0 Z0 (Or.inl rfl) E_a1 F_value_a1 V_a2 S_COMPACT_STRINGS Od0 c9 F_coder_a1 (by decide) R_r10 S_SIOOBE_FORMATTER (by decide) (by decide) rfl hx hby hml hown hZ X0 e0 N0 (by decide) (by decide)
  obtain ⟨T2, L2, X2, e2, N2, st2⟩ := tn55 l Z hw a1 (1 : Int32) (vi (i3 &&& (255 : Int32))) a2 [(.int i3), (.int i4), (.int i5), (.int i6)] ck7 (4 : Int32) i8 r10 i4 h0 n0 Z0 (Or.inr ⟨_, rfl⟩) E_a1 F_value_a1 V_a2 S_COMPACT_STRINGS Od0 c9 F_coder_a1 (by decide) R_r10 S_SIOOBE_FORMATTER (by decide) (by decide) rfl hx hby hml hown hZ X1 e1 N1 (by decide) (by decide)
  obtain ⟨T3, L3, X3, e3, N3, st3⟩ := tn55 l Z hw a1 (2 : Int32) (vi (i4 &&& (255 : Int32))) a2 [(.int i3), (.int i4), (.int i5), (.int i6)] ck7 (4 : Int32) i8 r10 i5 h0 n0 Z0 (Or.inr ⟨_, rfl⟩) E_a1 F_value_a1 V_a2 S_COMPACT_STRINGS Od0 c9 F_coder_a1 (by decide) R_r10 S_SIOOBE_FORMATTER (by decide) (by decide) rfl hx hby hml hown hZ X2 e2 N2 (by decide) (by decide)
  obtain ⟨T4, L4, X4, e4, N4, st4⟩ := tn55 l Z hw a1 (3 : Int32) (vi (i5 &&& (255 : Int32))) a2 [(.int i3), (.int i4), (.int i5), (.int i6)] ck7 (4 : Int32) i8 r10 i6 h0 n0 Z0 (Or.inr ⟨_, rfl⟩) E_a1 F_value_a1 V_a2 S_COMPACT_STRINGS Od0 c9 F_coder_a1 (by decide) R_r10 S_SIOOBE_FORMATTER (by decide) (by decide) rfl hx hby hml hown hZ X3 e3 N3 (by decide) (by decide)
  obtain ⟨T5, L5, X5, e5, N5, st5⟩ := tn9 l Z hw a1 (4 : Int32) (vi (i6 &&& (255 : Int32))) a2 [(.int i3), (.int i4), (.int i5), (.int i6)] ck7 (4 : Int32) i8 h0 n0 Z0 (Or.inr ⟨_, rfl⟩) E_a1 F_value_a1 V_a2 S_COMPACT_STRINGS Od0 c9 F_coder_a1 (by decide) hx hby hml hown hZ X4 e4 N4 (by decide) (by decide)
  refine ⟨T5, _, _, _, (some (.int (-1))), X5, nofun, by decide, by decide, ?_, fun fs hr => ?_⟩
  · rw [e5]
    exact ⟨rfl, N5, rfl⟩
  · refine sC X0 hx (B d7_0) ?_
    refine XS.istoreN X0.here hx rfl (B d7_1) rfl (l' := #[vr a1, vi 0, un]) rfl ?_
    refine st1 _ ?_
    refine st2 _ ?_
    refine st3 _ ?_
    refine st4 _ ?_
    refine st5 _ ?_
    refine sC X5 hx (B d7_40) ?_
    exact retI X5 hx hret (B d7_41) hr
theorem own_finL_4 (c0 c1 c2 c3 : Int32) (h : ¬ own_cc3 c0 c1 c2 c3 = 0) : (-1 : Int32) = own_ex3 c0 c1 c2 c3 := by
  have q0 : ¬ 255 < c0 := fun q => h (by unfold own_cc3; simp only [if_pos q, ite_self])
  have k0 : own_kk c0 = 0 := by unfold own_kk; rw [if_pos]; rw [(own_i c0 255 255 (by decide)).2] at q0; rw [(own_i c0 55296 55296 (by decide)).1]; omega
  have q1 : ¬ 255 < c1 := fun q => h (by unfold own_cc3; simp only [if_pos q, ite_self])
  have k1 : own_kk c1 = 0 := by unfold own_kk; rw [if_pos]; rw [(own_i c1 255 255 (by decide)).2] at q1; rw [(own_i c1 55296 55296 (by decide)).1]; omega
  have q2 : ¬ 255 < c2 := fun q => h (by unfold own_cc3; simp only [if_pos q, ite_self])
  have k2 : own_kk c2 = 0 := by unfold own_kk; rw [if_pos]; rw [(own_i c2 255 255 (by decide)).2] at q2; rw [(own_i c2 55296 55296 (by decide)).1]; omega
  have q3 : ¬ 255 < c3 := fun q => h (by unfold own_cc3; simp only [if_pos q, ite_self])
  have k3 : own_kk c3 = 0 := by unfold own_kk; rw [if_pos]; rw [(own_i c3 255 255 (by decide)).2] at q3; rw [(own_i c3 55296 55296 (by decide)).1]; omega
  unfold own_ex3 own_ln1 own_ln3 own_ln2
  simp only [own_hi_k, own_lw_k, k0, k1, k2, k3] <;> decide
theorem rm0_4 (l : Launch) (Z : State) {a0 : Array Value} (hw : OW a0 Z) (ws : List Jvm.Cond) (p1 p2 p3 p4 p5 : Int32) (sr1 : Value) (si2 : Int32) (h0 : Heap) (n0 : Nat) (Z0 : n0 ≤ h0.size) (Od0 : Old Z n0 h0) (R_sr1 : sr1.isRef = true) (nc6 : ¬ (si2 = 0)) (S7_SIOOBE_FORMATTER : Sta Z Z.heap "jdk/internal/util/Preconditions" "SIOOBE_FORMATTER" "Ljava/util/function/BiFunction;" sr1) (S8_COMPACT_STRINGS : Sta Z Z.heap "java/lang/String" "COMPACT_STRINGS" "Z" (.int si2)) (S9__assertionsDisabled : Sta Z Z.heap "java/lang/StringUTF16" "$assertionsDisabled" "Z" (.int 1)) (S10_HI_BYTE_SHIFT : Sta Z Z.heap "java/lang/StringUTF16" "HI_BYTE_SHIFT" "I" (.int 0)) (S11_LO_BYTE_SHIFT : Sta Z Z.heap "java/lang/StringUTF16" "LO_BYTE_SHIFT" "I" (.int 8)) (hk : ((p5 &&& (2147483647 : Int32)) - ((p5 &&& (2147483647 : Int32)) / (5 : Int32)) * (5 : Int32)) = (4 : Int32)) :
    OwnMet l Z x code maxLocals ret ws room_1 #[(.int p1), (.int p2), (.int p3), (.int p4), (.int p5)] h0 (Q0 n0) := by
  refine own_body (plainFor_of_name pn_0) (ef0 p1 p2 p3 p4 p5) ?_
  intro p e s m below meth c s₁ hx hby hml hown hnm hret hZ X0 e0
  have N0 := Fr.nil n0
  have B := hbx hby
  obtain ⟨_, T1, L1, X1, hQ1, st1⟩ := own_callS X0 hx hZ hown (y := y_0) (w_1 hw) (w_2 hw) (w_3 hw) (w_4 hw) (rm1 l Z hw p1 h0 n0 Z0) e0 (Ls := #[vi p1, vi p2, vi p3, vi p4, vi p5, vi 4, un, un, un, un, un, un, un]) hml.symm (argsL := [(.int p1)]) (rest := []) (lenOf pd_0 rfl) (B at_10) (W := 0)
  obtain ⟨rfl, Nq1, e1⟩ := hQ1
  have N1 := Fr.app N0 Nq1
  obtain ⟨_, T2, L2, X2, hQ2, st2⟩ := own_callS X1 hx hZ hown (y := y_0) (w_1 hw) (w_2 hw) (w_3 hw) (w_4 hw) (rm1 l Z hw p2 h0 n0 Z0) e1 (Ls := #[vi p1, vi p2, vi p3, vi p4, vi p5, vi 4, vi (own_ch p1), un, un, un, un, un, un]) hml.symm (argsL := [(.int p2)]) (rest := []) (lenOf pd_0 rfl) (B at_16) (W := 0)
  obtain ⟨rfl, Nq2, e2⟩ := hQ2
  have N2 := Fr.app N1 Nq2
  obtain ⟨_, T3, L3, X3, hQ3, st3⟩ := own_callS X2 hx hZ hown (y := y_0) (w_1 hw) (w_2 hw) (w_3 hw) (w_4 hw) (rm1 l Z hw p3 h0 n0 Z0) e2 (Ls := #[vi p1, vi p2, vi p3, vi p4, vi p5, vi 4, vi (own_ch p1), vi (own_ch p2), un, un, un, un, un]) hml.symm (argsL := [(.int p3)]) (rest := []) (lenOf pd_0 rfl) (B at_22) (W := 0)
  obtain ⟨rfl, Nq3, e3⟩ := hQ3
  have N3 := Fr.app N2 Nq3
  obtain ⟨_, T4, L4, X4, hQ4, st4⟩ := own_callS X3 hx hZ hown (y := y_0) (w_1 hw) (w_2 hw) (w_3 hw) (w_4 hw) (rm1 l Z hw p4 h0 n0 Z0) e3 (Ls := #[vi p1, vi p2, vi p3, vi p4, vi p5, vi 4, vi (own_ch p1), vi (own_ch p2), vi (own_ch p3), un, un, un, un]) hml.symm (argsL := [(.int p4)]) (rest := []) (lenOf pd_0 rfl) (B at_28) (W := 0)
  obtain ⟨rfl, Nq4, e4⟩ := hQ4
  have N4 := Fr.app N3 Nq4
  by_cases cc1 : (own_cc3 (nar .char (own_ch p1)) (nar .char (own_ch p2)) (nar .char (own_ch p3)) (nar .char (own_ch p4))) = 0
  · obtain ⟨_, T5, L5, X5, hQ5, st5⟩ := own_callS X4 hx hZ hown (y := y_4) (w_9 hw) (w_10 hw) (w_3 hw) (w_11 hw) (rm124 l Z hw (own_ch p1) (own_ch p2) (own_ch p3) (own_ch p4) si2 h0 n0 Z0 S8_COMPACT_STRINGS Od0 nc6 S9__assertionsDisabled S10_HI_BYTE_SHIFT S11_LO_BYTE_SHIFT cc1) e4 (Ls := #[vi p1, vi p2, vi p3, vi p4, vi p5, vi 4, vi (own_ch p1), vi (own_ch p2), vi (own_ch p3), vi (own_ch p4), un, un, un]) hml.symm (argsL := [(.int 4), (.int (own_ch p1)), (.int (own_ch p2)), (.int (own_ch p3)), (.int (own_ch p4))]) (rest := []) (lenOf pd_3 rfl) (B at_43) (W := 0)
    obtain ⟨b5_0, b5_1, k5_2, rfl, Nq5, K5, o5_0, o5_1, o5_2, o5_3, o5_4, o5_5, o5_6, o5_7⟩ := hQ5
    have N5 := Fr.app N4 Nq5
    have s0 := K5.1
    obtain ⟨T6, h6, k6, X6, e6, E6, A6, B6, st6⟩ := newPE (aty := .char) X5 hx hZ (w_15 hw) rfl (g := (mkF m 49 #[vi p1, vi p2, vi p3, vi p4, vi p5, vi 4, vi (own_ch p1), vi (own_ch p2), vi (own_ch p3), vi (own_ch p4), vr b5_0, un, un] [(.int 4)])) rfl (B at_49) rfl (by decide) (cap := 4) (by decide) (by decide) (by decide) (by decide) (ad := "[C") (by decide)
    obtain ⟨b6, g6⟩ : ∃ z, z = T5.heap.size := ⟨_, rfl⟩
    rw [← g6] at A6 B6 st6
    have s1 := E6.1
    have Vn6 : Arv Z h6 b6 k6 .char 4 [(.int 0), (.int 0), (.int 0), (.int 0)] (.int 0) := (Arv.new A6 (by decide)).pad (pad_rep [] (.int 0) 4)
    obtain ⟨cl7, Ar7, q7, S7, M7, Hs7, G7⟩ := id Vn6
    have hin8 := inb_of (j := 0) S7 ⟨by decide, by decide⟩
    obtain ⟨T9, h9, X9, e9, W9, st9⟩ := stC X6 hx hZ e6 Ar7 (j := 0) hin8 (g := (mkF m 55 #[vi p1, vi p2, vi p3, vi p4, vi p5, vi 4, vi (own_ch p1), vi (own_ch p2), vi (own_ch p3), vi (own_ch p4), vr b5_0, un, un] [(.int (own_ch p1)), (.int 0), (.ref b6), (.ref b6)])) rfl rfl (B at_55)
    have s2 := (Keep.of_wr W9).1
    have z1 := Nat.le_trans Z0 s0
    have g_b6 : n0 ≤ b6 := Nat.le_trans z1 (Nat.le_of_eq g6.symm)
    have N9 := Fr.snoc X9 N5 g_b6
    have Vs9 : Arv Z h9 b6 k6 .char 4 [(.int (nar .char (own_ch p1))), (.int 0), (.int 0), (.int 0)] (.int 0) := Arv.set Ar7 q7 S7 M7 Hs7 G7 (fits_nar_char _) W9 0 rfl (nl rfl)
    obtain ⟨cl10, Ar10, q10, S10, M10, Hs10, G10⟩ := id Vs9
    have hin11 := inb_of (j := 1) S10 ⟨by decide, by decide⟩
    obtain ⟨T12, h12, X12, e12, W12, st12⟩ := stC X9 hx hZ e9 Ar10 (j := 1) hin11 (g := (mkF m 60 #[vi p1, vi p2, vi p3, vi p4, vi p5, vi 4, vi (own_ch p1), vi (own_ch p2), vi (own_ch p3), vi (own_ch p4), vr b5_0, un, un] [(.int (own_ch p2)), (.int 1), (.ref b6), (.ref b6)])) rfl rfl (B at_60)
    have s3 := (Keep.of_wr W12).1
    have N12 := Fr.snoc X12 N9 g_b6
    have Vs12 : Arv Z h12 b6 k6 .char 4 [(.int (nar .char (own_ch p1))), (.int (nar .char (own_ch p2))), (.int 0), (.int 0)] (.int 0) := Arv.set Ar10 q10 S10 M10 Hs10 G10 (fits_nar_char _) W12 1 rfl (nl rfl)
    obtain ⟨cl13, Ar13, q13, S13, M13, Hs13, G13⟩ := id Vs12
    have hin14 := inb_of (j := 2) S13 ⟨by decide, by decide⟩
    obtain ⟨T15, h15, X15, e15, W15, st15⟩ := stC X12 hx hZ e12 Ar13 (j := 2) hin14 (g := (mkF m 65 #[vi p1, vi p2, vi p3, vi p4, vi p5, vi 4, vi (own_ch p1), vi (own_ch p2), vi (own_ch p3), vi (own_ch p4), vr b5_0, un, un] [(.int (own_ch p3)), (.int 2), (.ref b6), (.ref b6)])) rfl rfl (B at_65)
    have s4 := (Keep.of_wr W15).1
    have N15 := Fr.snoc X15 N12 g_b6
    have Vs15 : Arv Z h15 b6 k6 .char 4 [(.int (nar .char (own_ch p1))), (.int (nar .char (own_ch p2))), (.int (nar .char (own_ch p3))), (.int 0)] (.int 0) := Arv.set Ar13 q13 S13 M13 Hs13 G13 (fits_nar_char _) W15 2 rfl (nl rfl)
    obtain ⟨cl16, Ar16, q16, S16, M16, Hs16, G16⟩ := id Vs15
    have hin17 := inb_of (j := 3) S16 ⟨by decide, by decide⟩
    obtain ⟨T18, h18, X18, e18, W18, st18⟩ := stC X15 hx hZ e15 Ar16 (j := 3) hin17 (g := (mkF m 70 #[vi p1, vi p2, vi p3, vi p4, vi p5, vi 4, vi (own_ch p1), vi (own_ch p2), vi (own_ch p3), vi (own_ch p4), vr b5_0, un, un] [(.int (own_ch p4)), (.int 3), (.ref b6), (.ref b6)])) rfl rfl (B at_70)
    have s5 := (Keep.of_wr W18).1
    have N18 := Fr.snoc X18 N15 g_b6
    have Vs18 : Arv Z h18 b6 k6 .char 4 [(.int (nar .char (own_ch p1))), (.int (nar .char (own_ch p2))), (.int (nar .char (own_ch p3))), (.int (nar .char (own_ch p4)))] (.int 0) := Arv.set Ar16 q16 S16 M16 Hs16 G16 (fits_nar_char _) W18 3 rfl (nl rfl)
    have z6 := Nat.le_trans Z0 (Nat.le_trans (Nat.le_trans (Nat.le_trans (Nat.le_trans (Nat.le_trans s0 s1) s2) s3) s4) s5)
    obtain ⟨T19, L19, X19, e19, N19, st19⟩ := tn125 l Z hw p1 p2 p3 p4 p5 (own_ch p1) (own_ch p2) (own_ch p3) (own_ch p4) b5_0 b6 (nar .char (own_ch p1)) (nar .char (own_ch p2)) (nar .char (own_ch p3)) (nar .char (own_ch p4)) k6 h18 n0 z6 Vs18 hx hby hml hown hZ X18 e18 N18 (by decide) (by decide)
    have Ex20 := (((((o5_1.ext E6).wr W9).wr W12).wr W15).wr W18)
    have ne_b5_0_b6 := Nat.ne_of_lt (Nat.lt_of_lt_of_le o5_3.lt (Nat.le_of_eq g6.symm))
    have Fl21 := (((((o5_3.ext E6).other W9 (Or.inl ne_b5_0_b6)).other W12 (Or.inl ne_b5_0_b6)).other W15 (Or.inl ne_b5_0_b6)).other W18 (Or.inl ne_b5_0_b6))
    have ne_b5_1_b6 := Nat.ne_of_lt (Nat.lt_of_lt_of_le o5_6.lt (Nat.le_of_eq g6.symm))
    have Va22 := (((((o5_6.ext E6).other W9 ne_b5_1_b6).other W12 ne_b5_1_b6).other W15 ne_b5_1_b6).other W18 ne_b5_1_b6)
    have Od1 := Od0.keep K5 all0
    have Od2 := Od1.ext E6
    have Od3 := Od2.wr W9 g_b6
    have Od4 := Od3.wr W12 g_b6
    have Od5 := Od4.wr W15 g_b6
    have Od6 := Od5.wr W18 g_b6
    have Fl23 := (((((o5_2.ext E6).other W9 (Or.inl ne_b5_0_b6)).other W12 (Or.inl ne_b5_0_b6)).other W15 (Or.inl ne_b5_0_b6)).other W18 (Or.inl ne_b5_0_b6))
    have cd24 : ¬ ((nar .char (own_ch p1)) < 0) := (by rw [Int32.lt_iff_toInt_lt]; have := rng32 (nar .char (own_ch p1)); have := rng32 (own_ch p1); have := own_ch_b p1; have := own_c_nar_char (own_ch p1); have : ((0 : Int32)).toInt = 0 := (by decide); omega)
    have cd25 : ¬ (65535 < (nar .char (own_ch p1))) := (by rw [Int32.lt_iff_toInt_lt]; have : ((65535 : Int32)).toInt = 65535 := (by decide); have := rng32 (nar .char (own_ch p1)); have := rng32 (own_ch p1); have := own_ch_b p1; have := own_c_nar_char (own_ch p1); omega)
    have cd26 : ¬ ((nar .char (own_ch p2)) < 0) := (by rw [Int32.lt_iff_toInt_lt]; have := rng32 (nar .char (own_ch p2)); have := rng32 (own_ch p2); have := own_ch_b p2; have := own_c_nar_char (own_ch p2); have : ((0 : Int32)).toInt = 0 := (by decide); omega)
    have cd27 : ¬ (65535 < (nar .char (own_ch p2))) := (by rw [Int32.lt_iff_toInt_lt]; have : ((65535 : Int32)).toInt = 65535 := (by decide); have := rng32 (nar .char (own_ch p2)); have := rng32 (own_ch p2); have := own_ch_b p2; have := own_c_nar_char (own_ch p2); omega)
    have cd28 : ¬ ((nar .char (own_ch p3)) < 0) := (by rw [Int32.lt_iff_toInt_lt]; have := rng32 (nar .char (own_ch p3)); have := rng32 (own_ch p3); have := own_ch_b p3; have := own_c_nar_char (own_ch p3); have : ((0 : Int32)).toInt = 0 := (by decide); omega)
    have cd29 : ¬ (65535 < (nar .char (own_ch p3))) := (by rw [Int32.lt_iff_toInt_lt]; have : ((65535 : Int32)).toInt = 65535 := (by decide); have := rng32 (nar .char (own_ch p3)); have := rng32 (own_ch p3); have := own_ch_b p3; have := own_c_nar_char (own_ch p3); omega)
    have cd30 : ¬ ((nar .char (own_ch p4)) < 0) := (by rw [Int32.lt_iff_toInt_lt]; have := rng32 (nar .char (own_ch p4)); have := rng32 (own_ch p4); have := own_ch_b p4; have := own_c_nar_char (own_ch p4); have : ((0 : Int32)).toInt = 0 := (by decide); omega)
    have cd31 : ¬ (65535 < (nar .char (own_ch p4))) := (by rw [Int32.lt_iff_toInt_lt]; have : ((65535 : Int32)).toInt = 65535 := (by decide); have := rng32 (nar .char (own_ch p4)); have := rng32 (own_ch p4); have := own_ch_b p4; have := own_c_nar_char (own_ch p4); omega)
    obtain ⟨_, T32, L32, X32, hQ32, st32⟩ := own_callS X19 hx hZ hown (y := y_8) (w_37 hw) (w_38 hw) (w_39 hw) (w_40 hw) (rm126 l Z hw b5_0 b5_1 (nar .byte (((nar .char (own_ch p1)) >>> ((0 : Int32) &&& 31)).toInt8.toInt32)) (nar .byte (((nar .char (own_ch p1)) >>> ((8 : Int32) &&& 31)).toInt8.toInt32)) (nar .byte (((nar .char (own_ch p2)) >>> ((0 : Int32) &&& 31)).toInt8.toInt32)) (nar .byte (((nar .char (own_ch p2)) >>> ((8 : Int32) &&& 31)).toInt8.toInt32)) (nar .byte (((nar .char (own_ch p3)) >>> ((0 : Int32) &&& 31)).toInt8.toInt32)) (nar .byte (((nar .char (own_ch p3)) >>> ((8 : Int32) &&& 31)).toInt8.toInt32)) (nar .byte (((nar .char (own_ch p4)) >>> ((0 : Int32) &&& 31)).toInt8.toInt32)) (nar .byte (((nar .char (own_ch p4)) >>> ((8 : Int32) &&& 31)).toInt8.toInt32)) k5_2 si2 sr1 h18 n0 z6 Ex20 Fl21 Va22 S8_COMPACT_STRINGS Od6 nc6 Fl23 R_sr1 S7_SIOOBE_FORMATTER S9__assertionsDisabled S10_HI_BYTE_SHIFT S11_LO_BYTE_SHIFT) e19 (Ls := #[vi p1, vi p2, vi p3, vi p4, vi p5, vi 4, vi (own_ch p1), vi (own_ch p2), vi (own_ch p3), vi (own_ch p4), vr b5_0, vr b6, vi (own_ex3 (nar .char (own_ch p1)) (nar .char (own_ch p2)) (nar .char (own_ch p3)) (nar .char (own_ch p4)))]) hml.symm (argsL := [(.ref b5_0)]) (rest := []) (lenOf pd_7 rfl) (B at_146) (W := 0)
    obtain ⟨rfl, Nq32, e32⟩ := hQ32
    have N32 := Fr.app N19 Nq32
    have cd33 : (own_un3 (nar .byte (((nar .char (own_ch p1)) >>> ((0 : Int32) &&& 31)).toInt8.toInt32)) (nar .byte (((nar .char (own_ch p1)) >>> ((8 : Int32) &&& 31)).toInt8.toInt32)) (nar .byte (((nar .char (own_ch p2)) >>> ((0 : Int32) &&& 31)).toInt8.toInt32)) (nar .byte (((nar .char (own_ch p2)) >>> ((8 : Int32) &&& 31)).toInt8.toInt32)) (nar .byte (((nar .char (own_ch p3)) >>> ((0 : Int32) &&& 31)).toInt8.toInt32)) (nar .byte (((nar .char (own_ch p3)) >>> ((8 : Int32) &&& 31)).toInt8.toInt32)) (nar .byte (((nar .char (own_ch p4)) >>> ((0 : Int32) &&& 31)).toInt8.toInt32)) (nar .byte (((nar .char (own_ch p4)) >>> ((8 : Int32) &&& 31)).toInt8.toInt32))) = (own_ex3 (nar .char (own_ch p1)) (nar .char (own_ch p2)) (nar .char (own_ch p3)) (nar .char (own_ch p4))) := (own_finU_4 (nar .char (own_ch p1)) (nar .char (own_ch p2)) (nar .char (own_ch p3)) (nar .char (own_ch p4)) cd24 cd25 cd26 cd27 cd28 cd29 cd30 cd31)
    refine ⟨T32, _, _, _, (some (.int 1)), X32, nofun, by decide, by decide, ?_, fun fs hr => ?_⟩
    · show Q0 n0 _ T32.heap _
      rw [e32]
      exact ⟨rfl, N32⟩
    · refine sJ X0 hx (B at_0) rfl ?_
      refine X0.ldcInt hx hown (mvT hZ (w_0 hw)) (g := (mkF m 2 #[vi p1, vi p2, vi p3, vi p4, vi p5, un, un, un, un, un, un, un, un] [(.int p5)])) rfl (B at_2) _ ?_
      refine XS.iand X0.here hx rfl (B at_4) rfl ?_
      refine sC X0 hx (B at_5) ?_
      refine XS.irem X0.here hx rfl (B at_6) rfl (by decide : ¬ ((5 : Int32) = (0 : Int32))) ?_
      show Steps p.tables e below (s₁.setTop (mkF m 7 #[vi p1, vi p2, vi p3, vi p4, vi p5, un, un, un, un, un, un, un, un] [(.int ((p5 &&& (2147483647 : Int32)) - ((p5 &&& (2147483647 : Int32)) / (5 : Int32)) * (5 : Int32)))])) _
      rw [hk]
      refine XS.istore X0.here hx rfl (B at_7) rfl (l' := #[vi p1, vi p2, vi p3, vi p4, vi p5, vi 4, un, un, un, un, un, un, un]) rfl ?_
      refine sI X0 hx (B at_9) rfl ?_
      refine st1 _ ?_
      refine XS.istore X1.here hx rfl (B at_13) rfl (l' := #[vi p1, vi p2, vi p3, vi p4, vi p5, vi 4, vi (own_ch p1), un, un, un, un, un, un]) rfl ?_
      refine sI X1 hx (B at_15) rfl ?_
      refine st2 _ ?_
      refine XS.istore X2.here hx rfl (B at_19) rfl (l' := #[vi p1, vi p2, vi p3, vi p4, vi p5, vi 4, vi (own_ch p1), vi (own_ch p2), un, un, un, un, un]) rfl ?_
      refine sI X2 hx (B at_21) rfl ?_
      refine st3 _ ?_
      refine XS.istore X3.here hx rfl (B at_25) rfl (l' := #[vi p1, vi p2, vi p3, vi p4, vi p5, vi 4, vi (own_ch p1), vi (own_ch p2), vi (own_ch p3), un, un, un, un]) rfl ?_
      refine sI X3 hx (B at_27) rfl ?_
      refine st4 _ ?_
      refine XS.istore X4.here hx rfl (B at_31) rfl (l' := #[vi p1, vi p2, vi p3, vi p4, vi p5, vi 4, vi (own_ch p1), vi (own_ch p2), vi (own_ch p3), vi (own_ch p4), un, un, un]) rfl ?_
      refine sJ X4 hx (B at_33) rfl ?_
      refine sJ X4 hx (B at_35) rfl ?_
      refine sJ X4 hx (B at_37) rfl ?_
      refine sJ X4 hx (B at_39) rfl ?_
      refine sJ X4 hx (B at_41) rfl ?_
      refine st5 _ ?_
      refine XS.astore X5.here hx rfl (B at_46) rfl rfl (l' := #[vi p1, vi p2, vi p3, vi p4, vi p5, vi 4, vi (own_ch p1), vi (own_ch p2), vi (own_ch p3), vi (own_ch p4), vr b5_0, un, un]) rfl ?_
      refine sC X5 hx (B at_48) ?_
      refine st6 _ ?_
      refine XS.dup X6.here hx rfl (B at_51) rfl rfl ?_
      refine sC X6 hx (B at_52) ?_
      refine sJ X6 hx (B at_53) rfl ?_
      refine st9 _ ?_
      refine XS.dup X9.here hx rfl (B at_56) rfl rfl ?_
      refine sC X9 hx (B at_57) ?_
      refine sJ X9 hx (B at_58) rfl ?_
      refine st12 _ ?_
      refine XS.dup X12.here hx rfl (B at_61) rfl rfl ?_
      refine sC X12 hx (B at_62) ?_
      refine sJ X12 hx (B at_63) rfl ?_
      refine st15 _ ?_
      refine XS.dup X15.here hx rfl (B at_66) rfl rfl ?_
      refine sC X15 hx (B at_67) ?_
      refine sJ X15 hx (B at_68) rfl ?_
      refine st18 _ ?_
      refine XS.astore X18.here hx rfl (B at_71) rfl rfl (l' := #[vi p1, vi p2, vi p3, vi p4, vi p5, vi 4, vi (own_ch p1), vi (own_ch p2), vi (own_ch p3), vi (own_ch p4), vr b5_0, vr b6, un]) rfl ?_
      refine st19 _ ?_
      refine sB X19 hx (B at_144) rfl rfl ?_
      refine st32 _ ?_
      refine sJ X32 hx (B at_149) rfl ?_
      refine XS.icmpNo X32.here hx rfl (B at_151) rfl (teq cd33).2 ?_
      refine sC X32 hx (B at_154) ?_
      refine XS.goto X32.here hx rfl (pc0 := 155) (pc' := 159) rfl (B at_155) (by decide) (by decide) ?_
      exact retN X32 hx (t := .boolean) hret (by simp) (B at_159) hr
  · obtain ⟨_, T5, L5, X5, hQ5, st5⟩ := own_callS X4 hx hZ hown (y := y_4) (w_9 hw) (w_10 hw) (w_3 hw) (w_11 hw) (rm130 l Z hw (own_ch p1) (own_ch p2) (own_ch p3) (own_ch p4) si2 h0 n0 Z0 S8_COMPACT_STRINGS Od0 nc6 S9__assertionsDisabled S10_HI_BYTE_SHIFT S11_LO_BYTE_SHIFT cc1) e4 (Ls := #[vi p1, vi p2, vi p3, vi p4, vi p5, vi 4, vi (own_ch p1), vi (own_ch p2), vi (own_ch p3), vi (own_ch p4), un, un, un]) hml.symm (argsL := [(.int 4), (.int (own_ch p1)), (.int (own_ch p2)), (.int (own_ch p3)), (.int (own_ch p4))]) (rest := []) (lenOf pd_3 rfl) (B at_43) (W := 0)
    obtain ⟨b5_0, b5_1, k5_2, rfl, Nq5, K5, o5_0, o5_1, o5_2, o5_3, o5_4, o5_5, o5_6, o5_7⟩ := hQ5
    have N5 := Fr.app N4 Nq5
    have s0 := K5.1
    obtain ⟨T6, h6, k6, X6, e6, E6, A6, B6, st6⟩ := newPE (aty := .char) X5 hx hZ (w_15 hw) rfl (g := (mkF m 49 #[vi p1, vi p2, vi p3, vi p4, vi p5, vi 4, vi (own_ch p1), vi (own_ch p2), vi (own_ch p3), vi (own_ch p4), vr b5_0, un, un] [(.int 4)])) rfl (B at_49) rfl (by decide) (cap := 4) (by decide) (by decide) (by decide) (by decide) (ad := "[C") (by decide)
    obtain ⟨b6, g6⟩ : ∃ z, z = T5.heap.size := ⟨_, rfl⟩
    rw [← g6] at A6 B6 st6
    have s1 := E6.1
    have Vn6 : Arv Z h6 b6 k6 .char 4 [(.int 0), (.int 0), (.int 0), (.int 0)] (.int 0) := (Arv.new A6 (by decide)).pad (pad_rep [] (.int 0) 4)
    obtain ⟨cl7, Ar7, q7, S7, M7, Hs7, G7⟩ := id Vn6
    have hin8 := inb_of (j := 0) S7 ⟨by decide, by decide⟩
    obtain ⟨T9, h9, X9, e9, W9, st9⟩ := stC X6 hx hZ e6 Ar7 (j := 0) hin8 (g := (mkF m 55 #[vi p1, vi p2, vi p3, vi p4, vi p5, vi 4, vi (own_ch p1), vi (own_ch p2), vi (own_ch p3), vi (own_ch p4), vr b5_0, un, un] [(.int (own_ch p1)), (.int 0), (.ref b6), (.ref b6)])) rfl rfl (B at_55)
    have s2 := (Keep.of_wr W9).1
    have z1 := Nat.le_trans Z0 s0
    have g_b6 : n0 ≤ b6 := Nat.le_trans z1 (Nat.le_of_eq g6.symm)
    have N9 := Fr.snoc X9 N5 g_b6
    have Vs9 : Arv Z h9 b6 k6 .char 4 [(.int (nar .char (own_ch p1))), (.int 0), (.int 0), (.int 0)] (.int 0) := Arv.set Ar7 q7 S7 M7 Hs7 G7 (fits_nar_char _) W9 0 rfl (nl rfl)
    obtain ⟨cl10, Ar10, q10, S10, M10, Hs10, G10⟩ := id Vs9
    have hin11 := inb_of (j := 1) S10 ⟨by decide, by decide⟩
    obtain ⟨T12, h12, X12, e12, W12, st12⟩ := stC X9 hx hZ e9 Ar10 (j := 1) hin11 (g := (mkF m 60 #[vi p1, vi p2, vi p3, vi p4, vi p5, vi 4, vi (own_ch p1), vi (own_ch p2), vi (own_ch p3), vi (own_ch p4), vr b5_0, un, un] [(.int (own_ch p2)), (.int 1), (.ref b6), (.ref b6)])) rfl rfl (B at_60)
    have s3 := (Keep.of_wr W12).1
    have N12 := Fr.snoc X12 N9 g_b6
    have Vs12 : Arv Z h12 b6 k6 .char 4 [(.int (nar .char (own_ch p1))), (.int (nar .char (own_ch p2))), (.int 0), (.int 0)] (.int 0) := Arv.set Ar10 q10 S10 M10 Hs10 G10 (fits_nar_char _) W12 1 rfl (nl rfl)
    obtain ⟨cl13, Ar13, q13, S13, M13, Hs13, G13⟩ := id Vs12
    have hin14 := inb_of (j := 2) S13 ⟨by decide, by decide⟩
    obtain ⟨T15, h15, X15, e15, W15, st15⟩ := stC X12 hx hZ e12 Ar13 (j := 2) hin14 (g := (mkF m 65 #[vi p1, vi p2, vi p3, vi p4, vi p5, vi 4, vi (own_ch p1), vi (own_ch p2), vi (own_ch p3), vi (own_ch p4), vr b5_0, un, un] [(.int (own_ch p3)), (.int 2), (.ref b6), (.ref b6)])) rfl rfl (B at_65)
    have s4 := (Keep.of_wr W15).1
    have N15 := Fr.snoc X15 N12 g_b6
    have Vs15 : Arv Z h15 b6 k6 .char 4 [(.int (nar .char (own_ch p1))), (.int (nar .char (own_ch p2))), (.int (nar .char (own_ch p3))), (.int 0)] (.int 0) := Arv.set Ar13 q13 S13 M13 Hs13 G13 (fits_nar_char _) W15 2 rfl (nl rfl)
    obtain ⟨cl16, Ar16, q16, S16, M16, Hs16, G16⟩ := id Vs15
    have hin17 := inb_of (j := 3) S16 ⟨by decide, by decide⟩
    obtain ⟨T18, h18, X18, e18, W18, st18⟩ := stC X15 hx hZ e15 Ar16 (j := 3) hin17 (g := (mkF m 70 #[vi p1, vi p2, vi p3, vi p4, vi p5, vi 4, vi (own_ch p1), vi (own_ch p2), vi (own_ch p3), vi (own_ch p4), vr b5_0, un, un] [(.int (own_ch p4)), (.int 3), (.ref b6), (.ref b6)])) rfl rfl (B at_70)
    have s5 := (Keep.of_wr W18).1
    have N18 := Fr.snoc X18 N15 g_b6
    have Vs18 : Arv Z h18 b6 k6 .char 4 [(.int (nar .char (own_ch p1))), (.int (nar .char (own_ch p2))), (.int (nar .char (own_ch p3))), (.int (nar .char (own_ch p4)))] (.int 0) := Arv.set Ar16 q16 S16 M16 Hs16 G16 (fits_nar_char _) W18 3 rfl (nl rfl)
    have z6 := Nat.le_trans Z0 (Nat.le_trans (Nat.le_trans (Nat.le_trans (Nat.le_trans (Nat.le_trans s0 s1) s2) s3) s4) s5)
    obtain ⟨T19, L19, X19, e19, N19, st19⟩ := tn125 l Z hw p1 p2 p3 p4 p5 (own_ch p1) (own_ch p2) (own_ch p3) (own_ch p4) b5_0 b6 (nar .char (own_ch p1)) (nar .char (own_ch p2)) (nar .char (own_ch p3)) (nar .char (own_ch p4)) k6 h18 n0 z6 Vs18 hx hby hml hown hZ X18 e18 N18 (by decide) (by decide)
    have Ex20 := (((((o5_1.ext E6).wr W9).wr W12).wr W15).wr W18)
    have ne_b5_0_b6 := Nat.ne_of_lt (Nat.lt_of_lt_of_le o5_3.lt (Nat.le_of_eq g6.symm))
    have Fl21 := (((((o5_3.ext E6).other W9 (Or.inl ne_b5_0_b6)).other W12 (Or.inl ne_b5_0_b6)).other W15 (Or.inl ne_b5_0_b6)).other W18 (Or.inl ne_b5_0_b6))
    have ne_b5_1_b6 := Nat.ne_of_lt (Nat.lt_of_lt_of_le o5_6.lt (Nat.le_of_eq g6.symm))
    have Va22 := (((((o5_6.ext E6).other W9 ne_b5_1_b6).other W12 ne_b5_1_b6).other W15 ne_b5_1_b6).other W18 ne_b5_1_b6)
    have Od1 := Od0.keep K5 all0
    have Od2 := Od1.ext E6
    have Od3 := Od2.wr W9 g_b6
    have Od4 := Od3.wr W12 g_b6
    have Od5 := Od4.wr W15 g_b6
    have Od6 := Od5.wr W18 g_b6
    have Fl23 := (((((o5_2.ext E6).other W9 (Or.inl ne_b5_0_b6)).other W12 (Or.inl ne_b5_0_b6)).other W15 (Or.inl ne_b5_0_b6)).other W18 (Or.inl ne_b5_0_b6))
    obtain ⟨_, T24, L24, X24, hQ24, st24⟩ := own_callS X19 hx hZ hown (y := y_8) (w_37 hw) (w_38 hw) (w_39 hw) (w_40 hw) (rm131 l Z hw b5_0 b5_1 (nar .byte ((nar .char (own_ch p1)).toInt8.toInt32)) (nar .byte ((nar .char (own_ch p2)).toInt8.toInt32)) (nar .byte ((nar .char (own_ch p3)).toInt8.toInt32)) (nar .byte ((nar .char (own_ch p4)).toInt8.toInt32)) k5_2 si2 sr1 h18 n0 z6 Ex20 Fl21 Va22 S8_COMPACT_STRINGS Od6 nc6 Fl23 R_sr1 S7_SIOOBE_FORMATTER) e19 (Ls := #[vi p1, vi p2, vi p3, vi p4, vi p5, vi 4, vi (own_ch p1), vi (own_ch p2), vi (own_ch p3), vi (own_ch p4), vr b5_0, vr b6, vi (own_ex3 (nar .char (own_ch p1)) (nar .char (own_ch p2)) (nar .char (own_ch p3)) (nar .char (own_ch p4)))]) hml.symm (argsL := [(.ref b5_0)]) (rest := []) (lenOf pd_7 rfl) (B at_146) (W := 0)
    obtain ⟨rfl, Nq24, e24⟩ := hQ24
    have N24 := Fr.app N19 Nq24
    have cd25 : ¬ ((nar .char (own_ch p1)) < 0) := (by rw [Int32.lt_iff_toInt_lt]; have := rng32 (nar .char (own_ch p1)); have := rng32 (own_ch p1); have := own_ch_b p1; have := own_c_nar_char (own_ch p1); have : ((0 : Int32)).toInt = 0 := (by decide); omega)
    have cd26 : ¬ (65535 < (nar .char (own_ch p1))) := (by rw [Int32.lt_iff_toInt_lt]; have : ((65535 : Int32)).toInt = 65535 := (by decide); have := rng32 (nar .char (own_ch p1)); have := rng32 (own_ch p1); have := own_ch_b p1; have := own_c_nar_char (own_ch p1); omega)
    have cd27 : ¬ ((nar .char (own_ch p2)) < 0) := (by rw [Int32.lt_iff_toInt_lt]; have := rng32 (nar .char (own_ch p2)); have := rng32 (own_ch p2); have := own_ch_b p2; have := own_c_nar_char (own_ch p2); have : ((0 : Int32)).toInt = 0 := (by decide); omega)
    have cd28 : ¬ (65535 < (nar .char (own_ch p2))) := (by rw [Int32.lt_iff_toInt_lt]; have : ((65535 : Int32)).toInt = 65535 := (by decide); have := rng32 (nar .char (own_ch p2)); have := rng32 (own_ch p2); have := own_ch_b p2; have := own_c_nar_char (own_ch p2); omega)
    have cd29 : ¬ ((nar .char (own_ch p3)) < 0) := (by rw [Int32.lt_iff_toInt_lt]; have := rng32 (nar .char (own_ch p3)); have := rng32 (own_ch p3); have := own_ch_b p3; have := own_c_nar_char (own_ch p3); have : ((0 : Int32)).toInt = 0 := (by decide); omega)
    have cd30 : ¬ (65535 < (nar .char (own_ch p3))) := (by rw [Int32.lt_iff_toInt_lt]; have : ((65535 : Int32)).toInt = 65535 := (by decide); have := rng32 (nar .char (own_ch p3)); have := rng32 (own_ch p3); have := own_ch_b p3; have := own_c_nar_char (own_ch p3); omega)
    have cd31 : ¬ ((nar .char (own_ch p4)) < 0) := (by rw [Int32.lt_iff_toInt_lt]; have := rng32 (nar .char (own_ch p4)); have := rng32 (own_ch p4); have := own_ch_b p4; have := own_c_nar_char (own_ch p4); have : ((0 : Int32)).toInt = 0 := (by decide); omega)
    have cd32 : ¬ (65535 < (nar .char (own_ch p4))) := (by rw [Int32.lt_iff_toInt_lt]; have : ((65535 : Int32)).toInt = 65535 := (by decide); have := rng32 (nar .char (own_ch p4)); have := rng32 (own_ch p4); have := own_ch_b p4; have := own_c_nar_char (own_ch p4); omega)
    have cd33 : (-1) = (own_ex3 (nar .char (own_ch p1)) (nar .char (own_ch p2)) (nar .char (own_ch p3)) (nar .char (own_ch p4))) := (own_finL_4 (nar .char (own_ch p1)) (nar .char (own_ch p2)) (nar .char (own_ch p3)) (nar .char (own_ch p4)) cc1)
    refine ⟨T24, _, _, _, (some (.int 1)), X24, nofun, by decide, by decide, ?_, fun fs hr => ?_⟩
    · show Q0 n0 _ T24.heap _
      rw [e24]
      exact ⟨rfl, N24⟩
    · refine sJ X0 hx (B at_0) rfl ?_
      refine X0.ldcInt hx hown (mvT hZ (w_0 hw)) (g := (mkF m 2 #[vi p1, vi p2, vi p3, vi p4, vi p5, un, un, un, un, un, un, un, un] [(.int p5)])) rfl (B at_2) _ ?_
      refine XS.iand X0.here hx rfl (B at_4) rfl ?_
      refine sC X0 hx (B at_5) ?_
      refine XS.irem X0.here hx rfl (B at_6) rfl (by decide : ¬ ((5 : Int32) = (0 : Int32))) ?_
      show Steps p.tables e below (s₁.setTop (mkF m 7 #[vi p1, vi p2, vi p3, vi p4, vi p5, un, un, un, un, un, un, un, un] [(.int ((p5 &&& (2147483647 : Int32)) - ((p5 &&& (2147483647 : Int32)) / (5 : Int32)) * (5 : Int32)))])) _
      rw [hk]
      refine XS.istore X0.here hx rfl (B at_7) rfl (l' := #[vi p1, vi p2, vi p3, vi p4, vi p5, vi 4, un, un, un, un, un, un, un]) rfl ?_
      refine sI X0 hx (B at_9) rfl ?_
      refine st1 _ ?_
      refine XS.istore X1.here hx rfl (B at_13) rfl (l' := #[vi p1, vi p2, vi p3, vi p4, vi p5, vi 4, vi (own_ch p1), un, un, un, un, un, un]) rfl ?_
      refine sI X1 hx (B at_15) rfl ?_
      refine st2 _ ?_
      refine XS.istore X2.here hx rfl (B at_19) rfl (l' := #[vi p1, vi p2, vi p3, vi p4, vi p5, vi 4, vi (own_ch p1), vi (own_ch p2), un, un, un, un, un]) rfl ?_
      refine sI X2 hx (B at_21) rfl ?_
      refine st3 _ ?_
      refine XS.istore X3.here hx rfl (B at_25) rfl (l' := #[vi p1, vi p2, vi p3, vi p4, vi p5, vi 4, vi (own_ch p1), vi (own_ch p2), vi (own_ch p3), un, un, un, un]) rfl ?_
      refine sI X3 hx (B at_27) rfl ?_
      refine st4 _ ?_
      refine XS.istore X4.here hx rfl (B at_31) rfl (l' := #[vi p1, vi p2, vi p3, vi p4, vi p5, vi 4, vi (own_ch p1), vi (own_ch p2), vi (own_ch p3), vi (own_ch p4), un, un, un]) rfl ?_
      refine sJ X4 hx (B at_33) rfl ?_
      refine sJ X4 hx (B at_35) rfl ?_
      refine sJ X4 hx (B at_37) rfl ?_
      refine sJ X4 hx (B at_39) rfl ?_
      refine sJ X4 hx (B at_41) rfl ?_
      refine st5 _ ?_
      refine XS.astore X5.here hx rfl (B at_46) rfl rfl (l' := #[vi p1, vi p2, vi p3, vi p4, vi p5, vi 4, vi (own_ch p1), vi (own_ch p2), vi (own_ch p3), vi (own_ch p4), vr b5_0, un, un]) rfl ?_
      refine sC X5 hx (B at_48) ?_
      refine st6 _ ?_
      refine XS.dup X6.here hx rfl (B at_51) rfl rfl ?_
      refine sC X6 hx (B at_52) ?_
      refine sJ X6 hx (B at_53) rfl ?_
      refine st9 _ ?_
      refine XS.dup X9.here hx rfl (B at_56) rfl rfl ?_
      refine sC X9 hx (B at_57) ?_
      refine sJ X9 hx (B at_58) rfl ?_
      refine st12 _ ?_
      refine XS.dup X12.here hx rfl (B at_61) rfl rfl ?_
      refine sC X12 hx (B at_62) ?_
      refine sJ X12 hx (B at_63) rfl ?_
      refine st15 _ ?_
      refine XS.dup X15.here hx rfl (B at_66) rfl rfl ?_
      refine sC X15 hx (B at_67) ?_
      refine sJ X15 hx (B at_68) rfl ?_
      refine st18 _ ?_
      refine XS.astore X18.here hx rfl (B at_71) rfl rfl (l' := #[vi p1, vi p2, vi p3, vi p4, vi p5, vi 4, vi (own_ch p1), vi (own_ch p2), vi (own_ch p3), vi (own_ch p4), vr b5_0, vr b6, un]) rfl ?_
      refine st19 _ ?_
      refine sB X19 hx (B at_144) rfl rfl ?_
      refine st24 _ ?_
      refine sJ X24 hx (B at_149) rfl ?_
      refine XS.icmpNo X24.here hx rfl (B at_151) rfl (teq cd33).2 ?_
      refine sC X24 hx (B at_154) ?_
      refine XS.goto X24.here hx rfl (pc0 := 155) (pc' := 159) rfl (B at_155) (by decide) (by decide) ?_
      exact retN X24 hx (t := .boolean) hret (by simp) (B at_159) hr
theorem own_k5 (p5 : Int32) : ((p5 &&& (2147483647 : Int32)) - ((p5 &&& (2147483647 : Int32)) / (5 : Int32)) * (5 : Int32)) = (0 : Int32) ∨ ((p5 &&& (2147483647 : Int32)) - ((p5 &&& (2147483647 : Int32)) / (5 : Int32)) * (5 : Int32)) = (1 : Int32) ∨ ((p5 &&& (2147483647 : Int32)) - ((p5 &&& (2147483647 : Int32)) / (5 : Int32)) * (5 : Int32)) = (2 : Int32) ∨ ((p5 &&& (2147483647 : Int32)) - ((p5 &&& (2147483647 : Int32)) / (5 : Int32)) * (5 : Int32)) = (3 : Int32) ∨ ((p5 &&& (2147483647 : Int32)) - ((p5 &&& (2147483647 : Int32)) / (5 : Int32)) * (5 : Int32)) = (4 : Int32) := by
  have h1 := own_maskL_ p5
  have h2 := own_irem (p5 &&& (2147483647 : Int32)) 5 5 (by decide)
  have h3 := h2.1 h1
  have h4 : (((p5 &&& (2147483647 : Int32)) - ((p5 &&& (2147483647 : Int32)) / (5 : Int32)) * (5 : Int32))).toInt = 0 ∨ (((p5 &&& (2147483647 : Int32)) - ((p5 &&& (2147483647 : Int32)) / (5 : Int32)) * (5 : Int32))).toInt = 1 ∨ (((p5 &&& (2147483647 : Int32)) - ((p5 &&& (2147483647 : Int32)) / (5 : Int32)) * (5 : Int32))).toInt = 2 ∨ (((p5 &&& (2147483647 : Int32)) - ((p5 &&& (2147483647 : Int32)) / (5 : Int32)) * (5 : Int32))).toInt = 3 ∨ (((p5 &&& (2147483647 : Int32)) - ((p5 &&& (2147483647 : Int32)) / (5 : Int32)) * (5 : Int32))).toInt = 4 := by omega
  rcases h4 with h | h | h | h | h
  · exact Or.inl (Int32.toInt_inj.mp h)
  · exact Or.inr (Or.inl (Int32.toInt_inj.mp h))
  · exact Or.inr (Or.inr (Or.inl (Int32.toInt_inj.mp h)))
  · exact Or.inr (Or.inr (Or.inr (Or.inl (Int32.toInt_inj.mp h))))
  · exact Or.inr (Or.inr (Or.inr (Or.inr (Int32.toInt_inj.mp h))))
theorem rm0 (l : Launch) (Z : State) {a0 : Array Value} (hw : OW a0 Z) (ws : List Jvm.Cond) (p1 p2 p3 p4 p5 : Int32) (sr1 : Value) (si2 : Int32) (h0 : Heap) (n0 : Nat) (Z0 : n0 ≤ h0.size) (Od0 : Old Z n0 h0) (R_sr1 : sr1.isRef = true) (nc6 : ¬ (si2 = 0)) (S7_SIOOBE_FORMATTER : Sta Z Z.heap "jdk/internal/util/Preconditions" "SIOOBE_FORMATTER" "Ljava/util/function/BiFunction;" sr1) (S8_COMPACT_STRINGS : Sta Z Z.heap "java/lang/String" "COMPACT_STRINGS" "Z" (.int si2)) (S9__assertionsDisabled : Sta Z Z.heap "java/lang/StringUTF16" "$assertionsDisabled" "Z" (.int 1)) (S10_HI_BYTE_SHIFT : Sta Z Z.heap "java/lang/StringUTF16" "HI_BYTE_SHIFT" "I" (.int 0)) (S11_LO_BYTE_SHIFT : Sta Z Z.heap "java/lang/StringUTF16" "LO_BYTE_SHIFT" "I" (.int 8)) (hcw : Jvm.Lit.compactW.before a0 Z = true) (hch_7 : Jvm.Lit.constHeld Z "java/lang/String" 7) :
    OwnMetW l Z x code maxLocals ret ws room_1 #[(.int p1), (.int p2), (.int p3), (.int p4), (.int p5)] h0 (Q0 n0) := by
  rcases own_k5 p5 with hk | hk | hk | hk | hk
  · exact rm0_0 l Z hw ws p1 p2 p3 p4 p5 sr1 si2 h0 n0 Z0 Od0 R_sr1 nc6 S7_SIOOBE_FORMATTER S8_COMPACT_STRINGS S9__assertionsDisabled S10_HI_BYTE_SHIFT S11_LO_BYTE_SHIFT hk hcw hch_7
  · exact own_wide (rm0_1 l Z hw ws p1 p2 p3 p4 p5 sr1 si2 h0 n0 Z0 Od0 R_sr1 nc6 S7_SIOOBE_FORMATTER S8_COMPACT_STRINGS S9__assertionsDisabled S10_HI_BYTE_SHIFT S11_LO_BYTE_SHIFT hk)
  · exact own_wide (rm0_2 l Z hw ws p1 p2 p3 p4 p5 sr1 si2 h0 n0 Z0 Od0 R_sr1 nc6 S7_SIOOBE_FORMATTER S8_COMPACT_STRINGS S9__assertionsDisabled S10_HI_BYTE_SHIFT S11_LO_BYTE_SHIFT hk)
  · exact own_wide (rm0_3 l Z hw ws p1 p2 p3 p4 p5 sr1 si2 h0 n0 Z0 Od0 R_sr1 nc6 S7_SIOOBE_FORMATTER S8_COMPACT_STRINGS S9__assertionsDisabled S10_HI_BYTE_SHIFT S11_LO_BYTE_SHIFT hk)
  · exact own_wide (rm0_4 l Z hw ws p1 p2 p3 p4 p5 sr1 si2 h0 n0 Z0 Od0 R_sr1 nc6 S7_SIOOBE_FORMATTER S8_COMPACT_STRINGS S9__assertionsDisabled S10_HI_BYTE_SHIFT S11_LO_BYTE_SHIFT hk)
theorem comes_1 {Post : Tables → Env → Array Value → State → Outcome → State → Prop} (hpost : ∀ tb e args s v u, (limb_1_1.after args s (.returned v) u = true ∧ limb_1_2.after args s (.returned v) u = true ∧ True) → ReturnedEndW s (.returned v) u (Jvm.fieldLocs frame_1_writes args s ++ Jvm.arrayLocs frame_1_arrays args s ++ Jvm.staticLocs frame_1_statics s) 24 1152 → Post tb e args s (.returned v) u) :
    ArmFor flags0 classFile x code maxLocals ret World_1 tables_1 room_1 Calls_1 rest_1 Pre_1 Post := by
  intro l hfl _ _ p e ha hc hk s m args below hf hA hF happ hP
  obtain ⟨hcalls, hrest, hpre⟩ := hP
  obtain ⟨-, -, -, hnamed, -, -, -, hat⟩ := (Spec.applies_iff hf).mp happ
  obtain ⟨hg, hn⟩ := and_e (Cond.before_iff.mp (show (Jvm.Cond.and given_1 narrow_1).before args s = true from hpre))
  obtain ⟨hg0, hr0⟩ := and_e hg
  obtain ⟨hg1, hr1⟩ := and_e hr0
  obtain ⟨hg2, hr2⟩ := and_e hr1
  obtain ⟨hg3, hr3⟩ := and_e hr2
  obtain ⟨hg4, hr4⟩ := and_e hr3
  obtain ⟨w0, w1, w2, w3, w4, rfl⟩ : ∃ w0 w1 w2 w3 w4 : Value, args = #[w0, w1, w2, w3, w4] := by
    have hs : args.size = 5 := by simpa [Cond.value, given_1] using hg0
    obtain ⟨L⟩ := args
    match L, hs with
    | [w0, w1, w2, w3, w4], _ => exact ⟨w0, w1, w2, w3, w4, rfl⟩
  have hw := fun d (hd : d ∈ tables_1) => atoms_spec (ws := Jvm.Cond.code x code maxLocals ret :: tables_1) hat d (List.mem_cons_of_mem _ hd)
  have hfit : Fit s := fun {y c} hc i hi => by
    obtain ⟨ha, rfl⟩ := Array.getElem?_eq_some_iff.mp hc
    have q := List.all_eq_true.mp ((Array.all_eq_true_iff_forall_mem.mp hF) _ (Array.getElem_mem ha)) i (List.mem_range.mpr hi)
    simpa [Array.getElem?_eq_getElem hi] using q
  obtain ⟨hsets, hown0⟩ := atoms_of _ (rest_1_c_eq ▸ (show rest_1_c.before _ s = true from hrest))
  have hro := Cond.before_iff.mp hown0
  obtain ⟨p1, ei0⟩ := is_v hg1
  obtain rfl : w0 = (.int p1) := Option.some.inj ei0
  obtain ⟨p2, ei1⟩ := is_v hg2
  obtain rfl : w1 = (.int p2) := Option.some.inj ei1
  obtain ⟨p3, ei2⟩ := is_v hg3
  obtain rfl : w2 = (.int p3) := Option.some.inj ei2
  obtain ⟨p4, ei3⟩ := is_v hg4
  obtain rfl : w3 = (.int p4) := Option.some.inj ei3
  obtain ⟨p5, ei4⟩ := is_v hr4
  obtain rfl : w4 = (.int p5) := Option.some.inj ei4
  obtain ⟨sr1, ev_sr1, R_sr1⟩ := isR_v (Cond.before_iff.mp (hsets _ (List.mem_of_getElem? (i := 8) rfl)))
  obtain ⟨si2, ev_si2⟩ := is_v (Cond.before_iff.mp (hsets _ (List.mem_of_getElem? (i := 1) rfl)))
  have ev3 := own_eqI (Cond.before_iff.mp (hsets _ (List.mem_of_getElem? (i := 12) rfl)))
  have ev4 := own_eqI (Cond.before_iff.mp (hsets _ (List.mem_of_getElem? (i := 15) rfl)))
  have ev5 := own_eqI (Cond.before_iff.mp (hsets _ (List.mem_of_getElem? (i := 18) rfl)))
  have nc6 : ¬ (si2 = 0) := gotF (Cond.eq_ints ev_si2 (Term.int_eval (0))) (not_v (Cond.before_iff.mp (hsets _ (List.mem_of_getElem? (i := 2) rfl))))
  have S7_SIOOBE_FORMATTER : Sta s s.heap "jdk/internal/util/Preconditions" "SIOOBE_FORMATTER" "Ljava/util/function/BiFunction;" sr1 := Sta.start ev_sr1 (Or.inl (hsets _ (List.mem_of_getElem? (i := 7) rfl)))
  have S8_COMPACT_STRINGS : Sta s s.heap "java/lang/String" "COMPACT_STRINGS" "Z" (.int si2) := Sta.start ev_si2 (Or.inl (hsets _ (List.mem_of_getElem? (i := 0) rfl)))
  have S9__assertionsDisabled : Sta s s.heap "java/lang/StringUTF16" "$assertionsDisabled" "Z" (.int 1) := Sta.start ev3 (Or.inl (hsets _ (List.mem_of_getElem? (i := 11) rfl)))
  have S10_HI_BYTE_SHIFT : Sta s s.heap "java/lang/StringUTF16" "HI_BYTE_SHIFT" "I" (.int 0) := Sta.start ev4 (Or.inl (hsets _ (List.mem_of_getElem? (i := 14) rfl)))
  have S11_LO_BYTE_SHIFT : Sta s s.heap "java/lang/StringUTF16" "LO_BYTE_SHIFT" "I" (.int 8) := Sta.start ev5 (Or.inl (hsets _ (List.mem_of_getElem? (i := 17) rfl)))
  have hch_7 : Jvm.Lit.constHeld s "java/lang/String" 7 := (show Jvm.D.pconstsHeld consts_1 p.tables e _ s from hcalls.1) ("java/lang/String", 7) (List.mem_of_getElem? (i := 0) rfl)
  obtain ⟨n, o, h1, h2, h3, _, L, rfl, ⟨rfl, N⟩, hq⟩ := rm0 l s hw tables_1 p1 p2 p3 p4 p5 sr1 si2 s.heap s.heap.size (Nat.le_refl _) (Old.start s) R_sr1 nc6 S7_SIOOBE_FORMATTER S8_COMPACT_STRINGS S9__assertionsDisabled S10_HI_BYTE_SHIFT S11_LO_BYTE_SHIFT (hsets _ (List.mem_of_getElem? (i := 2) rfl)) hch_7 p e ha hc hk s m _ below hf ((Spec.applies_iff_loose hf).mp happ).1 ⟨rfl, State.Warmed39.refl s, rfl, IB.start⟩ trivial
  refine ⟨n, _, h1, h2, h3, hpost _ _ _ _ _ _ ⟨Cond.after_iff.mpr rfl, Cond.after_iff.mpr (eq_i res_at (Term.int_eval (1)) rfl), trivial⟩ ⟨hq.1, hq.2.1, hq.2.2.1, (hq.2.2.2.sift fun y hy => Or.inr (N y hy)).mono (by decide) (by decide)⟩⟩
theorem main_1_1 : Claimed_1_1 := comes_1 fun _ _ _ _ _ _ h hF => ⟨h.1, hF⟩
theorem main_1_2 : Claimed_1_2 := comes_1 fun _ _ _ _ _ _ h hF => ⟨h.2.1, hF⟩
end Jvm.Pilot.@@N@@
namespace Jvm.Pilot.@@N@@
open Jvm Jvm.ClassFile Sem Op Lib Jvm.Free Jvm.Stand Jvm.Pilot.@@N@@.Jvm.D
/-! MADE BY PROGRAM (witnessworld.py) out of the Statement's table words and the real class files: 21 classes; the members and pool entries that the words name. The judged class is class 1, her method 1. -/
namespace start1
open Jvm.ClassFile
def u (s : String) : CpInfo := .utf8 (stringToUtf16 s)
/-- a pool by its gaps: so many unusable entries, then the entry; so many at the end -/
def gap : Nat → List CpInfo → List CpInfo
  | 0, r => r
  | n + 1, r => .unusable :: gap n r
def poolList (es : List (Nat × CpInfo)) (last : Nat) : List CpInfo := es.foldr (fun e r => gap e.1 (e.2 :: r)) (gap last [])
def pool (es : List (Nat × CpInfo)) (last : Nat) : Array CpInfo := ⟨poolList es last⟩
def fileOf (pool : Array CpInfo) (this : Nat) (attrs : Array Attribute := #[]) (ms : Array MethodInfo := #[]) (fl : Nat := 33) (sup : Nat := 0) (ifs : Array Nat := #[]) (fds : Array FieldInfo := #[]) : ClassFile where
  minorVersion := 0
  majorVersion := 65
  constantPool := pool
  accessFlags := fl
  thisClass := this
  superClass := sup
  interfaces := ifs
  fields := fds
  methods := ms
  attributes := attrs
def plain (name : String) (sup : Option ClassId) : Class where
  name := name
  kind := .ordinary
  loader := none
  accessFlags := 33
  super := sup
  interfaces := #[]
  cf := none
  fields := #[]
  methods := #[]
  instanceTypes := #[]
  staticTypes := #[]
  resolved := #[]
  callSites := []
  init := .initialized
  statics := none
  mirror := none

def pool0 : Array CpInfo := pool [(5, u "<init>"), (0, u "()V"), (1, .class_ 10), (1, u "java/lang/Object")] 113

def k0c0 : Code := { maxStack := 0, maxLocals := 1, code := object_method_1_code, exceptionTable := #[], attributes := #[] }
def k0m0 : Method := { name := "<init>", desc := "()V", sig := { parameters := [], returnType := none }, accessFlags := 1, code := some k0c0 }
/-- java/lang/Object -/
def k0 : Class := { plain "java/lang/Object" none with
  accessFlags := 33
  interfaces := #[]
  cf := some (fileOf pool0 8 #[] #[⟨1, 5, 6, #[]⟩] 33 0 #[] #[])
  fields := #[]
  methods := #[k0m0]
  instanceTypes := #[]
  staticTypes := #[]
  resolved := Array.replicate 124 none
  statics := none }

def pool1 : Array CpInfo := pool [(2, .class_ 4), (1, u "java/lang/Object"), (0, u "<init>"), (0, u "()V"), (0, .integer 2147483647), (0, .methodref 9 10), (0, .class_ 11), (0, .nameAndType 12 13), (0, u "com/example/sidwire/sidwire/cbor/CborWriterUnpairedSurrogatePinLaw"), (0, u "ch"), (0, u "(I)C"), (0, .methodref 9 15), (0, .nameAndType 16 17), (0, u "make"), (0, u "(ICCCC)Ljava/lang/String;"), (0, .methodref 9 19), (0, .nameAndType 20 21), (0, u "lone"), (0, u "([CII)Z"), (0, .methodref 23 24), (0, .class_ 25), (0, .nameAndType 26 27), (0, u "com/example/sidwire/sidwire/cbor/CborWriter"), (0, u "unpairedSurrogate"), (0, u "(Ljava/lang/String;)I"), (0, .integer 65535), (0, .integer 55296), (0, .integer 56320), (0, .integer 55295), (0, .integer 57344), (0, .class_ 34), (0, u "java/lang/String"), (0, .methodref 33 36), (0, .nameAndType 5 37), (0, u "([C)V"), (0, .integer 56319), (0, .integer 57343), (0, .methodref 9 41), (0, .nameAndType 42 43), (0, u "high"), (0, u "(C)Z"), (0, .methodref 9 45), (0, .nameAndType 46 43), (0, u "low"), (2, u "law"), (0, u "(IIIII)Z")] 5

def k1m0 : Method := { name := "<init>", desc := "()V", sig := { parameters := [], returnType := none }, accessFlags := 2, code := none }
def k1c1 : Code := { maxStack := 5, maxLocals := 13, code := code, exceptionTable := #[], attributes := #[] }
def k1m1 : Method := { name := "law", desc := "(IIIII)Z", sig := { parameters := [.int, .int, .int, .int, .int], returnType := some .boolean }, accessFlags := 9, code := some k1c1 }
def k1c2 : Code := { maxStack := 3, maxLocals := 3, code := method_3_code, exceptionTable := #[], attributes := #[] }
def k1m2 : Method := { name := "ch", desc := "(I)C", sig := { parameters := [.int], returnType := some .char }, accessFlags := 10, code := some k1c2 }
def k1c3 : Code := { maxStack := 6, maxLocals := 5, code := method_4_code, exceptionTable := #[], attributes := #[] }
def k1m3 : Method := { name := "make", desc := "(ICCCC)Ljava/lang/String;", sig := { parameters := [.int, .char, .char, .char, .char], returnType := some (.object "java/lang/String") }, accessFlags := 10, code := some k1c3 }
def k1c4 : Code := { maxStack := 2, maxLocals := 1, code := method_5_code, exceptionTable := #[], attributes := #[] }
def k1m4 : Method := { name := "high", desc := "(C)Z", sig := { parameters := [.char], returnType := some .boolean }, accessFlags := 10, code := some k1c4 }
def k1c5 : Code := { maxStack := 2, maxLocals := 1, code := method_6_code, exceptionTable := #[], attributes := #[] }
def k1m5 : Method := { name := "low", desc := "(C)Z", sig := { parameters := [.char], returnType := some .boolean }, accessFlags := 10, code := some k1c5 }
def k1c6 : Code := { maxStack := 3, maxLocals := 4, code := method_7_code, exceptionTable := #[], attributes := #[] }
def k1m6 : Method := { name := "lone", desc := "([CII)Z", sig := { parameters := [(.array .char), .int, .int], returnType := some .boolean }, accessFlags := 10, code := some k1c6 }
/-- com/example/sidwire/sidwire/cbor/CborWriterUnpairedSurrogatePinLaw -/
def k1 : Class := { plain "com/example/sidwire/sidwire/cbor/CborWriterUnpairedSurrogatePinLaw" (some 0) with
  accessFlags := 49
  interfaces := #[]
  cf := some (fileOf pool1 9 #[] #[⟨2, 5, 6, #[]⟩, ⟨9, 49, 50, #[]⟩, ⟨10, 12, 13, #[]⟩, ⟨10, 16, 17, #[]⟩, ⟨10, 42, 43, #[]⟩, ⟨10, 46, 43, #[]⟩, ⟨10, 20, 21, #[]⟩] 49 2 #[] #[])
  fields := #[]
  methods := #[k1m0, k1m1, k1m2, k1m3, k1m4, k1m5, k1m6]
  instanceTypes := #[]
  staticTypes := #[]
  resolved := Array.replicate 56 none
  statics := none }

def pool2 : Array CpInfo := pool [(1, .class_ 2), (0, u "java/io/Serializable"), (0, .class_ 4), (0, u "java/lang/Object")] 2

/-- java/io/Serializable -/
def k2 : Class := { plain "java/io/Serializable" (some 0) with
  accessFlags := 1537
  interfaces := #[]
  cf := some (fileOf pool2 1 #[] #[] 1537 3 #[] #[])
  fields := #[]
  methods := #[]
  instanceTypes := #[]
  staticTypes := #[]
  resolved := Array.replicate 7 none
  statics := none }

def pool3 : Array CpInfo := pool [(1, .class_ 2), (0, u "java/lang/Comparable"), (0, .class_ 4), (0, u "java/lang/Object")] 7

/-- java/lang/Comparable -/
def k3 : Class := { plain "java/lang/Comparable" (some 0) with
  accessFlags := 1537
  interfaces := #[]
  cf := some (fileOf pool3 1 #[] #[] 1537 3 #[] #[])
  fields := #[]
  methods := #[]
  instanceTypes := #[]
  staticTypes := #[]
  resolved := Array.replicate 12 none
  statics := none }

def pool4 : Array CpInfo := pool [(2, .class_ 4), (1, u "java/lang/CharSequence"), (42, .class_ 48), (0, u "java/lang/CharSequence$1CodePointIterator"), (10, .class_ 60), (0, u "java/lang/CharSequence$1CharIterator"), (5, .class_ 67), (0, u "java/lang/Object")] 63

/-- java/lang/CharSequence -/
def k4 : Class := { plain "java/lang/CharSequence" (some 0) with
  accessFlags := 1537
  interfaces := #[]
  cf := some (fileOf pool4 2 #[.nestMembers #[47, 59]] #[] 1537 66 #[] #[])
  fields := #[]
  methods := #[]
  instanceTypes := #[]
  staticTypes := #[]
  resolved := Array.replicate 131 none
  statics := none }

def pool5 : Array CpInfo := pool [(1, .class_ 2), (0, u "java/lang/constant/Constable"), (0, .class_ 4), (0, u "java/lang/Object")] 6

/-- java/lang/constant/Constable -/
def k5 : Class := { plain "java/lang/constant/Constable" (some 0) with
  accessFlags := 1537
  interfaces := #[]
  cf := some (fileOf pool5 1 #[] #[] 1537 3 #[] #[])
  fields := #[]
  methods := #[]
  instanceTypes := #[]
  staticTypes := #[]
  resolved := Array.replicate 11 none
  statics := none }

def pool6 : Array CpInfo := pool [(1, .class_ 2), (0, u "java/lang/constant/ConstantDesc"), (0, .class_ 4), (0, u "java/lang/Object")] 32

/-- java/lang/constant/ConstantDesc -/
def k6 : Class := { plain "java/lang/constant/ConstantDesc" (some 0) with
  accessFlags := 1537
  interfaces := #[]
  cf := some (fileOf pool6 1 #[] #[] 1537 3 #[] #[])
  fields := #[]
  methods := #[]
  instanceTypes := #[]
  staticTypes := #[]
  resolved := Array.replicate 37 none
  statics := none }

def pool7 : Array CpInfo := pool [(1, .methodref 2 3), (0, .class_ 4), (0, .nameAndType 5 6), (0, u "java/lang/Object"), (0, u "<init>"), (0, u "()V"), (0, .string 8), (0, u ""), (0, .fieldref 10 11), (0, .class_ 12), (0, .nameAndType 13 14), (0, u "java/lang/String"), (0, u "value"), (0, u "[B"), (0, .fieldref 10 16), (0, .nameAndType 17 18), (0, u "coder"), (0, u "B"), (2, u "hash"), (0, u "I"), (2, u "hashIsZero"), (0, u "Z"), (0, .methodref 10 28), (0, .nameAndType 5 29), (0, u "([CIILjava/lang/Void;)V"), (8, .fieldref 10 39), (0, .nameAndType 40 26), (0, u "COMPACT_STRINGS"), (1, .class_ 44), (1, u "java/lang/StringUTF16"), (0, u "compress"), (1, .methodref 42 48), (0, .nameAndType 49 50), (0, u "coderFromArrayLen"), (0, u "([BI)B"), (46, u "([BII)I"), (44, u "()Z"), (34, .methodref 42 178), (0, .nameAndType 45 179), (0, u "([CII)[B"), (154, u "()I"), (0, .methodref 10 336), (0, .nameAndType 17 337), (0, u "()B"), (53, u "(II)V"), (100, .methodref 10 493), (0, .nameAndType 494 142), (0, u "isLatin1"), (4, .methodref 10 500), (0, .nameAndType 501 391), (0, u "checkIndex"), (0, .methodref 42 503), (0, .nameAndType 504 97), (0, u "codePointAt"), (2, u "length"), (67, .class_ 576), (0, u "java/lang/CharSequence"), (22, u "CASE_INSENSITIVE_ORDER"), (0, u "Ljava/util/Comparator;"), (164, u "(I)I"), (244, u "([C)V"), (42, .fieldref 1054 1055), (0, .class_ 1056), (0, .nameAndType 1057 1058), (0, u "jdk/internal/util/Preconditions"), (0, u "SIOOBE_FORMATTER"), (0, u "Ljava/util/function/BiFunction;"), (0, .methodref 1054 1060), (0, .nameAndType 501 1061), (0, u "(IILjava/util/function/BiFunction;)I"), (39, u "serialPersistentFields"), (0, u "[Ljava/io/ObjectStreamField;"), (0, .class_ 1104), (0, u "java/lang/String$CaseInsensitiveComparator"), (1, .class_ 1107), (0, u "java/io/Serializable"), (0, .class_ 1109), (0, u "java/lang/Comparable"), (0, .class_ 1111), (0, u "java/lang/constant/Constable"), (0, .class_ 1113), (0, u "java/lang/constant/ConstantDesc"), (2, u "serialVersionUID"), (0, u "J"), (3, u "REPL"), (0, u "C"), (2, u "LATIN1"), (1, u "UTF16")] 323

def k7m0 : Method := { name := "<init>", desc := "()V", sig := { parameters := [], returnType := none }, accessFlags := 1, code := none }
def k7c1 : Code := { maxStack := 5, maxLocals := 2, code := jdk_42_method_3_code, exceptionTable := #[], attributes := #[] }
def k7m1 : Method := { name := "<init>", desc := "([C)V", sig := { parameters := [(.array .char)], returnType := none }, accessFlags := 1, code := some k7c1 }
def k7c2 : Code := { maxStack := 2, maxLocals := 1, code := jdk_42_method_54_code, exceptionTable := #[], attributes := #[] }
def k7m2 : Method := { name := "length", desc := "()I", sig := { parameters := [], returnType := some .int }, accessFlags := 1, code := some k7c2 }
def k7c3 : Code := { maxStack := 3, maxLocals := 3, code := jdk_42_method_57_code, exceptionTable := #[], attributes := #[] }
def k7m3 : Method := { name := "codePointAt", desc := "(I)I", sig := { parameters := [.int], returnType := some .int }, accessFlags := 1, code := some k7c3 }
def k7c4 : Code := { maxStack := 4, maxLocals := 6, code := jdk_42_method_149_code, exceptionTable := #[], attributes := #[] }
def k7m4 : Method := { name := "<init>", desc := "([CIILjava/lang/Void;)V", sig := { parameters := [(.array .char), .int, .int, (.object "java/lang/Void")], returnType := none }, accessFlags := 2, code := some k7c4 }
def k7c5 : Code := { maxStack := 1, maxLocals := 1, code := jdk_42_method_152_code, exceptionTable := #[], attributes := #[] }
def k7m5 : Method := { name := "coder", desc := "()B", sig := { parameters := [], returnType := some .byte }, accessFlags := 0, code := some k7c5 }
def k7c6 : Code := { maxStack := 1, maxLocals := 1, code := jdk_42_method_154_code, exceptionTable := #[], attributes := #[] }
def k7m6 : Method := { name := "isLatin1", desc := "()Z", sig := { parameters := [], returnType := some .boolean }, accessFlags := 0, code := some k7c6 }
def k7c7 : Code := { maxStack := 3, maxLocals := 2, code := jdk_42_method_155_code, exceptionTable := #[], attributes := #[] }
def k7m7 : Method := { name := "checkIndex", desc := "(II)V", sig := { parameters := [.int, .int], returnType := none }, accessFlags := 8, code := some k7c7 }
/-- java/lang/String -/
def k7 : Class := { plain "java/lang/String" (some 0) with
  accessFlags := 49
  interfaces := #[2, 3, 4, 5, 6]
  cf := some (fileOf pool7 10 #[.nestMembers #[1103]] #[⟨1, 5, 6, #[]⟩, ⟨1, 5, 1010, #[]⟩, ⟨1, 507, 334, #[]⟩, ⟨1, 504, 765, #[]⟩, ⟨2, 5, 29, #[]⟩, ⟨0, 17, 337, #[]⟩, ⟨0, 494, 142, #[]⟩, ⟨8, 501, 391, #[]⟩] 49 2 #[1106, 1108, 575, 1110, 1112] #[⟨18, 13, 14, #[]⟩, ⟨18, 17, 18, #[]⟩, ⟨2, 21, 22, #[]⟩, ⟨2, 25, 26, #[]⟩, ⟨26, 1116, 1117, #[]⟩, ⟨24, 40, 26, #[]⟩, ⟨26, 1101, 1102, #[]⟩, ⟨26, 1121, 1122, #[]⟩, ⟨25, 599, 600, #[]⟩, ⟨24, 1125, 18, #[]⟩, ⟨24, 1127, 18, #[]⟩])
  fields := #[⟨"value", (.array .byte), 18, 0, 0⟩, ⟨"coder", .byte, 18, 1, 0⟩, ⟨"hash", .int, 2, 2, 0⟩, ⟨"hashIsZero", .boolean, 2, 3, 0⟩, ⟨"serialVersionUID", .long, 26, 0, 0⟩, ⟨"COMPACT_STRINGS", .boolean, 24, 1, 0⟩, ⟨"serialPersistentFields", (.array (.object "java/io/ObjectStreamField")), 26, 2, 0⟩, ⟨"REPL", .char, 26, 3, 0⟩, ⟨"CASE_INSENSITIVE_ORDER", (.object "java/util/Comparator"), 25, 4, 0⟩, ⟨"LATIN1", .byte, 24, 5, 0⟩, ⟨"UTF16", .byte, 24, 6, 0⟩]
  methods := #[k7m0, k7m1, k7m2, k7m3, k7m4, k7m5, k7m6, k7m7]
  instanceTypes := #[(.array .byte), .byte, .int, .boolean]
  staticTypes := #[.long, .boolean, (.array (.object "java/io/ObjectStreamField")), .char, (.object "java/util/Comparator"), .byte, .byte]
  resolved := Array.replicate 1451 none
  statics := some 0 }

def pool8 : Array CpInfo := pool [(2, .class_ 4), (1, u "java/lang/Object"), (0, u "<init>"), (0, u "()V"), (1, .class_ 10), (1, u "com/example/sidwire/sidwire/cbor/CborWriter"), (0, u "body"), (0, u "[B"), (2, u "headOffsets"), (0, u "[I"), (2, u "headTypes"), (2, u "headCounts"), (0, u "[J"), (2, u "open"), (16, u "()I"), (51, .methodref 96 97), (0, .class_ 98), (0, .nameAndType 99 43), (0, u "java/lang/String"), (0, u "length"), (10, u "size"), (0, u "I"), (6, u "unpairedSurrogate"), (0, u "(Ljava/lang/String;)I"), (31, .methodref 96 152), (0, .nameAndType 153 154), (0, u "codePointAt"), (0, u "(I)I"), (0, .class_ 156), (0, u "java/lang/Character"), (0, .integer 55296), (0, .integer 57343), (0, .methodref 155 160), (0, .nameAndType 161 154), (0, u "charCount"), (4, u "depth"), (13, u "heads")] 92

def k8m0 : Method := { name := "<init>", desc := "()V", sig := { parameters := [], returnType := none }, accessFlags := 1, code := none }
def k8c1 : Code := { maxStack := 2, maxLocals := 3, code := prog_10_method_10_code, exceptionTable := #[], attributes := #[] }
def k8m1 : Method := { name := "unpairedSurrogate", desc := "(Ljava/lang/String;)I", sig := { parameters := [(.object "java/lang/String")], returnType := some .int }, accessFlags := 9, code := some k8c1 }
/-- com/example/sidwire/sidwire/cbor/CborWriter -/
def k8 : Class := { plain "com/example/sidwire/sidwire/cbor/CborWriter" (some 0) with
  accessFlags := 49
  interfaces := #[]
  cf := some (fileOf pool8 8 #[] #[⟨1, 5, 6, #[]⟩, ⟨9, 118, 119, #[]⟩] 49 2 #[] #[⟨2, 11, 12, #[]⟩, ⟨2, 110, 111, #[]⟩, ⟨2, 15, 16, #[]⟩, ⟨2, 19, 16, #[]⟩, ⟨2, 22, 23, #[]⟩, ⟨2, 180, 111, #[]⟩, ⟨2, 26, 16, #[]⟩, ⟨2, 166, 111, #[]⟩])
  fields := #[⟨"body", (.array .byte), 2, 0, 0⟩, ⟨"size", .int, 2, 1, 0⟩, ⟨"headOffsets", (.array .int), 2, 2, 0⟩, ⟨"headTypes", (.array .int), 2, 3, 0⟩, ⟨"headCounts", (.array .long), 2, 4, 0⟩, ⟨"heads", .int, 2, 5, 0⟩, ⟨"open", (.array .int), 2, 6, 0⟩, ⟨"depth", .int, 2, 7, 0⟩]
  methods := #[k8m0, k8m1]
  instanceTypes := #[(.array .byte), .int, (.array .int), (.array .int), (.array .long), .int, (.array .int), .int]
  staticTypes := #[]
  resolved := Array.replicate 273 none
  statics := none }

def pool9 : Array CpInfo := pool [(6, .class_ 8), (1, u "java/lang/Object"), (0, u "<init>"), (0, u "()V"), (0, .methodref 12 13), (0, .class_ 14), (0, .nameAndType 15 16), (0, u "java/lang/StringUTF16"), (0, u "newBytesLength"), (0, u "(I)I"), (3, .integer 1073741823), (23, .fieldref 12 45), (0, .nameAndType 46 47), (0, u "$assertionsDisabled"), (0, u "Z"), (11, .fieldref 12 60), (0, .nameAndType 61 62), (0, u "HI_BYTE_SHIFT"), (0, u "I"), (0, .fieldref 12 64), (0, .nameAndType 65 62), (0, u "LO_BYTE_SHIFT"), (5, .methodref 12 72), (0, .nameAndType 73 74), (0, u "getChar"), (0, u "([BI)C"), (0, .methodref 76 77), (0, .class_ 78), (0, .nameAndType 79 80), (0, u "java/lang/Character"), (0, u "isHighSurrogate"), (0, u "(C)Z"), (0, .methodref 76 82), (0, .nameAndType 83 80), (0, u "isLowSurrogate"), (0, .methodref 76 85), (0, .nameAndType 86 87), (0, u "toCodePoint"), (0, u "(CC)I"), (0, .methodref 12 89), (0, .nameAndType 90 91), (0, u "codePointAt"), (0, u "([BIIZ)I"), (15, .methodref 12 108), (0, .nameAndType 109 110), (0, u "newBytesFor"), (0, u "(I)[B"), (0, .methodref 12 112), (0, .nameAndType 113 114), (0, u "putChar"), (0, u "([BII)V"), (0, .methodref 12 116), (0, .nameAndType 117 118), (0, u "compress"), (0, u "([CI[BII)I"), (0, .methodref 12 120), (0, .nameAndType 121 122), (0, u "toBytes"), (0, u "([CII)[B"), (127, u "([BII)I"), (10, u "coderFromArrayLen"), (0, u "([BI)B"), (106, .class_ 371), (1, u "java/lang/StringUTF16$LinesSpliterator"), (58, u "MAX_LENGTH"), (196, .class_ 628), (0, u "java/lang/StringUTF16$CodePointsSpliterator"), (0, .class_ 630), (0, u "java/lang/StringUTF16$CharsSpliterator")] 4

def k9m0 : Method := { name := "<init>", desc := "()V", sig := { parameters := [], returnType := none }, accessFlags := 0, code := none }
def k9c1 : Code := { maxStack := 1, maxLocals := 1, code := jdk_52_method_2_code, exceptionTable := #[], attributes := #[] }
def k9m1 : Method := { name := "newBytesFor", desc := "(I)[B", sig := { parameters := [.int], returnType := some (.array .byte) }, accessFlags := 9, code := some k9c1 }
def k9c2 : Code := { maxStack := 4, maxLocals := 1, code := jdk_52_method_3_code, exceptionTable := #[], attributes := #[] }
def k9m2 : Method := { name := "newBytesLength", desc := "(I)I", sig := { parameters := [.int], returnType := some .int }, accessFlags := 9, code := some k9c2 }
def k9c3 : Code := { maxStack := 4, maxLocals := 3, code := jdk_52_method_4_code, exceptionTable := #[], attributes := #[] }
def k9m3 : Method := { name := "putChar", desc := "([BII)V", sig := { parameters := [(.array .byte), .int, .int], returnType := none }, accessFlags := 8, code := some k9c3 }
def k9c4 : Code := { maxStack := 3, maxLocals := 2, code := jdk_52_method_5_code, exceptionTable := #[], attributes := #[] }
def k9m4 : Method := { name := "getChar", desc := "([BI)C", sig := { parameters := [(.array .byte), .int], returnType := some .char }, accessFlags := 8, code := some k9c4 }
def k9c5 : Code := { maxStack := 2, maxLocals := 6, code := jdk_52_method_7_code, exceptionTable := #[], attributes := #[] }
def k9m5 : Method := { name := "codePointAt", desc := "([BIIZ)I", sig := { parameters := [(.array .byte), .int, .int, .boolean], returnType := some .int }, accessFlags := 10, code := some k9c5 }
def k9c6 : Code := { maxStack := 4, maxLocals := 3, code := jdk_52_method_8_code, exceptionTable := #[], attributes := #[] }
def k9m6 : Method := { name := "codePointAt", desc := "([BII)I", sig := { parameters := [(.array .byte), .int, .int], returnType := some .int }, accessFlags := 9, code := some k9c6 }
def k9c7 : Code := { maxStack := 4, maxLocals := 5, code := jdk_52_method_14_code, exceptionTable := #[], attributes := #[] }
def k9m7 : Method := { name := "toBytes", desc := "([CII)[B", sig := { parameters := [(.array .char), .int, .int], returnType := some (.array .byte) }, accessFlags := 9, code := some k9c7 }
def k9c8 : Code := { maxStack := 2, maxLocals := 2, code := jdk_52_method_15_code, exceptionTable := #[], attributes := #[] }
def k9m8 : Method := { name := "coderFromArrayLen", desc := "([BI)B", sig := { parameters := [(.array .byte), .int], returnType := some .byte }, accessFlags := 8, code := some k9c8 }
def k9c9 : Code := { maxStack := 5, maxLocals := 6, code := jdk_52_method_16_code, exceptionTable := #[], attributes := #[] }
def k9m9 : Method := { name := "compress", desc := "([CII)[B", sig := { parameters := [(.array .char), .int, .int], returnType := some (.array .byte) }, accessFlags := 9, code := some k9c9 }
def k9c10 : Code := { maxStack := 3, maxLocals := 7, code := jdk_52_method_21_code, exceptionTable := #[], attributes := #[] }
def k9m10 : Method := { name := "compress", desc := "([CI[BII)I", sig := { parameters := [(.array .char), .int, (.array .byte), .int, .int], returnType := some .int }, accessFlags := 9, code := some k9c10 }
/-- java/lang/StringUTF16 -/
def k9 : Class := { plain "java/lang/StringUTF16" (some 0) with
  accessFlags := 48
  interfaces := #[]
  cf := some (fileOf pool9 12 #[.nestMembers #[627, 629, 369]] #[⟨0, 9, 10, #[]⟩, ⟨9, 109, 110, #[]⟩, ⟨9, 15, 16, #[]⟩, ⟨8, 113, 114, #[]⟩, ⟨8, 73, 74, #[]⟩, ⟨10, 90, 91, #[]⟩, ⟨9, 90, 250, #[]⟩, ⟨9, 121, 122, #[]⟩, ⟨8, 261, 262, #[]⟩, ⟨9, 117, 122, #[]⟩, ⟨9, 117, 118, #[]⟩] 48 6 #[] #[⟨26, 61, 62, #[]⟩, ⟨26, 65, 62, #[]⟩, ⟨24, 430, 62, #[]⟩, ⟨4120, 46, 47, #[]⟩])
  fields := #[⟨"HI_BYTE_SHIFT", .int, 26, 0, 0⟩, ⟨"LO_BYTE_SHIFT", .int, 26, 1, 0⟩, ⟨"MAX_LENGTH", .int, 24, 2, 0⟩, ⟨"$assertionsDisabled", .boolean, 4120, 3, 0⟩]
  methods := #[k9m0, k9m1, k9m2, k9m3, k9m4, k9m5, k9m6, k9m7, k9m8, k9m9, k9m10]
  instanceTypes := #[]
  staticTypes := #[.int, .int, .int, .boolean]
  resolved := Array.replicate 635 none
  statics := some 1 }

def pool10 : Array CpInfo := pool [(2, .class_ 4), (1, u "java/lang/Object"), (0, u "<init>"), (0, u "()V"), (17, .class_ 26), (1, u "jdk/internal/util/Preconditions"), (6, u "checkIndex"), (21, .class_ 56), (0, u "jdk/internal/util/Preconditions$4"), (57, .class_ 115), (0, u "jdk/internal/util/Preconditions$1"), (7, u "SIOOBE_FORMATTER"), (0, u "Ljava/util/function/BiFunction;"), (0, .class_ 126), (0, u "jdk/internal/util/Preconditions$2"), (3, u "AIOOBE_FORMATTER"), (0, .class_ 132), (0, u "jdk/internal/util/Preconditions$3"), (3, u "IOOBE_FORMATTER"), (41, u "(IILjava/util/function/BiFunction;)I")] 15

def k10m0 : Method := { name := "<init>", desc := "()V", sig := { parameters := [], returnType := none }, accessFlags := 1, code := none }
def k10c1 : Code := { maxStack := 3, maxLocals := 3, code := jdk_41_method_11_code, exceptionTable := #[], attributes := #[] }
def k10m1 : Method := { name := "checkIndex", desc := "(IILjava/util/function/BiFunction;)I", sig := { parameters := [.int, .int, (.object "java/util/function/BiFunction")], returnType := some .int }, accessFlags := 9, code := some k10c1 }
/-- jdk/internal/util/Preconditions -/
def k10 : Class := { plain "jdk/internal/util/Preconditions" (some 0) with
  accessFlags := 33
  interfaces := #[]
  cf := some (fileOf pool10 24 #[.nestMembers #[55, 131, 125, 114]] #[⟨1, 5, 6, #[]⟩, ⟨9, 33, 178, #[]⟩] 33 2 #[] #[⟨25, 123, 124, #[]⟩, ⟨25, 130, 124, #[]⟩, ⟨25, 136, 124, #[]⟩])
  fields := #[⟨"SIOOBE_FORMATTER", (.object "java/util/function/BiFunction"), 25, 0, 0⟩, ⟨"AIOOBE_FORMATTER", (.object "java/util/function/BiFunction"), 25, 1, 0⟩, ⟨"IOOBE_FORMATTER", (.object "java/util/function/BiFunction"), 25, 2, 0⟩]
  methods := #[k10m0, k10m1]
  instanceTypes := #[]
  staticTypes := #[(.object "java/util/function/BiFunction"), (.object "java/util/function/BiFunction"), (.object "java/util/function/BiFunction")]
  resolved := Array.replicate 194 none
  statics := some 2 }

def pool11 : Array CpInfo := pool [(1, .class_ 2), (0, u "java/lang/Character"), (18, u "value"), (0, u "C"), (19, .class_ 44), (1, u "java/lang/Object"), (3, .class_ 50), (1, u "java/lang/Character$CharacterCache"), (22, .integer 65536), (1, .integer 55296), (0, .integer 56320), (0, .integer 57344), (2, u "isHighSurrogate"), (0, u "(C)Z"), (2, u "isLowSurrogate"), (0, .integer 4238353408), (12, u "toCodePoint"), (0, u "(CC)I"), (74, u "(I)I"), (109, u "$assertionsDisabled"), (0, u "Z"), (21, .class_ 309), (1, u "java/lang/Character$UnicodeBlock"), (73, u "TYPE"), (0, u "Ljava/lang/Class;"), (0, .class_ 386), (0, u "java/io/Serializable"), (0, .class_ 388), (0, u "java/lang/Comparable"), (0, .class_ 390), (0, u "java/lang/constant/Constable"), (0, u "MIN_RADIX"), (0, u "I"), (2, u "MAX_RADIX"), (1, u "MIN_VALUE"), (1, u "MAX_VALUE"), (3, u "UNASSIGNED"), (0, u "B"), (0, u "UPPERCASE_LETTER"), (1, u "LOWERCASE_LETTER"), (0, u "TITLECASE_LETTER"), (1, u "MODIFIER_LETTER"), (1, u "OTHER_LETTER"), (1, u "NON_SPACING_MARK"), (1, u "ENCLOSING_MARK"), (1, u "COMBINING_SPACING_MARK"), (1, u "DECIMAL_DIGIT_NUMBER"), (1, u "LETTER_NUMBER"), (1, u "OTHER_NUMBER"), (1, u "SPACE_SEPARATOR"), (1, u "LINE_SEPARATOR"), (1, u "PARAGRAPH_SEPARATOR"), (1, u "CONTROL"), (1, u "FORMAT"), (1, u "PRIVATE_USE"), (1, u "SURROGATE"), (1, u "DASH_PUNCTUATION"), (1, u "START_PUNCTUATION"), (1, u "END_PUNCTUATION"), (1, u "CONNECTOR_PUNCTUATION"), (1, u "OTHER_PUNCTUATION"), (1, u "MATH_SYMBOL"), (1, u "CURRENCY_SYMBOL"), (1, u "MODIFIER_SYMBOL"), (1, u "OTHER_SYMBOL"), (1, u "INITIAL_QUOTE_PUNCTUATION"), (1, u "FINAL_QUOTE_PUNCTUATION"), (1, u "ERROR"), (1, u "DIRECTIONALITY_UNDEFINED"), (0, u "DIRECTIONALITY_LEFT_TO_RIGHT"), (0, u "DIRECTIONALITY_RIGHT_TO_LEFT"), (0, u "DIRECTIONALITY_RIGHT_TO_LEFT_ARABIC"), (0, u "DIRECTIONALITY_EUROPEAN_NUMBER"), (0, u "DIRECTIONALITY_EUROPEAN_NUMBER_SEPARATOR"), (0, u "DIRECTIONALITY_EUROPEAN_NUMBER_TERMINATOR"), (0, u "DIRECTIONALITY_ARABIC_NUMBER"), (0, u "DIRECTIONALITY_COMMON_NUMBER_SEPARATOR"), (0, u "DIRECTIONALITY_NONSPACING_MARK"), (0, u "DIRECTIONALITY_BOUNDARY_NEUTRAL"), (0, u "DIRECTIONALITY_PARAGRAPH_SEPARATOR"), (0, u "DIRECTIONALITY_SEGMENT_SEPARATOR"), (0, u "DIRECTIONALITY_WHITESPACE"), (0, u "DIRECTIONALITY_OTHER_NEUTRALS"), (0, u "DIRECTIONALITY_LEFT_TO_RIGHT_EMBEDDING"), (0, u "DIRECTIONALITY_LEFT_TO_RIGHT_OVERRIDE"), (0, u "DIRECTIONALITY_RIGHT_TO_LEFT_EMBEDDING"), (0, u "DIRECTIONALITY_RIGHT_TO_LEFT_OVERRIDE"), (1, u "DIRECTIONALITY_POP_DIRECTIONAL_FORMAT"), (0, u "DIRECTIONALITY_LEFT_TO_RIGHT_ISOLATE"), (0, u "DIRECTIONALITY_RIGHT_TO_LEFT_ISOLATE"), (0, u "DIRECTIONALITY_FIRST_STRONG_ISOLATE"), (0, u "DIRECTIONALITY_POP_DIRECTIONAL_ISOLATE"), (0, u "MIN_HIGH_SURROGATE"), (0, u "MAX_HIGH_SURROGATE"), (1, u "MIN_LOW_SURROGATE"), (0, u "MAX_LOW_SURROGATE"), (1, u "MIN_SURROGATE"), (0, u "MAX_SURROGATE"), (0, u "MIN_SUPPLEMENTARY_CODE_POINT"), (0, u "MIN_CODE_POINT"), (0, u "MAX_CODE_POINT"), (1, u "serialVersionUID"), (0, u "J"), (2, u "SIZE"), (0, u "BYTES"), (29, u "charCount"), (58, .class_ 596), (0, u "java/lang/Character$UnicodeScript"), (0, .class_ 598), (0, u "java/lang/Character$Subset")] 5

def k11c0 : Code := { maxStack := 2, maxLocals := 1, code := jdk_89_method_14_code, exceptionTable := #[], attributes := #[] }
def k11m0 : Method := { name := "isHighSurrogate", desc := "(C)Z", sig := { parameters := [.char], returnType := some .boolean }, accessFlags := 9, code := some k11c0 }
def k11c1 : Code := { maxStack := 2, maxLocals := 1, code := jdk_89_method_15_code, exceptionTable := #[], attributes := #[] }
def k11m1 : Method := { name := "isLowSurrogate", desc := "(C)Z", sig := { parameters := [.char], returnType := some .boolean }, accessFlags := 9, code := some k11c1 }
def k11c2 : Code := { maxStack := 2, maxLocals := 1, code := jdk_89_method_18_code, exceptionTable := #[], attributes := #[] }
def k11m2 : Method := { name := "charCount", desc := "(I)I", sig := { parameters := [.int], returnType := some .int }, accessFlags := 9, code := some k11c2 }
def k11c3 : Code := { maxStack := 2, maxLocals := 2, code := jdk_89_method_19_code, exceptionTable := #[], attributes := #[] }
def k11m3 : Method := { name := "toCodePoint", desc := "(CC)I", sig := { parameters := [.char, .char], returnType := some .int }, accessFlags := 9, code := some k11c3 }
/-- java/lang/Character -/
def k11 : Class := { plain "java/lang/Character" (some 0) with
  accessFlags := 49
  interfaces := #[2, 3, 5]
  cf := some (fileOf pool11 1 #[.nestMembers #[48, 595, 307, 597]] #[⟨9, 80, 81, #[]⟩, ⟨9, 84, 81, #[]⟩, ⟨9, 536, 174, #[]⟩, ⟨9, 98, 99, #[]⟩] 49 42 #[385, 387, 389] #[⟨25, 391, 392, #[]⟩, ⟨25, 395, 392, #[]⟩, ⟨25, 397, 22, #[]⟩, ⟨25, 399, 22, #[]⟩, ⟨25, 383, 384, #[]⟩, ⟨25, 403, 404, #[]⟩, ⟨25, 405, 404, #[]⟩, ⟨25, 407, 404, #[]⟩, ⟨25, 408, 404, #[]⟩, ⟨25, 410, 404, #[]⟩, ⟨25, 412, 404, #[]⟩, ⟨25, 414, 404, #[]⟩, ⟨25, 416, 404, #[]⟩, ⟨25, 418, 404, #[]⟩, ⟨25, 420, 404, #[]⟩, ⟨25, 422, 404, #[]⟩, ⟨25, 424, 404, #[]⟩, ⟨25, 426, 404, #[]⟩, ⟨25, 428, 404, #[]⟩, ⟨25, 430, 404, #[]⟩, ⟨25, 432, 404, #[]⟩, ⟨25, 434, 404, #[]⟩, ⟨25, 436, 404, #[]⟩, ⟨25, 438, 404, #[]⟩, ⟨25, 440, 404, #[]⟩, ⟨25, 442, 404, #[]⟩, ⟨25, 444, 404, #[]⟩, ⟨25, 446, 404, #[]⟩, ⟨25, 448, 404, #[]⟩, ⟨25, 450, 404, #[]⟩, ⟨25, 452, 404, #[]⟩, ⟨25, 454, 404, #[]⟩, ⟨25, 456, 404, #[]⟩, ⟨25, 458, 404, #[]⟩, ⟨25, 460, 404, #[]⟩, ⟨24, 462, 392, #[]⟩, ⟨25, 464, 404, #[]⟩, ⟨25, 465, 404, #[]⟩, ⟨25, 466, 404, #[]⟩, ⟨25, 467, 404, #[]⟩, ⟨25, 468, 404, #[]⟩, ⟨25, 469, 404, #[]⟩, ⟨25, 470, 404, #[]⟩, ⟨25, 471, 404, #[]⟩, ⟨25, 472, 404, #[]⟩, ⟨25, 473, 404, #[]⟩, ⟨25, 474, 404, #[]⟩, ⟨25, 475, 404, #[]⟩, ⟨25, 476, 404, #[]⟩, ⟨25, 477, 404, #[]⟩, ⟨25, 478, 404, #[]⟩, ⟨25, 479, 404, #[]⟩, ⟨25, 480, 404, #[]⟩, ⟨25, 481, 404, #[]⟩, ⟨25, 482, 404, #[]⟩, ⟨25, 484, 404, #[]⟩, ⟨25, 485, 404, #[]⟩, ⟨25, 486, 404, #[]⟩, ⟨25, 487, 404, #[]⟩, ⟨25, 488, 404, #[]⟩, ⟨25, 489, 22, #[]⟩, ⟨25, 490, 22, #[]⟩, ⟨25, 492, 22, #[]⟩, ⟨25, 493, 22, #[]⟩, ⟨25, 495, 22, #[]⟩, ⟨25, 496, 22, #[]⟩, ⟨25, 497, 392, #[]⟩, ⟨25, 498, 392, #[]⟩, ⟨25, 499, 392, #[]⟩, ⟨18, 21, 22, #[]⟩, ⟨26, 501, 502, #[]⟩, ⟨25, 505, 392, #[]⟩, ⟨25, 506, 392, #[]⟩, ⟨4120, 284, 285, #[]⟩])
  fields := #[⟨"MIN_RADIX", .int, 25, 0, 0⟩, ⟨"MAX_RADIX", .int, 25, 1, 0⟩, ⟨"MIN_VALUE", .char, 25, 2, 0⟩, ⟨"MAX_VALUE", .char, 25, 3, 0⟩, ⟨"TYPE", (.object "java/lang/Class"), 25, 4, 0⟩, ⟨"UNASSIGNED", .byte, 25, 5, 0⟩, ⟨"UPPERCASE_LETTER", .byte, 25, 6, 0⟩, ⟨"LOWERCASE_LETTER", .byte, 25, 7, 0⟩, ⟨"TITLECASE_LETTER", .byte, 25, 8, 0⟩, ⟨"MODIFIER_LETTER", .byte, 25, 9, 0⟩, ⟨"OTHER_LETTER", .byte, 25, 10, 0⟩, ⟨"NON_SPACING_MARK", .byte, 25, 11, 0⟩, ⟨"ENCLOSING_MARK", .byte, 25, 12, 0⟩, ⟨"COMBINING_SPACING_MARK", .byte, 25, 13, 0⟩, ⟨"DECIMAL_DIGIT_NUMBER", .byte, 25, 14, 0⟩, ⟨"LETTER_NUMBER", .byte, 25, 15, 0⟩, ⟨"OTHER_NUMBER", .byte, 25, 16, 0⟩, ⟨"SPACE_SEPARATOR", .byte, 25, 17, 0⟩, ⟨"LINE_SEPARATOR", .byte, 25, 18, 0⟩, ⟨"PARAGRAPH_SEPARATOR", .byte, 25, 19, 0⟩, ⟨"CONTROL", .byte, 25, 20, 0⟩, ⟨"FORMAT", .byte, 25, 21, 0⟩, ⟨"PRIVATE_USE", .byte, 25, 22, 0⟩, ⟨"SURROGATE", .byte, 25, 23, 0⟩, ⟨"DASH_PUNCTUATION", .byte, 25, 24, 0⟩, ⟨"START_PUNCTUATION", .byte, 25, 25, 0⟩, ⟨"END_PUNCTUATION", .byte, 25, 26, 0⟩, ⟨"CONNECTOR_PUNCTUATION", .byte, 25, 27, 0⟩, ⟨"OTHER_PUNCTUATION", .byte, 25, 28, 0⟩, ⟨"MATH_SYMBOL", .byte, 25, 29, 0⟩, ⟨"CURRENCY_SYMBOL", .byte, 25, 30, 0⟩, ⟨"MODIFIER_SYMBOL", .byte, 25, 31, 0⟩, ⟨"OTHER_SYMBOL", .byte, 25, 32, 0⟩, ⟨"INITIAL_QUOTE_PUNCTUATION", .byte, 25, 33, 0⟩, ⟨"FINAL_QUOTE_PUNCTUATION", .byte, 25, 34, 0⟩, ⟨"ERROR", .int, 24, 35, 0⟩, ⟨"DIRECTIONALITY_UNDEFINED", .byte, 25, 36, 0⟩, ⟨"DIRECTIONALITY_LEFT_TO_RIGHT", .byte, 25, 37, 0⟩, ⟨"DIRECTIONALITY_RIGHT_TO_LEFT", .byte, 25, 38, 0⟩, ⟨"DIRECTIONALITY_RIGHT_TO_LEFT_ARABIC", .byte, 25, 39, 0⟩, ⟨"DIRECTIONALITY_EUROPEAN_NUMBER", .byte, 25, 40, 0⟩, ⟨"DIRECTIONALITY_EUROPEAN_NUMBER_SEPARATOR", .byte, 25, 41, 0⟩, ⟨"DIRECTIONALITY_EUROPEAN_NUMBER_TERMINATOR", .byte, 25, 42, 0⟩, ⟨"DIRECTIONALITY_ARABIC_NUMBER", .byte, 25, 43, 0⟩, ⟨"DIRECTIONALITY_COMMON_NUMBER_SEPARATOR", .byte, 25, 44, 0⟩, ⟨"DIRECTIONALITY_NONSPACING_MARK", .byte, 25, 45, 0⟩, ⟨"DIRECTIONALITY_BOUNDARY_NEUTRAL", .byte, 25, 46, 0⟩, ⟨"DIRECTIONALITY_PARAGRAPH_SEPARATOR", .byte, 25, 47, 0⟩, ⟨"DIRECTIONALITY_SEGMENT_SEPARATOR", .byte, 25, 48, 0⟩, ⟨"DIRECTIONALITY_WHITESPACE", .byte, 25, 49, 0⟩, ⟨"DIRECTIONALITY_OTHER_NEUTRALS", .byte, 25, 50, 0⟩, ⟨"DIRECTIONALITY_LEFT_TO_RIGHT_EMBEDDING", .byte, 25, 51, 0⟩, ⟨"DIRECTIONALITY_LEFT_TO_RIGHT_OVERRIDE", .byte, 25, 52, 0⟩, ⟨"DIRECTIONALITY_RIGHT_TO_LEFT_EMBEDDING", .byte, 25, 53, 0⟩, ⟨"DIRECTIONALITY_RIGHT_TO_LEFT_OVERRIDE", .byte, 25, 54, 0⟩, ⟨"DIRECTIONALITY_POP_DIRECTIONAL_FORMAT", .byte, 25, 55, 0⟩, ⟨"DIRECTIONALITY_LEFT_TO_RIGHT_ISOLATE", .byte, 25, 56, 0⟩, ⟨"DIRECTIONALITY_RIGHT_TO_LEFT_ISOLATE", .byte, 25, 57, 0⟩, ⟨"DIRECTIONALITY_FIRST_STRONG_ISOLATE", .byte, 25, 58, 0⟩, ⟨"DIRECTIONALITY_POP_DIRECTIONAL_ISOLATE", .byte, 25, 59, 0⟩, ⟨"MIN_HIGH_SURROGATE", .char, 25, 60, 0⟩, ⟨"MAX_HIGH_SURROGATE", .char, 25, 61, 0⟩, ⟨"MIN_LOW_SURROGATE", .char, 25, 62, 0⟩, ⟨"MAX_LOW_SURROGATE", .char, 25, 63, 0⟩, ⟨"MIN_SURROGATE", .char, 25, 64, 0⟩, ⟨"MAX_SURROGATE", .char, 25, 65, 0⟩, ⟨"MIN_SUPPLEMENTARY_CODE_POINT", .int, 25, 66, 0⟩, ⟨"MIN_CODE_POINT", .int, 25, 67, 0⟩, ⟨"MAX_CODE_POINT", .int, 25, 68, 0⟩, ⟨"value", .char, 18, 0, 0⟩, ⟨"serialVersionUID", .long, 26, 69, 0⟩, ⟨"SIZE", .int, 25, 70, 0⟩, ⟨"BYTES", .int, 25, 71, 0⟩, ⟨"$assertionsDisabled", .boolean, 4120, 72, 0⟩]
  methods := #[k11m0, k11m1, k11m2, k11m3]
  instanceTypes := #[.char]
  staticTypes := #[.int, .int, .char, .char, (.object "java/lang/Class"), .byte, .byte, .byte, .byte, .byte, .byte, .byte, .byte, .byte, .byte, .byte, .byte, .byte, .byte, .byte, .byte, .byte, .byte, .byte, .byte, .byte, .byte, .byte, .byte, .byte, .byte, .byte, .byte, .byte, .byte, .int, .byte, .byte, .byte, .byte, .byte, .byte, .byte, .byte, .byte, .byte, .byte, .byte, .byte, .byte, .byte, .byte, .byte, .byte, .byte, .byte, .byte, .byte, .byte, .byte, .char, .char, .char, .char, .char, .char, .int, .int, .int, .long, .int, .int, .boolean]
  resolved := Array.replicate 604 none
  statics := none }

def pool12 : Array CpInfo := pool [(4, .class_ 6), (1, u "java/lang/Object"), (0, u "<init>"), (0, u "()V"), (5, .class_ 16), (1, u "java/lang/StringLatin1"), (104, u "$assertionsDisabled"), (0, u "Z"), (98, .class_ 223), (1, u "java/lang/StringLatin1$LinesSpliterator"), (166, .class_ 391), (0, u "java/lang/StringLatin1$CharsSpliterator")] 3

def k12m0 : Method := { name := "<init>", desc := "()V", sig := { parameters := [], returnType := none }, accessFlags := 0, code := none }
/-- java/lang/StringLatin1 -/
def k12 : Class := { plain "java/lang/StringLatin1" (some 0) with
  accessFlags := 48
  interfaces := #[]
  cf := some (fileOf pool12 14 #[.nestMembers #[390, 221]] #[⟨0, 7, 8, #[]⟩] 48 4 #[] #[⟨4120, 121, 122, #[]⟩])
  fields := #[⟨"$assertionsDisabled", .boolean, 4120, 0, 0⟩]
  methods := #[k12m0]
  instanceTypes := #[]
  staticTypes := #[.boolean]
  resolved := Array.replicate 395 none
  statics := none }

def pool13 : Array CpInfo := pool [(9, u "<init>"), (6, .class_ 18), (1, u "java/lang/Object"), (0, u "()V"), (1, .class_ 23), (1, u "jdk/internal/util/ArraysSupport"), (0, u "LOG2_ARRAY_LONG_INDEX_SCALE"), (0, u "I"), (2, u "U"), (0, u "Ljdk/internal/misc/Unsafe;"), (8, u "BIG_ENDIAN"), (0, u "Z"), (8, u "LOG2_BYTE_BIT_SIZE"), (4, u "LOG2_ARRAY_INT_INDEX_SCALE"), (54, u "JLA"), (0, u "Ljdk/internal/access/JavaLangAccess;"), (11, u "LOG2_ARRAY_BOOLEAN_INDEX_SCALE"), (9, u "LOG2_ARRAY_BYTE_INDEX_SCALE"), (5, u "LOG2_ARRAY_CHAR_INDEX_SCALE"), (5, u "LOG2_ARRAY_SHORT_INDEX_SCALE"), (18, u "LOG2_ARRAY_FLOAT_INDEX_SCALE"), (24, u "LOG2_ARRAY_DOUBLE_INDEX_SCALE"), (89, u "T_BOOLEAN"), (2, u "T_CHAR"), (1, u "T_FLOAT"), (1, u "T_DOUBLE"), (1, u "T_BYTE"), (1, u "T_SHORT"), (1, u "T_INT"), (1, u "T_LONG"), (1, u "SOFT_MAX_ARRAY_LENGTH")] 83

def k13m0 : Method := { name := "<init>", desc := "()V", sig := { parameters := [], returnType := none }, accessFlags := 2, code := none }
/-- jdk/internal/util/ArraysSupport -/
def k13 : Class := { plain "jdk/internal/util/ArraysSupport" (some 0) with
  accessFlags := 33
  interfaces := #[]
  cf := some (fileOf pool13 21 #[] #[⟨2, 9, 19, #[]⟩] 33 16 #[] #[⟨24, 28, 29, #[]⟩, ⟨26, 38, 39, #[]⟩, ⟨25, 121, 25, #[]⟩, ⟨25, 131, 25, #[]⟩, ⟨25, 137, 25, #[]⟩, ⟨25, 143, 25, #[]⟩, ⟨25, 53, 25, #[]⟩, ⟨25, 24, 25, #[]⟩, ⟨25, 162, 25, #[]⟩, ⟨25, 187, 25, #[]⟩, ⟨26, 48, 25, #[]⟩, ⟨25, 277, 25, #[]⟩, ⟨25, 280, 25, #[]⟩, ⟨25, 282, 25, #[]⟩, ⟨25, 284, 25, #[]⟩, ⟨25, 286, 25, #[]⟩, ⟨25, 288, 25, #[]⟩, ⟨25, 290, 25, #[]⟩, ⟨25, 292, 25, #[]⟩, ⟨26, 108, 109, #[]⟩, ⟨25, 294, 25, #[]⟩])
  fields := #[⟨"U", (.object "jdk/internal/misc/Unsafe"), 24, 0, 0⟩, ⟨"BIG_ENDIAN", .boolean, 26, 1, 0⟩, ⟨"LOG2_ARRAY_BOOLEAN_INDEX_SCALE", .int, 25, 2, 0⟩, ⟨"LOG2_ARRAY_BYTE_INDEX_SCALE", .int, 25, 3, 0⟩, ⟨"LOG2_ARRAY_CHAR_INDEX_SCALE", .int, 25, 4, 0⟩, ⟨"LOG2_ARRAY_SHORT_INDEX_SCALE", .int, 25, 5, 0⟩, ⟨"LOG2_ARRAY_INT_INDEX_SCALE", .int, 25, 6, 0⟩, ⟨"LOG2_ARRAY_LONG_INDEX_SCALE", .int, 25, 7, 0⟩, ⟨"LOG2_ARRAY_FLOAT_INDEX_SCALE", .int, 25, 8, 0⟩, ⟨"LOG2_ARRAY_DOUBLE_INDEX_SCALE", .int, 25, 9, 0⟩, ⟨"LOG2_BYTE_BIT_SIZE", .int, 26, 10, 0⟩, ⟨"T_BOOLEAN", .int, 25, 11, 0⟩, ⟨"T_CHAR", .int, 25, 12, 0⟩, ⟨"T_FLOAT", .int, 25, 13, 0⟩, ⟨"T_DOUBLE", .int, 25, 14, 0⟩, ⟨"T_BYTE", .int, 25, 15, 0⟩, ⟨"T_SHORT", .int, 25, 16, 0⟩, ⟨"T_INT", .int, 25, 17, 0⟩, ⟨"T_LONG", .int, 25, 18, 0⟩, ⟨"JLA", (.object "jdk/internal/access/JavaLangAccess"), 26, 19, 0⟩, ⟨"SOFT_MAX_ARRAY_LENGTH", .int, 25, 20, 0⟩]
  methods := #[k13m0]
  instanceTypes := #[]
  staticTypes := #[(.object "jdk/internal/misc/Unsafe"), .boolean, .int, .int, .int, .int, .int, .int, .int, .int, .int, .int, .int, .int, .int, .int, .int, .int, .int, (.object "jdk/internal/access/JavaLangAccess"), .int]
  resolved := Array.replicate 378 none
  statics := none }

def pool14 : Array CpInfo := pool [(1, u "java/lang/Cloneable"), (0, .class_ 1), (0, u "java/lang/Object"), (0, .class_ 3)] 3

/-- java/lang/Cloneable -/
def k14 : Class := { plain "java/lang/Cloneable" (some 0) with
  accessFlags := 1537
  interfaces := #[]
  cf := some (fileOf pool14 2 #[] #[] 1537 4 #[] #[])
  fields := #[]
  methods := #[]
  instanceTypes := #[]
  staticTypes := #[]
  resolved := Array.replicate 8 none
  statics := none }

/-- the primitive byte -/
def k15 : Class := { plain "byte" none with kind := .primitive 'B', accessFlags := 0x411 }
/-- [B -/
def k16 : Class := { plain "[B" (some 0) with kind := .array 15 .byte, interfaces := #[14, 2], accessFlags := 1041 }

/-- the primitive char -/
def k17 : Class := { plain "char" none with kind := .primitive 'C', accessFlags := 0x411 }
/-- [C -/
def k18 : Class := { plain "[C" (some 0) with kind := .array 17 .char, interfaces := #[14, 2], accessFlags := 1041 }

/-- the primitive int -/
def k19 : Class := { plain "int" none with kind := .primitive 'I', accessFlags := 0x411 }
/-- [I -/
def k20 : Class := { plain "[I" (some 0) with kind := .array 19 .int, interfaces := #[14, 2], accessFlags := 1041 }

def heap : Heap := #[{ cls := 7, slots := #[.long 0, .int 1, .null, .int 0, .null, .int 0, .int 0], vm := .statics 7 },
  { cls := 9, slots := #[.int 0, .int 8, .int 0, .int 1], vm := .statics 9 },
  { cls := 10, slots := #[.null, .null, .null], vm := .statics 10 }]
def classes : Array Class := #[k0, k1, k2, k3, k4, k5, k6, k7, k8, k9, k10, k11, k12, k13, k14, k15, k16, k17, k18, k19, k20]
def interned : List (Array UInt16 × Addr) := []
def slotsUsed : Nat := 14
def theMethod : MethodId := ⟨1, 1⟩
def args0 : Array Value := #[.int 5, .int 6, .int 7, .int 8, .int 9]
def aboutOver (below : List Frame) : State where
  vm := { classes := classes, interned := interned.toArray }
  heap := heap
  slotsUsed := slotsUsed
  threads := #[{ frames := .invoking theMethod args0 :: below }]
def below0 : List Frame := [.native { method := ⟨0, 0⟩, args := #[] }]
def about1 : State := aboutOver below0
def p0 : Program := .bare "" "" ""
def e0 : Env := launch0.env 0 0 0
theorem w_frames : about1.frames = Frame.invoking theMethod args0 :: below0 := rfl
set_option maxRecDepth 65536 in
theorem w_args : argsFit about1.vm theMethod args0 = true := by decide +kernel
set_option maxRecDepth 65536 in
theorem w_heap : heapFits about1 = true := by decide +kernel
set_option maxRecDepth 65536 in
theorem w_runnable : about1.curStatus? = some .runnable := by decide +kernel
set_option maxRecDepth 65536 in
theorem w_alone : about1.alone = true := by decide +kernel
set_option maxRecDepth 65536 in
theorem w_named : about1.methodNamed? x = some theMethod := by decide +kernel
set_option maxRecDepth 65536 in
theorem w_hears : about1.hears theMethod below0 = true := by decide +kernel
set_option maxRecDepth 65536 in
theorem w_ripe : about1.ripe theMethod args0 below0 = true := by decide +kernel
theorem w_running : about1.status = .running := rfl
set_option maxRecDepth 65536 in
theorem w_room : about1.hasRoom e0.platform room_1 = true :=
  launch0.hasRoom_least _ room_1 (by decide +kernel) (by decide +kernel) (by decide +kernel) (by decide +kernel) (by decide +kernel) (by decide +kernel)
theorem allAtoms_all (ts : List Jvm.Cond) (a : Array Jvm.Value) (st : Jvm.State) : (allAtoms ts).before a st = ts.all (fun c => c.before a st) := by
  induction ts with
  | nil => rfl
  | cons c t ih =>
    show (Jvm.Cond.and c (allAtoms t)).before a st = _
    rw [Jvm.Cond.before_and, ih, List.all_cons]
def words1 : List Jvm.Cond := Jvm.Cond.code x code maxLocals ret :: tables_1
/-- a 'code' word, met by the world's own term for the bytes: nothing is compared byte by byte -/
theorem code_word {y : MethodName} {bytes : ByteArray} {mx : Nat} {rt : Option FieldType} {a : Array Value} {s : State} {m : MethodId} {meth : Method} {c : Code} (h1 : s.methodNamed? y = some m) (h2 : s.vm.method? m = some meth) (h3 : meth.code = some c) (h4 : c.code = bytes)
    (h5 : (c.maxLocals == mx && c.exceptionTable.isEmpty && decide (c.maxStack ≤ mostOperands) && decide (meth.sig.returnType = rt) && !meth.locks && decide (parseMethodDescriptor y.desc = some meth.sig)) = true) : (Jvm.Cond.code y bytes mx rt).before a s = true := by
  simp only [Bool.and_eq_true, beq_iff_eq, Bool.not_eq_true', decide_eq_true_eq] at h5
  obtain ⟨⟨⟨⟨⟨g1, g2⟩, g3⟩, g4⟩, g5⟩, g6⟩ := h5
  simp [Cond.before, Cond.holds, Cond.value, h1, h2, h3, h4, g1, g2, g3, g4, g5, g6]
def isCode : Jvm.Cond → Bool
  | .code _ _ _ _ => true
  | _ => false
theorem all_split {L : List Jvm.Cond} {P : Jvm.Cond → Bool} (h1 : L.all (fun c => isCode c || P c) = true) (h2 : ∀ c ∈ L.filter isCode, P c = true) : L.all P = true := by
  refine List.all_eq_true.mpr fun c hc => ?_
  have h := List.all_eq_true.mp h1 c hc
  rcases Bool.eq_false_or_eq_true (isCode c) with hi | hi
  · exact h2 c (List.mem_filter.mpr ⟨hc, hi⟩)
  · simpa [hi] using h
set_option maxRecDepth 65536 in
theorem w_c0 : (Jvm.Cond.code x code maxLocals ret).before args0 about1 = true := code_word (m := ⟨1, 1⟩) (meth := k1m1) (c := k1c1) (by decide +kernel) rfl rfl rfl (by decide +kernel)
set_option maxRecDepth 65536 in
theorem w_c1 : (Jvm.Cond.code y_0 method_3_code (3 : Nat) (Option.some Jvm.ClassFile.FieldType.char)).before args0 about1 = true := code_word (m := ⟨1, 2⟩) (meth := k1m2) (c := k1c2) (by decide +kernel) rfl rfl rfl (by decide +kernel)
set_option maxRecDepth 65536 in
theorem w_c2 : (Jvm.Cond.code y_4 method_4_code (5 : Nat) (Option.some (Jvm.ClassFile.FieldType.object "java/lang/String"))).before args0 about1 = true := code_word (m := ⟨1, 3⟩) (meth := k1m3) (c := k1c3) (by decide +kernel) rfl rfl rfl (by decide +kernel)
set_option maxRecDepth 65536 in
theorem w_c3 : (Jvm.Cond.code y_3 jdk_42_method_3_code (2 : Nat) (Option.none : Option Jvm.ClassFile.FieldType)).before args0 about1 = true := code_word (m := ⟨7, 1⟩) (meth := k7m1) (c := k7c1) (by decide +kernel) rfl rfl rfl (by decide +kernel)
set_option maxRecDepth 65536 in
theorem w_c4 : (Jvm.Cond.code y_2 jdk_42_method_149_code (6 : Nat) (Option.none : Option Jvm.ClassFile.FieldType)).before args0 about1 = true := code_word (m := ⟨7, 4⟩) (meth := k7m4) (c := k7c4) (by decide +kernel) rfl rfl rfl (by decide +kernel)
set_option maxRecDepth 65536 in
theorem w_c5 : (Jvm.Cond.code y_1 object_method_1_code (1 : Nat) (Option.none : Option Jvm.ClassFile.FieldType)).before args0 about1 = true := code_word (m := ⟨0, 0⟩) (meth := k0m0) (c := k0c0) (by decide +kernel) rfl rfl rfl (by decide +kernel)
set_option maxRecDepth 65536 in
theorem w_c6 : (Jvm.Cond.code y_5 method_7_code (4 : Nat) (Option.some Jvm.ClassFile.FieldType.boolean)).before args0 about1 = true := code_word (m := ⟨1, 6⟩) (meth := k1m6) (c := k1c6) (by decide +kernel) rfl rfl rfl (by decide +kernel)
set_option maxRecDepth 65536 in
theorem w_c7 : (Jvm.Cond.code y_8 prog_10_method_10_code (3 : Nat) (Option.some Jvm.ClassFile.FieldType.int)).before args0 about1 = true := code_word (m := ⟨8, 1⟩) (meth := k8m1) (c := k8c1) (by decide +kernel) rfl rfl rfl (by decide +kernel)
set_option maxRecDepth 65536 in
theorem w_c8 : (Jvm.Cond.code y_7 jdk_42_method_54_code (1 : Nat) (Option.some Jvm.ClassFile.FieldType.int)).before args0 about1 = true := code_word (m := ⟨7, 2⟩) (meth := k7m2) (c := k7c2) (by decide +kernel) rfl rfl rfl (by decide +kernel)
set_option maxRecDepth 65536 in
theorem w_c9 : (Jvm.Cond.code y_6 jdk_42_method_152_code (1 : Nat) (Option.some Jvm.ClassFile.FieldType.byte)).before args0 about1 = true := code_word (m := ⟨7, 5⟩) (meth := k7m5) (c := k7c5) (by decide +kernel) rfl rfl rfl (by decide +kernel)
set_option maxRecDepth 65536 in
theorem w_c10 : (Jvm.Cond.code y_15 jdk_52_method_16_code (6 : Nat) (Option.some (Jvm.ClassFile.FieldType.array Jvm.ClassFile.FieldType.byte))).before args0 about1 = true := code_word (m := ⟨9, 9⟩) (meth := k9m9) (c := k9c9) (by decide +kernel) rfl rfl rfl (by decide +kernel)
set_option maxRecDepth 65536 in
theorem w_c11 : (Jvm.Cond.code y_9 jdk_52_method_21_code (7 : Nat) (Option.some Jvm.ClassFile.FieldType.int)).before args0 about1 = true := code_word (m := ⟨9, 10⟩) (meth := k9m10) (c := k9c10) (by decide +kernel) rfl rfl rfl (by decide +kernel)
set_option maxRecDepth 65536 in
theorem w_c12 : (Jvm.Cond.code y_13 jdk_52_method_14_code (5 : Nat) (Option.some (Jvm.ClassFile.FieldType.array Jvm.ClassFile.FieldType.byte))).before args0 about1 = true := code_word (m := ⟨9, 7⟩) (meth := k9m7) (c := k9c7) (by decide +kernel) rfl rfl rfl (by decide +kernel)
set_option maxRecDepth 65536 in
theorem w_c13 : (Jvm.Cond.code y_11 jdk_52_method_2_code (1 : Nat) (Option.some (Jvm.ClassFile.FieldType.array Jvm.ClassFile.FieldType.byte))).before args0 about1 = true := code_word (m := ⟨9, 1⟩) (meth := k9m1) (c := k9c1) (by decide +kernel) rfl rfl rfl (by decide +kernel)
set_option maxRecDepth 65536 in
theorem w_c14 : (Jvm.Cond.code y_10 jdk_52_method_3_code (1 : Nat) (Option.some Jvm.ClassFile.FieldType.int)).before args0 about1 = true := code_word (m := ⟨9, 2⟩) (meth := k9m2) (c := k9c2) (by decide +kernel) rfl rfl rfl (by decide +kernel)
set_option maxRecDepth 65536 in
theorem w_c15 : (Jvm.Cond.code y_12 jdk_52_method_4_code (3 : Nat) (Option.none : Option Jvm.ClassFile.FieldType)).before args0 about1 = true := code_word (m := ⟨9, 3⟩) (meth := k9m3) (c := k9c3) (by decide +kernel) rfl rfl rfl (by decide +kernel)
set_option maxRecDepth 65536 in
theorem w_c16 : (Jvm.Cond.code y_14 jdk_52_method_5_code (2 : Nat) (Option.some Jvm.ClassFile.FieldType.char)).before args0 about1 = true := code_word (m := ⟨9, 4⟩) (meth := k9m4) (c := k9c4) (by decide +kernel) rfl rfl rfl (by decide +kernel)
set_option maxRecDepth 65536 in
theorem w_c17 : (Jvm.Cond.code y_16 jdk_52_method_15_code (2 : Nat) (Option.some Jvm.ClassFile.FieldType.byte)).before args0 about1 = true := code_word (m := ⟨9, 8⟩) (meth := k9m8) (c := k9c8) (by decide +kernel) rfl rfl rfl (by decide +kernel)
set_option maxRecDepth 65536 in
theorem w_c18 : (Jvm.Cond.code y_17 method_5_code (1 : Nat) (Option.some Jvm.ClassFile.FieldType.boolean)).before args0 about1 = true := code_word (m := ⟨1, 4⟩) (meth := k1m4) (c := k1c4) (by decide +kernel) rfl rfl rfl (by decide +kernel)
set_option maxRecDepth 65536 in
theorem w_c19 : (Jvm.Cond.code y_18 method_6_code (1 : Nat) (Option.some Jvm.ClassFile.FieldType.boolean)).before args0 about1 = true := code_word (m := ⟨1, 5⟩) (meth := k1m5) (c := k1c5) (by decide +kernel) rfl rfl rfl (by decide +kernel)
set_option maxRecDepth 65536 in
theorem w_c20 : (Jvm.Cond.code y_25 jdk_42_method_57_code (3 : Nat) (Option.some Jvm.ClassFile.FieldType.int)).before args0 about1 = true := code_word (m := ⟨7, 3⟩) (meth := k7m3) (c := k7c3) (by decide +kernel) rfl rfl rfl (by decide +kernel)
set_option maxRecDepth 65536 in
theorem w_c21 : (Jvm.Cond.code y_19 jdk_42_method_154_code (1 : Nat) (Option.some Jvm.ClassFile.FieldType.boolean)).before args0 about1 = true := code_word (m := ⟨7, 6⟩) (meth := k7m6) (c := k7c6) (by decide +kernel) rfl rfl rfl (by decide +kernel)
set_option maxRecDepth 65536 in
theorem w_c22 : (Jvm.Cond.code y_21 jdk_42_method_155_code (2 : Nat) (Option.none : Option Jvm.ClassFile.FieldType)).before args0 about1 = true := code_word (m := ⟨7, 7⟩) (meth := k7m7) (c := k7c7) (by decide +kernel) rfl rfl rfl (by decide +kernel)
set_option maxRecDepth 65536 in
theorem w_c23 : (Jvm.Cond.code y_20 jdk_41_method_11_code (3 : Nat) (Option.some Jvm.ClassFile.FieldType.int)).before args0 about1 = true := code_word (m := ⟨10, 1⟩) (meth := k10m1) (c := k10c1) (by decide +kernel) rfl rfl rfl (by decide +kernel)
set_option maxRecDepth 65536 in
theorem w_c24 : (Jvm.Cond.code y_24 jdk_52_method_8_code (3 : Nat) (Option.some Jvm.ClassFile.FieldType.int)).before args0 about1 = true := code_word (m := ⟨9, 6⟩) (meth := k9m6) (c := k9c6) (by decide +kernel) rfl rfl rfl (by decide +kernel)
set_option maxRecDepth 65536 in
theorem w_c25 : (Jvm.Cond.code y_23 jdk_52_method_7_code (6 : Nat) (Option.some Jvm.ClassFile.FieldType.int)).before args0 about1 = true := code_word (m := ⟨9, 5⟩) (meth := k9m5) (c := k9c5) (by decide +kernel) rfl rfl rfl (by decide +kernel)
set_option maxRecDepth 65536 in
theorem w_c26 : (Jvm.Cond.code y_22 jdk_89_method_14_code (1 : Nat) (Option.some Jvm.ClassFile.FieldType.boolean)).before args0 about1 = true := code_word (m := ⟨11, 0⟩) (meth := k11m0) (c := k11c0) (by decide +kernel) rfl rfl rfl (by decide +kernel)
set_option maxRecDepth 65536 in
theorem w_c27 : (Jvm.Cond.code y_26 jdk_89_method_18_code (1 : Nat) (Option.some Jvm.ClassFile.FieldType.int)).before args0 about1 = true := code_word (m := ⟨11, 2⟩) (meth := k11m2) (c := k11c2) (by decide +kernel) rfl rfl rfl (by decide +kernel)
set_option maxRecDepth 65536 in
theorem w_c28 : (Jvm.Cond.code y_27 jdk_89_method_15_code (1 : Nat) (Option.some Jvm.ClassFile.FieldType.boolean)).before args0 about1 = true := code_word (m := ⟨11, 1⟩) (meth := k11m1) (c := k11c1) (by decide +kernel) rfl rfl rfl (by decide +kernel)
set_option maxRecDepth 65536 in
theorem w_c29 : (Jvm.Cond.code y_28 jdk_89_method_19_code (2 : Nat) (Option.some Jvm.ClassFile.FieldType.int)).before args0 about1 = true := code_word (m := ⟨11, 3⟩) (meth := k11m3) (c := k11c3) (by decide +kernel) rfl rfl rfl (by decide +kernel)
def codes1 : List Jvm.Cond := [Jvm.Cond.code x code maxLocals ret, Jvm.Cond.code y_0 method_3_code (3 : Nat) (Option.some Jvm.ClassFile.FieldType.char), Jvm.Cond.code y_4 method_4_code (5 : Nat) (Option.some (Jvm.ClassFile.FieldType.object "java/lang/String")), Jvm.Cond.code y_3 jdk_42_method_3_code (2 : Nat) (Option.none : Option Jvm.ClassFile.FieldType), Jvm.Cond.code y_2 jdk_42_method_149_code (6 : Nat) (Option.none : Option Jvm.ClassFile.FieldType), Jvm.Cond.code y_1 object_method_1_code (1 : Nat) (Option.none : Option Jvm.ClassFile.FieldType), Jvm.Cond.code y_5 method_7_code (4 : Nat) (Option.some Jvm.ClassFile.FieldType.boolean), Jvm.Cond.code y_8 prog_10_method_10_code (3 : Nat) (Option.some Jvm.ClassFile.FieldType.int), Jvm.Cond.code y_7 jdk_42_method_54_code (1 : Nat) (Option.some Jvm.ClassFile.FieldType.int), Jvm.Cond.code y_6 jdk_42_method_152_code (1 : Nat) (Option.some Jvm.ClassFile.FieldType.byte), Jvm.Cond.code y_15 jdk_52_method_16_code (6 : Nat) (Option.some (Jvm.ClassFile.FieldType.array Jvm.ClassFile.FieldType.byte)), Jvm.Cond.code y_9 jdk_52_method_21_code (7 : Nat) (Option.some Jvm.ClassFile.FieldType.int), Jvm.Cond.code y_13 jdk_52_method_14_code (5 : Nat) (Option.some (Jvm.ClassFile.FieldType.array Jvm.ClassFile.FieldType.byte)), Jvm.Cond.code y_11 jdk_52_method_2_code (1 : Nat) (Option.some (Jvm.ClassFile.FieldType.array Jvm.ClassFile.FieldType.byte)), Jvm.Cond.code y_10 jdk_52_method_3_code (1 : Nat) (Option.some Jvm.ClassFile.FieldType.int), Jvm.Cond.code y_12 jdk_52_method_4_code (3 : Nat) (Option.none : Option Jvm.ClassFile.FieldType), Jvm.Cond.code y_14 jdk_52_method_5_code (2 : Nat) (Option.some Jvm.ClassFile.FieldType.char), Jvm.Cond.code y_16 jdk_52_method_15_code (2 : Nat) (Option.some Jvm.ClassFile.FieldType.byte), Jvm.Cond.code y_17 method_5_code (1 : Nat) (Option.some Jvm.ClassFile.FieldType.boolean), Jvm.Cond.code y_18 method_6_code (1 : Nat) (Option.some Jvm.ClassFile.FieldType.boolean), Jvm.Cond.code y_25 jdk_42_method_57_code (3 : Nat) (Option.some Jvm.ClassFile.FieldType.int), Jvm.Cond.code y_19 jdk_42_method_154_code (1 : Nat) (Option.some Jvm.ClassFile.FieldType.boolean), Jvm.Cond.code y_21 jdk_42_method_155_code (2 : Nat) (Option.none : Option Jvm.ClassFile.FieldType), Jvm.Cond.code y_20 jdk_41_method_11_code (3 : Nat) (Option.some Jvm.ClassFile.FieldType.int), Jvm.Cond.code y_24 jdk_52_method_8_code (3 : Nat) (Option.some Jvm.ClassFile.FieldType.int), Jvm.Cond.code y_23 jdk_52_method_7_code (6 : Nat) (Option.some Jvm.ClassFile.FieldType.int), Jvm.Cond.code y_22 jdk_89_method_14_code (1 : Nat) (Option.some Jvm.ClassFile.FieldType.boolean), Jvm.Cond.code y_26 jdk_89_method_18_code (1 : Nat) (Option.some Jvm.ClassFile.FieldType.int), Jvm.Cond.code y_27 jdk_89_method_15_code (1 : Nat) (Option.some Jvm.ClassFile.FieldType.boolean), Jvm.Cond.code y_28 jdk_89_method_19_code (2 : Nat) (Option.some Jvm.ClassFile.FieldType.int)]
set_option maxRecDepth 65536 in
theorem codes_eq : words1.filter isCode = codes1 := rfl
theorem w_codes : ∀ c ∈ words1.filter isCode, c.before args0 about1 = true := by
  rw [codes_eq]
  intro c hc
  simp only [codes1, List.mem_cons, List.not_mem_nil, or_false] at hc
  rcases hc with rfl | rfl | rfl | rfl | rfl | rfl | rfl | rfl | rfl | rfl | rfl | rfl | rfl | rfl | rfl | rfl | rfl | rfl | rfl | rfl | rfl | rfl | rfl | rfl | rfl | rfl | rfl | rfl | rfl | rfl
  · exact w_c0
  · exact w_c1
  · exact w_c2
  · exact w_c3
  · exact w_c4
  · exact w_c5
  · exact w_c6
  · exact w_c7
  · exact w_c8
  · exact w_c9
  · exact w_c10
  · exact w_c11
  · exact w_c12
  · exact w_c13
  · exact w_c14
  · exact w_c15
  · exact w_c16
  · exact w_c17
  · exact w_c18
  · exact w_c19
  · exact w_c20
  · exact w_c21
  · exact w_c22
  · exact w_c23
  · exact w_c24
  · exact w_c25
  · exact w_c26
  · exact w_c27
  · exact w_c28
  · exact w_c29
set_option maxRecDepth 65536 in
theorem w_t1 : (words1.take 24).all (fun c => isCode c || c.before args0 about1) = true := by decide +kernel
set_option maxRecDepth 65536 in
theorem w_t2 : ((words1.drop 24).take 24).all (fun c => isCode c || c.before args0 about1) = true := by decide +kernel
set_option maxRecDepth 65536 in
theorem w_t3 : (((words1.drop 24).drop 24).take 24).all (fun c => isCode c || c.before args0 about1) = true := by decide +kernel
set_option maxRecDepth 65536 in
theorem w_t4 : ((((words1.drop 24).drop 24).drop 24).take 24).all (fun c => isCode c || c.before args0 about1) = true := by decide +kernel
set_option maxRecDepth 65536 in
theorem w_t5 : (((((words1.drop 24).drop 24).drop 24).drop 24).take 24).all (fun c => isCode c || c.before args0 about1) = true := by decide +kernel
set_option maxRecDepth 65536 in
theorem w_t6 : (((((words1.drop 24).drop 24).drop 24).drop 24).drop 24).all (fun c => isCode c || c.before args0 about1) = true := by decide +kernel
theorem w_tables : (allAtoms (Jvm.Cond.code x code maxLocals ret :: tables_1)).before args0 about1 = true := by
  rw [allAtoms_all]
  show words1.all (fun c => c.before args0 about1) = true
  refine all_split ?_ w_codes
  rw [← List.take_append_drop 24 words1, List.all_append, w_t1, ← List.take_append_drop 24 (words1.drop 24), List.all_append, w_t2, ← List.take_append_drop 24 ((words1.drop 24).drop 24), List.all_append, w_t3, ← List.take_append_drop 24 (((words1.drop 24).drop 24).drop 24), List.all_append, w_t4, ← List.take_append_drop 24 ((((words1.drop 24).drop 24).drop 24).drop 24), List.all_append, w_t5, w_t6]
  rfl
set_option maxRecDepth 65536 in
theorem w_rest : rest_1_c.before args0 about1 = true := by decide +kernel
set_option maxRecDepth 65536 in
theorem w_case : (Jvm.Cond.and given_1 narrow_1).before args0 about1 = true := by decide +kernel
set_option maxRecDepth 65536 in
theorem w_consts : constsHeld consts_1 about1 := Jvm.Lit.constsHeldB_iff.mp (by decide +kernel)
theorem w_applies : (headSpec (Jvm.Cond.code x code maxLocals ret :: tables_1) room_1).applies x e0.platform about1 = true :=
  (Spec.applies_iff w_frames).mpr ⟨w_running, w_runnable, w_alone, w_named, w_hears, w_ripe, w_room, w_tables⟩
theorem atStart : AtStart classFile x code maxLocals ret World_1 tables_1 room_1 Calls_1 rest_1 Pre_1 launch0 p0 e0 about1 theMethod args0 below0 :=
  ⟨lists_1, trivial, launch0.admits_env _ _ _, launch0.least_env, fairChoices_fair.cas, fairChoices_fair.clock, w_frames, w_args, w_heap, w_applies, ⟨w_consts, trivial⟩, w_rest, w_case⟩
end start1
theorem witness_1 : WitnessClaimed_1 := ⟨start1.p0, start1.e0, start1.about1, start1.theMethod, start1.args0, start1.below0, start1.atStart⟩
end Jvm.Pilot.@@N@@
