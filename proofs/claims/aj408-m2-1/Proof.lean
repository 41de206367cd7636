import JvmDerived
import JvmDerived.Pilot.@@N@@Statement
import JvmDerived.Pilot.@@N@@Code
set_option linter.unusedVariables false
set_option linter.unusedSimpArgs false
namespace Jvm.Pilot.@@N@@
open Jvm Jvm.ClassFile Sem Op Lib Jvm.Free Jvm.Stand Jvm.LawKit Jvm.RoadKit Bundle Jvm.Pilot.@@N@@.Jvm.D
section OwnBase
variable {p : Program} {l : Launch} {e : Env} {R : Room} {s : State} {m : MethodId} {args : Array Value} {below : List Frame} {meth : Method} {c : Code} {T : State} {locs : List Loc} {cells slots : Nat} {Z : State} {a0 : Array Value} {h h' : Heap} {n0 : Nat}
theorem own_q (hw : ∀ d ∈ tables_1, d.before a0 Z = true) (i : Nat) {d : Jvm.Cond} (h : tables_1[i]? = some d) : d.before a0 Z = true := hw d (List.mem_of_getElem? h)
theorem own_lt {a b : Nat} (h : Nat.blt a b = true) : a < b := by simpa [Nat.blt_eq] using h
/-- from A the run comes to B -/
def OGo (tb : Tables) (e : Env) (below : List Frame) (A B : State) : Prop := ∀ t, Steps tb e below B t → Steps tb e below A t
theorem own_body {y : MethodName} {bytes : ByteArray} {maxL : Nat} {ret : Option FieldType} {rm : Room} {as' : Array Value} {h0 : Heap} {r : Option Value} {P : Heap → Prop} (hpl : plainFor y = true) (hv : ret = none → r = none) (ws : List Jvm.Cond)
    (K : ∀ (p : Program) (e : Env) (s : State) (m : MethodId) (below : List Frame) (meth : Method) (c : Code) (s₁ S0 : State), p.tables.exec = Jvm.exec → c.code = bytes → c.maxLocals = maxL → s.vm.findClass y.cls = some m.cls → meth.name = y.name → meth.sig.returnType = ret → Z.Warmed39 s.vm → Stand p l e rm s m as' below meth c s₁ [] 0 0 → s₁.heap = h0 → OGo p.tables e below S0 (s₁.setTop (entryFrame m as' maxL)) →
      ∃ (T : State) (locs : List Loc) (cells slots : Nat), Stand p l e rm s m as' below meth c T locs cells slots ∧ cells ≤ rm.cells ∧ slots ≤ rm.slots ∧ Fr n0 locs ∧ P T.heap ∧ ∀ fs, (∀ (f : JFrame) (acts : List Action), f.method = m → f.locked = none → f.entered = [] → (doReturn e (T.setTop f) acts r).1 = T.setFrames fs) → Steps p.tables e below S0 (T.setFrames fs)) :
    MetFree l y (head1 (Jvm.Cond.code y bytes maxL ret :: ws) rm) (fun a U => a = as' ∧ Z.Warmed39 U.vm ∧ U.heap = h0) (fun _ _ _ _ _ => True) (fun _ U o U' => ∃ v L, o = .returned v ∧ (v = r ∧ Fr n0 L ∧ P U'.heap) ∧ FrameEnd U o U' L rm.cells rm.slots) := by
  refine MetFree.of_bodySF hpl hisR ?_
  intro p e s m args below meth c s₁ Bd hml0 hP hK
  obtain ⟨rfl, hZ, hh⟩ := hP
  obtain ⟨T, locs, cells, slots, X, hc, hs, N, hP, hgo⟩ := K p e s m below meth c s₁ _ Bd.exec Bd.bytes hml0 (findClass_of_methodNamed Bd.named) (name_of_methodNamed Bd.named Bd.method).1 Bd.returns hZ (Stand.of_body Bd) (by rw [← hh, Bd.state]; rfl) (fun t k => k)
  obtain ⟨fs, hr, hrun, hended, hW, hsame⟩ := X.leave (v := r) (fun h => hv (Bd.returns.symm.trans h))
  exact ⟨_, _, hgo fs hr, hrun, hended, _, _, rfl, ⟨rfl, N, hP⟩, ⟨_, rfl⟩, hW, hsame.mono hc hs⟩
/-- what a callee's theorem says -/
abbrev OMet (l : Launch) (Z : State) (n0 : Nat) (y : MethodName) (bytes : ByteArray) (maxL : Nat) (ret : Option FieldType) (rm : Room) (as' : Array Value) (h0 : Heap) (r : Option Value) (P : Heap → Prop) : Prop :=
  MetFree l y (head1 [Jvm.Cond.code y bytes maxL ret] rm) (fun a U => a = as' ∧ Z.Warmed39 U.vm ∧ U.heap = h0) (fun _ _ _ _ _ => True) (fun _ U o U' => ∃ v L, o = .returned v ∧ (v = r ∧ Fr n0 L ∧ P U'.heap) ∧ FrameEnd U o U' L rm.cells rm.slots)
theorem own_bodyM {y : MethodName} {bytes : ByteArray} {maxL : Nat} {ret : Option FieldType} {rm : Room} {as' : Array Value} {h0 : Heap} {r : Option Value} {P : Heap → Prop} (hpl : plainFor y = true) (hv : ret = none → r = none)
    (K : ∀ (p : Program) (e : Env) (s : State) (m : MethodId) (below : List Frame) (meth : Method) (c : Code) (s₁ S0 : State), p.tables.exec = Jvm.exec → c.code = bytes → c.maxLocals = maxL → s.vm.findClass y.cls = some m.cls → meth.name = y.name → meth.sig.returnType = ret → Z.Warmed39 s.vm → Stand p l e rm s m as' below meth c s₁ [] 0 0 → s₁.heap = h0 → OGo p.tables e below S0 (s₁.setTop (entryFrame m as' maxL)) →
      ∃ (T : State) (locs : List Loc) (cells slots : Nat), Stand p l e rm s m as' below meth c T locs cells slots ∧ cells ≤ rm.cells ∧ slots ≤ rm.slots ∧ Fr n0 locs ∧ P T.heap ∧ ∀ fs, (∀ (f : JFrame) (acts : List Action), f.method = m → f.locked = none → f.entered = [] → (doReturn e (T.setTop f) acts r).1 = T.setFrames fs) → Steps p.tables e below S0 (T.setFrames fs)) : OMet l Z n0 y bytes maxL ret rm as' h0 r P := own_body hpl hv [] K
theorem own_callV (X : Stand p l e R s m args below meth c T locs cells slots) (hx : p.tables.exec = Jvm.exec) (hZ : Z.Warmed39 s.vm) {own C : String} {index : Nat} {y : MethodName} (hown : s.vm.findClass own = some m.cls) {bytes : ByteArray} {maxL : Nat} {ret : Option FieldType}
    (w1 : (Jvm.Cond.methodLink own index y).before a0 Z = true) (w2 : (Jvm.Cond.declares y).before a0 Z = true) (w3 : (Jvm.Cond.selects C y y).before a0 Z = true) (w4 : (Jvm.Cond.instanceMethod y).before a0 Z = true) (w5 : (Jvm.Cond.code y bytes maxL ret).before a0 Z = true) (w6 : (Jvm.Cond.initialized y.cls).before a0 Z = true)
    (hy : y.cls ≠ "java/lang/invoke/MethodHandle" ∧ y.cls ≠ "java/lang/invoke/VarHandle") {rm : Room} {W : Nat} {as' : Array Value} {r : Option Value} {P : Heap → Prop} (hM : OMet l Z n0 y bytes maxL ret rm as' h r P) (eT : T.heap = h) {b : Addr} (E : Exa Z h b C) (N : Fr n0 locs)
    (hf : rm.frames + 1 ≤ R.frames) (hl : W + (maxL + 11) + rm.locals ≤ R.locals) (hcl : cells + rm.cells ≤ R.cells) (hsl : slots + rm.slots ≤ R.slots) {g : JFrame} (hg : g.method = m) (hsize : g.locals.size = c.maxLocals) {argsL rest : List Value}
    (hlen : ∀ sig, parseMethodDescriptor y.desc = some sig → argsL.length = sig.parameters.length) (hstack : g.stack = argsL.reverse ++ .ref b :: rest) (has : (.ref b :: argsL).toArray = as') (hW : 2 * g.monitorRoom + (rest.map fun v => v.category).sum ≤ W) (hdg : decode c.code g.pc = .ok (.invokevirtual index, 3)) :
    ∃ (T' : State) (locs' : List Loc), Stand p l e R s m args below meth c T' locs' (cells + rm.cells) (slots + rm.slots) ∧ Fr n0 locs' ∧ P T'.heap ∧ ∀ target, Steps p.tables e below (T'.setTop { g with pc := g.pc + 3, stack := r.toList ++ rest }) target → Steps p.tables e below (T.setTop g) target := by
  obtain ⟨cq, kq, q1, q2, q3⟩ := isOf hZ eT E
  obtain ⟨_, _, ⟨T', L, k, n⟩, -, X', ⟨Lc, ⟨rfl, N', hP⟩, l1, y1, z1⟩, st⟩ := X.virtualBack hx (y := y) (z := y) hown (mvT hZ w1) (mvT hZ w2) (notFace_of_selects (args := #[]) (mvT hZ w3)) (mvT hZ w3) (mvT hZ w4) hy (backOf (W := W) (Q := fun v h L => v = r ∧ Fr n0 L ∧ P h) hM hZ w5 w6 hf hl) q1 q3 (g := g) hg hsize (Steps.refl _) (argsL := argsL) (rest := rest) hlen hstack hW hdg (fun _ _ => ⟨has, eT, hcl, hsl⟩)
  dsimp only [Pt.U, Pt.locs, Pt.cells, Pt.slots] at X' l1 y1 z1 st N' hP
  subst l1 y1 z1
  exact ⟨T', _, X', N.app N', hP, fun t k => st.trans k⟩
theorem own_callS (X : Stand p l e R s m args below meth c T locs cells slots) (hx : p.tables.exec = Jvm.exec) (hZ : Z.Warmed39 s.vm) {own : String} {index : Nat} {y : MethodName} (hown : s.vm.findClass own = some m.cls) {bytes : ByteArray} {maxL : Nat} {ret : Option FieldType}
    (w1 : (Jvm.Cond.methodLink own index y).before a0 Z = true) (w2 : (Jvm.Cond.static y).before a0 Z = true) (w5 : (Jvm.Cond.code y bytes maxL ret).before a0 Z = true) (w6 : (Jvm.Cond.initialized y.cls).before a0 Z = true)
    (hy : y.cls ≠ "java/lang/invoke/MethodHandle" ∧ y.cls ≠ "java/lang/invoke/VarHandle") {rm : Room} {W : Nat} {as' : Array Value} {r : Option Value} {P : Heap → Prop} (hM : OMet l Z n0 y bytes maxL ret rm as' h r P) (eT : T.heap = h) (N : Fr n0 locs)
    (hf : rm.frames + 1 ≤ R.frames) (hl : W + (maxL + 11) + rm.locals ≤ R.locals) (hcl : cells + rm.cells ≤ R.cells) (hsl : slots + rm.slots ≤ R.slots) {g : JFrame} (hg : g.method = m) (hsize : g.locals.size = c.maxLocals) {argsL rest : List Value}
    (hlen : ∀ sig, parseMethodDescriptor y.desc = some sig → argsL.length = sig.parameters.length) (hstack : g.stack = argsL.reverse ++ rest) (has : argsL.toArray = as') (hW : 2 * g.monitorRoom + (rest.map fun v => v.category).sum ≤ W) (hdg : decode c.code g.pc = .ok (.invokestatic index, 3)) :
    ∃ (T' : State) (locs' : List Loc), Stand p l e R s m args below meth c T' locs' (cells + rm.cells) (slots + rm.slots) ∧ Fr n0 locs' ∧ P T'.heap ∧ ∀ target, Steps p.tables e below (T'.setTop { g with pc := g.pc + 3, stack := r.toList ++ rest }) target → Steps p.tables e below (T.setTop g) target := by
  obtain ⟨_, _, ⟨T', L, k, n⟩, -, X', ⟨Lc, ⟨rfl, N', hP⟩, l1, y1, z1⟩, st⟩ := Jvm.LawKit.callS X hx (y := y) hown (mvT hZ w1) (mvT hZ w2) (mvT hZ w6) (mvT hZ w5) hy (backOf (W := W) (Q := fun v h L => v = r ∧ Fr n0 L ∧ P h) hM hZ w5 w6 hf hl) (g := g) hg hsize (argsL := argsL) (rest := rest) hlen hstack hW hdg (fun _ _ => ⟨has, eT, hcl, hsl⟩)
  dsimp only [Pt.U, Pt.locs, Pt.cells, Pt.slots] at X' l1 y1 z1 st N' hP
  subst l1 y1 z1
  exact ⟨T', _, X', N.app N', hP, st⟩
theorem own_callI (X : Stand p l e R s m args below meth c T locs cells slots) (hx : p.tables.exec = Jvm.exec) (hZ : Z.Warmed39 s.vm) {own : String} {index : Nat} {y : MethodName} (hy1 : y.name = "<init>") (hown : s.vm.findClass own = some m.cls) {bytes : ByteArray} {maxL : Nat}
    (w1 : (Jvm.Cond.methodLink own index y).before a0 Z = true) (w4 : (Jvm.Cond.instanceMethod y).before a0 Z = true) (w5 : (Jvm.Cond.code y bytes maxL none).before a0 Z = true) (w6 : (Jvm.Cond.initialized y.cls).before a0 Z = true)
    (hy : y.cls ≠ "java/lang/invoke/MethodHandle" ∧ y.cls ≠ "java/lang/invoke/VarHandle") {rm : Room} {W : Nat} {as' : Array Value} {r : Option Value} {P : Heap → Prop} (hM : OMet l Z n0 y bytes maxL none rm as' h r P) (eT : T.heap = h) {b : Addr} (N : Fr n0 locs)
    (hf : rm.frames + 1 ≤ R.frames) (hl : W + (maxL + 11) + rm.locals ≤ R.locals) (hcl : cells + rm.cells ≤ R.cells) (hsl : slots + rm.slots ≤ R.slots) {g : JFrame} (hg : g.method = m) (hsize : g.locals.size = c.maxLocals) {argsL rest : List Value}
    (hlen : ∀ sig, parseMethodDescriptor y.desc = some sig → argsL.length = sig.parameters.length) (hstack : g.stack = argsL.reverse ++ .ref b :: rest) (has : (.ref b :: argsL).toArray = as') (hW : 2 * g.monitorRoom + (rest.map fun v => v.category).sum ≤ W) (hdg : decode c.code g.pc = .ok (.invokespecial index, 3)) :
    ∃ (T' : State) (locs' : List Loc), Stand p l e R s m args below meth c T' locs' (cells + rm.cells) (slots + rm.slots) ∧ Fr n0 locs' ∧ P T'.heap ∧ ∀ target, Steps p.tables e below (T'.setTop { g with pc := g.pc + 3, stack := r.toList ++ rest }) target → Steps p.tables e below (T.setTop g) target := by
  obtain ⟨_, _, ⟨T', L, k, n⟩, -, X', ⟨Lc, ⟨rfl, N', hP⟩, l1, y1, z1⟩, st⟩ := X.specialBack hx (y := y) hy1 hown (mvT hZ w1) (mvT hZ w4) (mvT hZ w5) hy (backOf (W := W) (Q := fun v h L => v = r ∧ Fr n0 L ∧ P h) hM hZ w5 w6 hf hl) (g := g) hg hsize (Steps.refl _) (a := b) (argsL := argsL) (rest := rest) hlen hstack hW hdg (fun _ _ => ⟨has, eT, hcl, hsl⟩)
  dsimp only [Pt.U, Pt.locs, Pt.cells, Pt.slots] at X' l1 y1 z1 st N' hP
  subst l1 y1 z1
  exact ⟨T', _, X', N.app N', hP, fun t k => st.trans k⟩
theorem own_callP (X : Stand p l e R s m args below meth c T locs cells slots) (hx : p.tables.exec = Jvm.exec) (hZ : Z.Warmed39 s.vm) {own : String} {index kk : Nat} {y : MethodName} (hown : s.vm.findClass own = some m.cls) {bytes : ByteArray} {maxL : Nat} {ret : Option FieldType}
    (w1 : (Jvm.Cond.methodLink own index y).before a0 Z = true) (w2 : (Jvm.Cond.privateMethod y).before a0 Z = true) (w3 : (Jvm.Cond.instantiable y.cls kk).before a0 Z = true) (w4 : (Jvm.Cond.instanceMethod y).before a0 Z = true) (w5 : (Jvm.Cond.code y bytes maxL ret).before a0 Z = true) (w6 : (Jvm.Cond.initialized y.cls).before a0 Z = true)
    (hy : y.cls ≠ "java/lang/invoke/MethodHandle" ∧ y.cls ≠ "java/lang/invoke/VarHandle") {rm : Room} {W : Nat} {as' : Array Value} {r : Option Value} {P : Heap → Prop} (hM : OMet l Z n0 y bytes maxL ret rm as' h r P) (eT : T.heap = h) {b : Addr} {C : String} (E : Exa Z h b C) (N : Fr n0 locs)
    (hf : rm.frames + 1 ≤ R.frames) (hl : W + (maxL + 11) + rm.locals ≤ R.locals) (hcl : cells + rm.cells ≤ R.cells) (hsl : slots + rm.slots ≤ R.slots) {g : JFrame} (hg : g.method = m) (hsize : g.locals.size = c.maxLocals) {argsL rest : List Value}
    (hlen : ∀ sig, parseMethodDescriptor y.desc = some sig → argsL.length = sig.parameters.length) (hstack : g.stack = argsL.reverse ++ .ref b :: rest) (has : (.ref b :: argsL).toArray = as') (hW : 2 * g.monitorRoom + (rest.map fun v => v.category).sum ≤ W) (hdg : decode c.code g.pc = .ok (.invokevirtual index, 3)) :
    ∃ (T' : State) (locs' : List Loc), Stand p l e R s m args below meth c T' locs' (cells + rm.cells) (slots + rm.slots) ∧ Fr n0 locs' ∧ P T'.heap ∧ ∀ target, Steps p.tables e below (T'.setTop { g with pc := g.pc + 3, stack := r.toList ++ rest }) target → Steps p.tables e below (T.setTop g) target := by
  obtain ⟨cq, q, q'⟩ := E.cell
  have hpr : s.PrivateAt y := Cond.privateMethod_at (mvP hZ w2 (args := #[]))
  obtain ⟨ci, ki, i1, i2, -, i4, -⟩ := Cond.instantiable_spec (mvT (args := #[]) hZ w3)
  have hsel : (Jvm.Cond.selects y.cls y y).before args s = true := selects_self_of_private i1 i2 (by simp only [Bool.or_eq_false_iff] at i4; exact i4.1) hpr (mvT hZ w4) hy
  obtain ⟨_, _, ⟨T', L, k, n⟩, -, X', ⟨Lc, ⟨rfl, N', hP⟩, l1, y1, z1⟩, st⟩ := X.privateBack hx (y := y) hown (mvT hZ w1) (mvT hZ w4) hsel hpr (mvT hZ w5) hy (backOf (W := W) (Q := fun v h L => v = r ∧ Fr n0 L ∧ P h) hM hZ w5 w6 hf hl) (g := g) hg hsize (Steps.refl _) (a := b) (by rw [eT]; exact q) q' (argsL := argsL) (rest := rest) hlen hstack hW hdg (fun _ _ => ⟨has, eT, hcl, hsl⟩)
  dsimp only [Pt.U, Pt.locs, Pt.cells, Pt.slots] at X' l1 y1 z1 st N' hP
  subst l1 y1 z1
  exact ⟨T', _, X', N.app N', hP, fun t k => st.trans k⟩
/-- the fields of one object, by their places in the list of names -/
def OFl (Z : State) (h : Heap) (C : String) (FN : List (String × String)) (b : Addr) (vs : List Value) : Prop := ∀ (k : Nat) (n d : String) (v : Value), FN[k]? = some (n, d) → vs[k]? = some v → Fld Z h b C n d v
def ODist (Z : State) (C : String) (FN : List (String × String)) : Prop := ∀ (j k : Nat) (x y : String × String), FN[j]? = some x → FN[k]? = some y → j ≠ k → Jvm.RoadKit.slotOf Z C x.1 x.2 ≠ Jvm.RoadKit.slotOf Z C y.1 y.2
/-- an array: her length, her first components, the others at the first value -/
def OAry (Z : State) (h : Heap) (n0 : Nat) (x : Addr × FieldType × Nat × List Value) : Prop := n0 ≤ x.1 ∧ ∃ c : Cell, Arr Z h x.1 c x.2.1 ∧ c.slots.size = x.2.2.1 ∧ ∀ k, k < x.2.2.1 → c.slots[k]? = some (x.2.2.2.getD k (defaultValue x.2.1))
def OArs (Z : State) (h : Heap) (n0 : Nat) (as : List (Addr × FieldType × Nat × List Value)) : Prop := (∀ (k : Nat) x, as[k]? = some x → OAry Z h n0 x) ∧ ∀ (j k : Nat) x y, as[j]? = some x → as[k]? = some y → j ≠ k → x.1 ≠ y.1
def OHp (Z : State) (h : Heap) (n0 : Nat) (C : String) (FN : List (String × String)) (b : Addr) (vs : List Value) (as : List (Addr × FieldType × Nat × List Value)) : Prop := n0 ≤ b ∧ Exa Z h b C ∧ OFl Z h C FN b vs ∧ OArs Z h n0 as
variable {C : String} {FN : List (String × String)} {b : Addr} {vs : List Value} {as : List (Addr × FieldType × Nat × List Value)}
theorem OAry.ext {x : Addr × FieldType × Nat × List Value} (E : Ext h h') (A : OAry Z h n0 x) : OAry Z h' n0 x := by
  obtain ⟨q, c, A, r⟩ := A; exact ⟨q, c, A.ext E, r⟩
theorem OAry.other {x : Addr × FieldType × Nat × List Value} {a : Addr} {sl : Nat} {v : Value} (W : Wr h h' a sl v) (A : OAry Z h n0 x) (ne : x.1 ≠ a) : OAry Z h' n0 x := by
  obtain ⟨q, c, A, r⟩ := A; exact ⟨q, c, A.other W ne, r⟩
theorem OAry.lt {x : Addr × FieldType × Nat × List Value} (A : OAry Z h n0 x) : x.1 < h.size := by obtain ⟨q, c, A, r⟩ := A; exact A.lt
theorem OArs.nil (Z : State) (h : Heap) (n0 : Nat) : OArs Z h n0 [] := ⟨fun k x q => by simp at q, fun j k x y q => by simp at q⟩
theorem OArs.ext (E : Ext h h') (A : OArs Z h n0 as) : OArs Z h' n0 as := ⟨fun k x q => (A.1 k x q).ext E, A.2⟩
theorem OFl.ext (E : Ext h h') (F : OFl Z h C FN b vs) : OFl Z h' C FN b vs := fun k n d v q r => (F k n d v q r).ext E
theorem OHp.ext (E : Ext h h') (H : OHp Z h n0 C FN b vs as) : OHp Z h' n0 C FN b vs as := ⟨H.1, H.2.1.ext E, H.2.2.1.ext E, H.2.2.2.ext E⟩
theorem OArs.snoc (A : OArs Z h n0 as) (E : Ext h h') {x : Addr × FieldType × Nat × List Value} (hx : OAry Z h' n0 x) (hn : h.size ≤ x.1) : OArs Z h' n0 (as ++ [x]) := by
  have key : ∀ (k : Nat) y, (as ++ [x])[k]? = some y → (as[k]? = some y ∧ k < as.length) ∨ (y = x ∧ k = as.length) := fun k y q => by
    by_cases hk : k < as.length
    · rw [List.getElem?_append_left hk] at q; exact Or.inl ⟨q, hk⟩
    · rw [List.getElem?_append_right (Nat.le_of_not_lt hk)] at q
      have h0 : k - as.length = 0 := by
        cases hq : k - as.length with
        | zero => rfl
        | succ j => rw [hq] at q; simp at q
      rw [h0] at q
      exact Or.inr ⟨by simpa using q.symm, by omega⟩
  refine ⟨fun k y q => ?_, fun j k y z qj qk ne => ?_⟩
  · rcases key k y q with ⟨q, -⟩ | ⟨rfl, -⟩
    · exact (A.1 k y q).ext E
    · exact hx
  · rcases key j y qj with ⟨qj, hj⟩ | ⟨ey, hj⟩ <;> rcases key k z qk with ⟨qk, hk⟩ | ⟨ez, hk⟩
    · exact A.2 j k y z qj qk ne
    · have := (A.1 j y qj).lt; rw [ez]; exact fun q => absurd (q ▸ this) (Nat.not_lt.mpr hn)
    · have := (A.1 k z qk).lt; rw [ey]; exact fun q => absurd (q.symm ▸ this) (Nat.not_lt.mpr hn)
    · omega
theorem OFl.other {a : Addr} {sl : Nat} {v : Value} (W : Wr h h' a sl v) (F : OFl Z h C FN b vs) (ne : b ≠ a) : OFl Z h' C FN b vs := fun k n d w q r => (F k n d w q r).other W (Or.inl ne)
theorem OFl.put {n d : String} {k : Nat} {v old : Value} (D : ODist Z C FN) (F : OFl Z h C FN b vs) (hk : FN[k]? = some (n, d)) (ho : vs[k]? = some old) (W : Wr h h' b (Jvm.RoadKit.slotOf Z C n d) v) : OFl Z h' C FN b (vs.set k v) := fun j n' d' w q r => by
  by_cases e : k = j
  · subst e
    cases q.symm.trans hk
    have hlt := (List.getElem?_eq_some_iff.mp ho).1
    rw [List.getElem?_set_self hlt] at r
    cases r
    exact (F k _ _ _ hk ho).same W
  · rw [List.getElem?_set_ne e] at r
    have hne := D j k (n', d') (n, d) q hk (Ne.symm e)
    exact (F j n' d' w q r).other W (Or.inr hne)
theorem OArs.put (A : OArs Z h n0 as) {a : Addr} {sl : Nat} {v : Value} (W : Wr h h' a sl v) (ne : ∀ (k : Nat) x, as[k]? = some x → x.1 ≠ a) : OArs Z h' n0 as := ⟨fun k x q => (A.1 k x q).other W (ne k x q), A.2⟩
theorem OAry.set {a : Addr} {ty : FieldType} {n j : Nat} {ws : List Value} {v : Value} (A : OAry Z h n0 (a, ty, n, ws)) (W : Wr h h' a j v) (hj : j < ws.length) : OAry Z h' n0 (a, ty, n, ws.set j v) := by
  obtain ⟨q, c, A, S, H⟩ := A
  refine ⟨q, _, A.same W, by rw [sz_set]; exact S, fun k hk => ?_⟩
  have hc : k < c.slots.size := S ▸ hk
  by_cases e : j = k
  · subst e; simp [Cell.setSlot, hc, hj]
  · have := H k hk; simp only [Cell.setSlot, List.getD_eq_getElem?_getD] at this ⊢
    rw [Array.getElem?_setIfInBounds_ne e, List.getElem?_set_ne e]; exact this
theorem OArs.set {a : Addr} {ty : FieldType} {n j k : Nat} {ws : List Value} {v : Value} (A : OArs Z h n0 as) (hk : as[k]? = some (a, ty, n, ws)) (W : Wr h h' a j v) (hj : j < ws.length) : OArs Z h' n0 (as.set k (a, ty, n, ws.set j v)) := by
  have hlt := (List.getElem?_eq_some_iff.mp hk).1
  have key : ∀ (i : Nat) y, (as.set k (a, ty, n, ws.set j v))[i]? = some y → (i = k ∧ y = (a, ty, n, ws.set j v)) ∨ (i ≠ k ∧ as[i]? = some y) := fun i y q => by
    by_cases e : k = i
    · subst e; rw [List.getElem?_set_self hlt] at q; exact Or.inl ⟨rfl, (Option.some.inj q).symm⟩
    · rw [List.getElem?_set_ne e] at q; exact Or.inr ⟨Ne.symm e, q⟩
  refine ⟨fun i y q => ?_, fun i i' y z qi qi' ne => ?_⟩
  · rcases key i y q with ⟨rfl, rfl⟩ | ⟨e, q⟩
    · exact (A.1 _ _ hk).set W hj
    · exact (A.1 i y q).other W (A.2 i k y _ q hk e)
  · rcases key i y qi with ⟨e, ey⟩ | ⟨e, q⟩ <;> rcases key i' z qi' with ⟨e', ez⟩ | ⟨e', q'⟩
    · exact absurd (e.trans e'.symm) ne
    · rw [ey]; exact A.2 k i' (a, ty, n, ws) z hk q' (Ne.symm e')
    · rw [ez]; exact A.2 i k y (a, ty, n, ws) q hk e
    · exact A.2 _ _ _ _ q q' ne
theorem own_getF (X : Stand p l e R s m args below meth c T locs cells slots) (hx : p.tables.exec = Jvm.exec) (hZ : Z.Warmed39 s.vm) {own n d : String} {index k : Nat} (hown : s.vm.findClass own = some m.cls) (w : (Jvm.Cond.fieldLink own index C n d).before a0 Z = true) (eT : T.heap = h)
    (H : OHp Z h n0 C FN b vs as) (hk : FN[k]? = some (n, d)) {v : Value} (hv : vs[k]? = some v) {g : JFrame} (hg : g.method = m) {rest : List Value} (hs : g.stack = .ref b :: rest) (hd : decode c.code g.pc = .ok (.getfield index, 3)) :
    ∃ T', Stand p l e R s m args below meth c T' locs cells slots ∧ T'.heap = h ∧ ∀ target, Steps p.tables e below (T'.setTop { g with pc := g.pc + 3, stack := v :: rest }) target → Steps p.tables e below (T.setTop g) target :=
  getF X hx hZ hown (host := "") (Or.inl w) Via.refl eT (H.2.2.1 k n d v hk hv) hg hs hd
theorem own_putF (X : Stand p l e R s m args below meth c T locs cells slots) (hx : p.tables.exec = Jvm.exec) (hZ : Z.Warmed39 s.vm) {own n d : String} {index k kk : Nat} (hown : s.vm.findClass own = some m.cls) (w : (Jvm.Cond.fieldLink own index C n d).before a0 Z = true) (eT : T.heap = h)
    (H : OHp Z h n0 C FN b vs as) (D : ODist Z C FN) (wi : (Jvm.Cond.instantiable C kk).before a0 Z = true) (hk : FN[k]? = some (n, d)) {v old : Value} (ho : vs[k]? = some old) (L : (Jvm.Cond.lays C C n d).before a0 Z = true ∨ ((Jvm.Cond.laysFinal C C n d).before a0 Z = true ∧ own = C ∧ meth.name = "<init>"))
    {ty : FieldType} (hty : parseFieldDescriptor d = some ty) (hn : narrow ty v = v) (hf : fits ty v = true) (N : Fr n0 locs) {vs' : List Value} (hvs : vs.set k v = vs') {g : JFrame} (hg : g.method = m) {rest : List Value} (hs : g.stack = v :: .ref b :: rest) (hd : decode c.code g.pc = .ok (.putfield index, 3)) :
    ∃ (T' : State) (h' : Heap) (locs' : List Loc), Stand p l e R s m args below meth c T' locs' cells slots ∧ T'.heap = h' ∧ Fr n0 locs' ∧ OHp Z h' n0 C FN b vs' as ∧ ∀ target, Steps p.tables e below (T'.setTop { g with pc := g.pc + 3, stack := rest }) target → Steps p.tables e below (T.setTop g) target := by
  obtain ⟨T', h', X', e', W, st⟩ := putF X hx hZ hown (host := "") (Or.inl w) Via.refl eT (H.2.2.1 k n d old hk ho) H.2.1 L wi hty hn hf hg hs hd
  subst hvs
  refine ⟨T', h', _, X', e', Fr.snoc X' N H.1, ⟨H.1, H.2.1.wr W, H.2.2.1.put D hk ho W, H.2.2.2.put W fun j x q => ?_⟩, st⟩
  obtain ⟨-, cx, A, -⟩ := H.2.2.2.1 j x q
  exact Ne.symm (ne_arr H.2.1 wi A)
theorem own_newA (X : Stand p l e R s m args below meth c T locs cells slots) (hx : p.tables.exec = Jvm.exec) (hZ : Z.Warmed39 s.vm) {aty : ArrayType} (w : (Jvm.Cond.arrayClass (newarray.typeOf aty)).before a0 Z = true) (eT : T.heap = h) (hz : n0 ≤ h.size)
    {g : JFrame} (hg : g.method = m) (hd : decode c.code g.pc = .ok (.newarray aty, 2)) {n : Int32} {rest : List Value} (hs : g.stack = .int n :: rest) (hn : ¬ n < 0) {cap : Nat} (hcap : n.toNatClampNeg = cap) (hb : cap * 8 ≤ 536870912) (hc : cells + 1 ≤ R.cells) (hl : slots + cap ≤ R.slots) (ws : List Value) (hws : ws = List.replicate ws.length (defaultValue (newarray.typeOf aty))) :
    ∃ (T' : State) (h' : Heap) (a : Addr), Stand p l e R s m args below meth c T' locs (cells + 1) (slots + cap) ∧ T'.heap = h' ∧ Ext h h' ∧ h.size ≤ a ∧ n0 ≤ h'.size ∧ OAry Z h' n0 (a, newarray.typeOf aty, cap, ws) ∧ ∀ target, Steps p.tables e below (T'.setTop { g with pc := g.pc + 2, stack := .ref a :: rest }) target → Steps p.tables e below (T.setTop g) target := by
  obtain ⟨T', h', cA, X', e', E, A, st⟩ := newP X hx hZ w eT hg hd hs hn (cap := cap) (Nat.le_of_eq hcap) hb hc hl
  refine ⟨T', h', _, X', e', E, Nat.le_refl _, Nat.le_trans hz E.1, ⟨hz, _, A, by rw [sz_new]; exact hcap, fun k hk => ?_⟩, st⟩
  have hk' : k < n.toNatClampNeg := hcap ▸ hk
  have : (newA cA (newarray.typeOf aty) n).slots[k]? = some (defaultValue (newarray.typeOf aty)) := by simp [newA, hk']
  rw [this]
  show _ = some (ws.getD k _)
  rw [hws, List.getD_eq_getElem?_getD, List.getElem?_replicate]
  split <;> rfl
theorem OHp.snoc (H : OHp Z h n0 C FN b vs as) (E : Ext h h') {x : Addr × FieldType × Nat × List Value} (hx : OAry Z h' n0 x) (hn : h.size ≤ x.1) : OHp Z h' n0 C FN b vs (as ++ [x]) := ⟨H.1, H.2.1.ext E, H.2.2.1.ext E, H.2.2.2.snoc E hx hn⟩
theorem own_stI (X : Stand p l e R s m args below meth c T locs cells slots) (hx : p.tables.exec = Jvm.exec) (hZ : Z.Warmed39 s.vm) (eT : T.heap = h) (A : OArs Z h n0 as) {k n i : Nat} {a : Addr} {ws : List Value} (hk : as[k]? = some (a, .int, n, ws)) {j x : Int32} (hj : ¬ j < 0) (hi : j.toNatClampNeg = i) (hl : i < ws.length) (hl' : i < n) (N : Fr n0 locs)
    {g : JFrame} (hg : g.method = m) {rest : List Value} (hs : g.stack = .int x :: .int j :: .ref a :: rest) (hd : decode c.code g.pc = .ok (.iastore, 1)) :
    ∃ (T' : State) (h' : Heap) (locs' : List Loc), Stand p l e R s m args below meth c T' locs' cells slots ∧ T'.heap = h' ∧ Fr n0 locs' ∧ Wr h h' a i (.int x) ∧ ∀ target, Steps p.tables e below (T'.setTop { g with pc := g.pc + 1, stack := rest }) target → Steps p.tables e below (T.setTop g) target := by
  obtain ⟨q, cl, Ar, S, -⟩ := A.1 k _ hk
  subst hi
  obtain ⟨T', h', X', e', W, st⟩ := stI X hx hZ eT Ar (j := j) (x := x) (fun z => z.elim hj (fun z => absurd z (Nat.not_le.mpr (S ▸ hl')))) hg hs hd
  exact ⟨T', h', _, X', e', Fr.snoc X' N q, W, st⟩
theorem own_stD (X : Stand p l e R s m args below meth c T locs cells slots) (hx : p.tables.exec = Jvm.exec) (hZ : Z.Warmed39 s.vm) (eT : T.heap = h) (A : OArs Z h n0 as) {k n i : Nat} {a : Addr} {ws : List Value} (hk : as[k]? = some (a, .double, n, ws)) {j : Int32} {x : UInt64} (hj : ¬ j < 0) (hi : j.toNatClampNeg = i) (hl : i < ws.length) (hl' : i < n) (N : Fr n0 locs)
    {g : JFrame} (hg : g.method = m) {rest : List Value} (hs : g.stack = .double x :: .int j :: .ref a :: rest) (hd : decode c.code g.pc = .ok (.dastore, 1)) :
    ∃ (T' : State) (h' : Heap) (locs' : List Loc), Stand p l e R s m args below meth c T' locs' cells slots ∧ T'.heap = h' ∧ Fr n0 locs' ∧ Wr h h' a i (.double x) ∧ ∀ target, Steps p.tables e below (T'.setTop { g with pc := g.pc + 1, stack := rest }) target → Steps p.tables e below (T.setTop g) target := by
  obtain ⟨q, cl, Ar, S, -⟩ := A.1 k _ hk
  subst hi
  obtain ⟨T', h', X', e', W, st⟩ := stD X hx hZ eT Ar (j := j) (x := x) (fun z => z.elim hj (fun z => absurd z (Nat.not_le.mpr (S ▸ hl')))) hg hs hd
  exact ⟨T', h', _, X', e', Fr.snoc X' N q, W, st⟩
theorem OHp.set {a : Addr} {ty : FieldType} {n j k kk : Nat} {ws : List Value} {v : Value} (H : OHp Z h n0 C FN b vs as) (wi : (Jvm.Cond.instantiable C kk).before a0 Z = true) (hk : as[k]? = some (a, ty, n, ws)) (W : Wr h h' a j v) (hj : j < ws.length) {as' : List (Addr × FieldType × Nat × List Value)} (has : as.set k (a, ty, n, ws.set j v) = as') : OHp Z h' n0 C FN b vs as' := by
  obtain ⟨-, cx, A, -⟩ := H.2.2.2.1 k _ hk
  subst has
  exact ⟨H.1, H.2.1.wr W, H.2.2.1.other W (ne_arr H.2.1 wi A), H.2.2.2.set hk W hj⟩
theorem own_dald {g : JFrame} {t : State} (X : Stand p l e R s m args below meth c T locs cells slots) (hx : p.tables.exec = Jvm.exec) (hZ : Z.Warmed39 s.vm) (eT : T.heap = h) (A : OArs Z h n0 as) {k n i : Nat} {a : Addr} {ws : List Value} (hk : as[k]? = some (a, .double, n, ws)) {j : Int32} {v : Value} (hj : ¬ j < 0) (hi : j.toNatClampNeg = i) (hl' : i < n) (hv : ws.getD i (.double 0) = v)
    (hg : g.method = m) {rest : List Value} (hs : g.stack = .int j :: .ref a :: rest) (hd : decode c.code g.pc = .ok (.daload, 1)) (hr : Steps p.tables e below (T.setTop { g with pc := g.pc + 1, stack := v :: rest }) t) : Steps p.tables e below (T.setTop g) t := by
  obtain ⟨q, cl, Ar, S, H⟩ := A.1 k _ hk
  subst hi hv
  exact X.daload hx (by rw [eT]; exact Ar.1) (State.isArrayOf_alike hZ.alike Ar.2.1) Ar.2.2 (fun z => z.elim hj (fun z => absurd z (Nat.not_le.mpr (S ▸ hl')))) (H _ hl') hg hs hd t hr
theorem own_iald {g : JFrame} {t : State} (X : Stand p l e R s m args below meth c T locs cells slots) (hx : p.tables.exec = Jvm.exec) (hZ : Z.Warmed39 s.vm) (eT : T.heap = h) (A : OArs Z h n0 as) {k n i : Nat} {a : Addr} {ws : List Value} (hk : as[k]? = some (a, .int, n, ws)) {j : Int32} {v : Value} (hj : ¬ j < 0) (hi : j.toNatClampNeg = i) (hl' : i < n) (hv : ws.getD i (.int 0) = v)
    (hg : g.method = m) {rest : List Value} (hs : g.stack = .int j :: .ref a :: rest) (hd : decode c.code g.pc = .ok (.iaload, 1)) (hr : Steps p.tables e below (T.setTop { g with pc := g.pc + 1, stack := v :: rest }) t) : Steps p.tables e below (T.setTop g) t := by
  obtain ⟨q, cl, Ar, S, H⟩ := A.1 k _ hk
  subst hi hv
  exact X.iaload hx (by rw [eT]; exact Ar.1) (State.isArrayOf_alike hZ.alike Ar.2.1) Ar.2.2 (fun z => z.elim hj (fun z => absurd z (Nat.not_le.mpr (S ▸ hl')))) (H _ hl') hg hs hd t hr
theorem own_alen {g : JFrame} {t : State} (X : Stand p l e R s m args below meth c T locs cells slots) (hx : p.tables.exec = Jvm.exec) (hZ : Z.Warmed39 s.vm) (eT : T.heap = h) (A : OArs Z h n0 as) {k n : Nat} {a : Addr} {ty : FieldType} {ws : List Value} (hk : as[k]? = some (a, ty, n, ws)) {v : Int32} (hv : n.toInt32 = v)
    (hg : g.method = m) {rest : List Value} (hs : g.stack = .ref a :: rest) (hd : decode c.code g.pc = .ok (.arraylength, 1)) (hr : Steps p.tables e below (T.setTop { g with pc := g.pc + 1, stack := .int v :: rest }) t) : Steps p.tables e below (T.setTop g) t := by
  obtain ⟨q, cl, Ar, S, H⟩ := A.1 k _ hk
  subst hv
  exact X.arraylength hx (by rw [eT]; exact Ar.1) (State.isArrayOf_alike hZ.alike Ar.2.1) hg hs hd t (by rw [show cl.slots.size = n from S]; exact hr)
theorem own_retD (X : Stand p l e R s m args below meth c T locs cells slots) (hx : p.tables.exec = Jvm.exec) {pc : Nat} {Ls : Array Slot} {z : UInt64} {rest : List Value} (hret : meth.sig.returnType = some .double) (hd : decode c.code pc = .ok (.dreturn, 1)) {fs : List Frame}
    (hl : ∀ (f : JFrame) (acts : List Action), f.method = m → f.locked = none → f.entered = [] → (doReturn e (T.setTop f) acts (some (.double z))).1 = T.setFrames fs) : Steps p.tables e below (T.setTop (mkF m pc Ls (.double z :: rest))) (T.setFrames fs) :=
  retOut X hx hret rfl (Or.inr (Or.inr (Or.inl ⟨rfl, rfl, _, rfl⟩))) hd hl
theorem own_retI (X : Stand p l e R s m args below meth c T locs cells slots) (hx : p.tables.exec = Jvm.exec) {pc : Nat} {Ls : Array Slot} {z : Int32} {rest : List Value} (hret : meth.sig.returnType = some .int) (hd : decode c.code pc = .ok (.ireturn, 1)) {fs : List Frame}
    (hl : ∀ (f : JFrame) (acts : List Action), f.method = m → f.locked = none → f.entered = [] → (doReturn e (T.setTop f) acts (some (.int z))).1 = T.setFrames fs) : Steps p.tables e below (T.setTop (mkF m pc Ls (.int z :: rest))) (T.setFrames fs) :=
  retOut X hx hret rfl (Or.inl ⟨rfl, Or.inl rfl, _, rfl⟩) hd hl
theorem own_iadd {tb : Tables} [Ours tb] {target : State} {g : JFrame} (h : At T m c below) (hx : tb.exec = Jvm.exec) (hg : g.method = m) {x y v : Int32} {rest : List Value} (hd : decode c.code g.pc = .ok (.iadd, 1)) (hs : g.stack = .int y :: .int x :: rest) (hv : x + y = v)
    (hr : Steps tb e below (T.setTop { g with pc := g.pc + 1, stack := .int v :: rest }) target) : Steps tb e below (T.setTop g) target := by
  subst hv; exact XS.iadd h hx hg hd hs hr
def own_dv (d : String) : Value := match parseFieldDescriptor d with | some ty => defaultValue ty | none => .int 0
theorem own_dist_of (hL : ∀ x ∈ FN, Laid Z a0 C C x.1 x.2 ∧ (parseFieldDescriptor x.2).isSome = true) (n : Nat) (hn : FN.length = n) (hd : ∀ j, j < n → ∀ k, k < n → j ≠ k → FN[j]?.map Prod.fst ≠ FN[k]?.map Prod.fst) : ODist Z C FN := fun j k x y qj qk ne => by
  obtain ⟨lj, pj⟩ := hL x (List.mem_of_getElem? qj)
  obtain ⟨lk, pk⟩ := hL y (List.mem_of_getElem? qk)
  obtain ⟨tj, ej⟩ := Option.isSome_iff_exists.mp pj
  obtain ⟨tk, ek⟩ := Option.isSome_iff_exists.mp pk
  have hj := (List.getElem?_eq_some_iff.mp qj).1
  have hk := (List.getElem?_eq_some_iff.mp qk).1
  have := hd j (hn ▸ hj) k (hn ▸ hk) ne
  rw [qj, qk] at this
  exact slot_ne lj lk (fun q => this (by simp [q])) ej ek
theorem own_newO (X : Stand p l e R s m args below meth c T locs cells slots) (hx : p.tables.exec = Jvm.exec) (hZ : Z.Warmed39 s.vm) {own : String} {index n : Nat} (hown : s.vm.findClass own = some m.cls) (w : (Jvm.Cond.classLink own index C).before a0 Z = true) (wi : (Jvm.Cond.instantiable C n).before a0 Z = true) (wz : (Jvm.Cond.initialized C).before a0 Z = true) (eT : T.heap = h) (hz : n0 ≤ h.size)
    (A : OArs Z h n0 as) (hL : ∀ x ∈ FN, Laid Z a0 C C x.1 x.2 ∧ (parseFieldDescriptor x.2).isSome = true) (hvs : FN.map (fun x => own_dv x.2) = vs) {g : JFrame} (hg : g.method = m) (hd : decode c.code g.pc = .ok (.new index, 3)) (hc : cells + 1 ≤ R.cells) (hl : slots + n ≤ R.slots) :
    ∃ (T' : State) (h' : Heap) (b : Addr), Stand p l e R s m args below meth c T' locs (cells + 1) (slots + n) ∧ T'.heap = h' ∧ OHp Z h' n0 C FN b vs as ∧ ∀ target, Steps p.tables e below (T'.setTop { g with pc := g.pc + 3, stack := .ref b :: g.stack }) target → Steps p.tables e below (T.setTop g) target := by
  obtain ⟨T', h', X', e', E, Ex, D, -, st⟩ := newO X hx hZ hown w wi wz eT hg hd hc hl
  refine ⟨T', h', _, X', e', ⟨hz, Ex, fun k nm d v q r => ?_, A.ext E⟩, st⟩
  obtain ⟨lj, pj⟩ := hL _ (List.mem_of_getElem? q)
  obtain ⟨tj, ej⟩ := Option.isSome_iff_exists.mp pj
  subst hvs
  rw [List.getElem?_map, q] at r
  have : v = defaultValue tj := by
    have r' : own_dv d = v := by simpa using r
    rw [← r']; show own_dv d = _; unfold own_dv; rw [ej]
  rw [this]
  exact D lj ej
theorem own_bodyW {y : MethodName} {bytes : ByteArray} {maxL : Nat} {ret : Option FieldType} {rm : Room} {as' : Array Value} {h0 : Heap} {r : Option Value} (hpl : plainFor y = true) (hv : ret = none → r = none) (ws : List Jvm.Cond)
    (K : ∀ (p : Program) (e : Env) (s : State) (m : MethodId) (below : List Frame) (meth : Method) (c : Code) (s₁ S0 : State), p.tables.exec = Jvm.exec → c.code = bytes → c.maxLocals = maxL → s.vm.findClass y.cls = some m.cls → meth.name = y.name → meth.sig.returnType = ret → Z.Warmed39 s.vm → Stand p l e rm s m as' below meth c s₁ [] 0 0 → s₁.heap = h0 → OGo p.tables e below S0 (s₁.setTop (entryFrame m as' maxL)) →
      ∃ (T : State) (locs : List Loc) (cells slots : Nat) (vm₁ : Vm) (k : Nat), Stand p l e rm (s.setVm vm₁) m as' below meth c T locs cells slots ∧ s.Since vm₁ k ∧ k ≤ T.heap.size ∧ cells ≤ rm.cells ∧ slots ≤ rm.slots ∧ Fr n0 locs ∧ ∀ fs, (∀ (f : JFrame) (acts : List Action), f.method = m → f.locked = none → f.entered = [] → (doReturn e (T.setTop f) acts r).1 = T.setFrames fs) → Steps p.tables e below S0 (T.setFrames fs)) :
    MetFree l y (head1 (Jvm.Cond.code y bytes maxL ret :: ws) rm) (fun a U => a = as' ∧ Z.Warmed39 U.vm ∧ U.heap = h0) (fun _ _ _ _ _ => True) (fun _ U o U' => ∃ v L, o = .returned v ∧ (v = r ∧ Fr n0 L) ∧ ReturnedEndW U o U' L rm.cells rm.slots) := by
  refine MetFree.of_bodySF hpl hisR ?_
  intro p e s m args below meth c s₁ Bd hml0 hP hK
  obtain ⟨rfl, hZ, hh⟩ := hP
  obtain ⟨T, locs, cells, slots, vm₁, k, X, hS, hk, hc, hs, N, hgo⟩ := K p e s m below meth c s₁ _ Bd.exec Bd.bytes hml0 (findClass_of_methodNamed Bd.named) (name_of_methodNamed Bd.named Bd.method).1 Bd.returns hZ (Stand.of_body Bd) (by rw [← hh, Bd.state]; rfl) (fun t k => k)
  obtain ⟨fs, hr, hrun, hended, h1, h2, h3, hsame⟩ := X.leaveW hS hk (v := r) (fun h => hv (Bd.returns.symm.trans h))
  exact ⟨_, _, hgo fs hr, hrun, hended, _, _, rfl, ⟨rfl, N⟩, h1, h2, h3, hsame.mono hc hs⟩
theorem own_grow {T₀ : State} (X0 : Stand p l e R s m args below meth c T₀ [] 0 0) (X : Stand p l e R s m args below meth c T locs cells slots) : T₀.heap.size ≤ T.heap.size := Nat.le_trans (show T₀.heap.size ≤ s.heap.size + 0 from X0.same.2.2.1) X.same.2.1
theorem own_iinc {tb : Tables} [Ours tb] {target : State} {g : JFrame} (h : At T m c below) (hx : tb.exec = Jvm.exec) (hg : g.method = m) {k : Nat} {cst : Int} {x v : Int32} {l' : Array Slot} (hd : decode c.code g.pc = .ok (.iinc k cst, 3)) (hl : g.locals[k]? = some (.val (.int x))) (hv : x + Int32.ofInt cst = v) (hl' : storeLocals g.locals k (.int v) = some l')
    (hr : Steps tb e below (T.setTop { g with pc := g.pc + 3, locals := l' }) target) : Steps tb e below (T.setTop g) target := by
  subst hv; exact XS.iinc h hx hg hd hl hl' hr
end OwnBase
def own_FN : List (String × String) := [("id", "Ljava/lang/String;"), ("demand", "[D"), ("parents", "[I"), ("unitsPerParent", "[D"), ("resource", "D"), ("threshold", "D"), ("madeBy", "I")]
theorem own_laid (Z : State) (a0 : Array Value) (hw : ∀ d ∈ tables_1, d.before a0 Z = true) : ∀ x ∈ own_FN, Laid Z a0 "com/example/lotparley/lotparley/Item" "com/example/lotparley/lotparley/Item" x.1 x.2 ∧ (parseFieldDescriptor x.2).isSome = true := by
  intro x hx
  simp only [own_FN, List.mem_cons, List.not_mem_nil, or_false] at hx
  rcases hx with rfl | rfl | rfl | rfl | rfl | rfl | rfl
  · exact ⟨Or.inr (own_q hw 25 rfl), by decide⟩
  · exact ⟨Or.inr (own_q hw 27 rfl), by decide⟩
  · exact ⟨Or.inr (own_q hw 29 rfl), by decide⟩
  · exact ⟨Or.inr (own_q hw 31 rfl), by decide⟩
  · exact ⟨Or.inr (own_q hw 33 rfl), by decide⟩
  · exact ⟨Or.inr (own_q hw 35 rfl), by decide⟩
  · exact ⟨Or.inr (own_q hw 37 rfl), by decide⟩
theorem own_dist (Z : State) (a0 : Array Value) (hw : ∀ d ∈ tables_1, d.before a0 Z = true) : ODist Z "com/example/lotparley/lotparley/Item" own_FN := own_dist_of (own_laid Z a0 hw) 7 rfl (by decide +kernel)
theorem d1_0 : decode prog_8_method_1_code 0 = .ok (.aload_n 0, 1) := by decide +kernel
theorem d1_1 : decode prog_8_method_1_code 1 = .ok (.invokespecial 3, 3) := by decide +kernel
theorem d1_4 : decode prog_8_method_1_code 4 = .ok (.aload_n 0, 1) := by decide +kernel
theorem d1_5 : decode prog_8_method_1_code 5 = .ok (.aload_n 1, 1) := by decide +kernel
theorem d1_6 : decode prog_8_method_1_code 6 = .ok (.putfield 9, 3) := by decide +kernel
theorem d1_9 : decode prog_8_method_1_code 9 = .ok (.aload_n 0, 1) := by decide +kernel
theorem d1_10 : decode prog_8_method_1_code 10 = .ok (.aload_n 2, 1) := by decide +kernel
theorem d1_11 : decode prog_8_method_1_code 11 = .ok (.putfield 15, 3) := by decide +kernel
theorem d1_14 : decode prog_8_method_1_code 14 = .ok (.aload_n 0, 1) := by decide +kernel
theorem d1_15 : decode prog_8_method_1_code 15 = .ok (.aload_n 3, 1) := by decide +kernel
theorem d1_16 : decode prog_8_method_1_code 16 = .ok (.putfield 19, 3) := by decide +kernel
theorem d1_19 : decode prog_8_method_1_code 19 = .ok (.aload_n 0, 1) := by decide +kernel
theorem d1_20 : decode prog_8_method_1_code 20 = .ok (.aload 4, 2) := by decide +kernel
theorem d1_22 : decode prog_8_method_1_code 22 = .ok (.putfield 23, 3) := by decide +kernel
theorem d1_25 : decode prog_8_method_1_code 25 = .ok (.aload_n 0, 1) := by decide +kernel
theorem d1_26 : decode prog_8_method_1_code 26 = .ok (.dload 5, 2) := by decide +kernel
theorem d1_28 : decode prog_8_method_1_code 28 = .ok (.putfield 26, 3) := by decide +kernel
theorem d1_31 : decode prog_8_method_1_code 31 = .ok (.aload_n 0, 1) := by decide +kernel
theorem d1_32 : decode prog_8_method_1_code 32 = .ok (.dload 7, 2) := by decide +kernel
theorem d1_34 : decode prog_8_method_1_code 34 = .ok (.putfield 30, 3) := by decide +kernel
theorem d1_37 : decode prog_8_method_1_code 37 = .ok (.aload_n 0, 1) := by decide +kernel
theorem d1_38 : decode prog_8_method_1_code 38 = .ok (.iload 9, 2) := by decide +kernel
theorem d1_40 : decode prog_8_method_1_code 40 = .ok (.putfield 33, 3) := by decide +kernel
theorem d1_43 : decode prog_8_method_1_code 43 = .ok (.return_, 1) := by decide +kernel
theorem d2_0 : decode jdk_30_method_1_code 0 = .ok (.aload_n 0, 1) := by decide +kernel
theorem d2_1 : decode jdk_30_method_1_code 1 = .ok (.invokespecial 1, 3) := by decide +kernel
theorem d2_4 : decode jdk_30_method_1_code 4 = .ok (.return_, 1) := by decide +kernel
theorem d4_0 : decode prog_8_method_2_code 0 = .ok (.aload_n 0, 1) := by decide +kernel
theorem d4_1 : decode prog_8_method_2_code 1 = .ok (.getfield 15, 3) := by decide +kernel
theorem d4_4 : decode prog_8_method_2_code 4 = .ok (.astore_n 1, 1) := by decide +kernel
theorem d4_5 : decode prog_8_method_2_code 5 = .ok (.aload_n 1, 1) := by decide +kernel
theorem d4_6 : decode prog_8_method_2_code 6 = .ok (.arraylength, 1) := by decide +kernel
theorem d4_7 : decode prog_8_method_2_code 7 = .ok (.istore_n 2, 1) := by decide +kernel
theorem d4_8 : decode prog_8_method_2_code 8 = .ok (.iconst 0, 1) := by decide +kernel
theorem d4_9 : decode prog_8_method_2_code 9 = .ok (.istore_n 3, 1) := by decide +kernel
theorem d4_10 : decode prog_8_method_2_code 10 = .ok (.iload_n 3, 1) := by decide +kernel
theorem d4_11 : decode prog_8_method_2_code 11 = .ok (.iload_n 2, 1) := by decide +kernel
theorem d4_12 : decode prog_8_method_2_code 12 = .ok (.if_icmp .ge 23, 3) := by decide +kernel
theorem d4_15 : decode prog_8_method_2_code 15 = .ok (.aload_n 1, 1) := by decide +kernel
theorem d4_16 : decode prog_8_method_2_code 16 = .ok (.iload_n 3, 1) := by decide +kernel
theorem d4_17 : decode prog_8_method_2_code 17 = .ok (.daload, 1) := by decide +kernel
theorem d4_18 : decode prog_8_method_2_code 18 = .ok (.dstore 4, 2) := by decide +kernel
theorem d4_20 : decode prog_8_method_2_code 20 = .ok (.dload 4, 2) := by decide +kernel
theorem d4_22 : decode prog_8_method_2_code 22 = .ok (.dconst 0, 1) := by decide +kernel
theorem d4_23 : decode prog_8_method_2_code 23 = .ok (.dcmp .l, 1) := by decide +kernel
theorem d4_24 : decode prog_8_method_2_code 24 = .ok (.ifCond .le 5, 3) := by decide +kernel
theorem d4_27 : decode prog_8_method_2_code 27 = .ok (.iconst 1, 1) := by decide +kernel
theorem d4_28 : decode prog_8_method_2_code 28 = .ok (.ireturn, 1) := by decide +kernel
theorem d4_29 : decode prog_8_method_2_code 29 = .ok (.iinc 3 1, 3) := by decide +kernel
theorem d4_32 : decode prog_8_method_2_code 32 = .ok (.goto (-22), 3) := by decide +kernel
theorem d4_35 : decode prog_8_method_2_code 35 = .ok (.iconst 0, 1) := by decide +kernel
theorem d4_36 : decode prog_8_method_2_code 36 = .ok (.ireturn, 1) := by decide +kernel
theorem ef_rec (m : MethodId) (x0 : Addr) : entryFrame m #[(.ref x0)] 1 = mkF m 0 #[.val (.ref x0)] [] := by first | (simp [entryFrame, mkF, argsToLocals, Value.category]; done) | rfl
theorem ef_init (m : MethodId) (x0 : Addr) (x1 : Addr) (x2 : Addr) (x3 : Addr) (x4 : Addr) (x5 : UInt64) (x6 : UInt64) (x7 : Int32) : entryFrame m #[(.ref x0), (.ref x1), (.ref x2), (.ref x3), (.ref x4), (.double x5), (.double x6), (.int x7)] 10 = mkF m 0 #[.val (.ref x0), .val (.ref x1), .val (.ref x2), .val (.ref x3), .val (.ref x4), .val (.double x5), .second, .val (.double x6), .second, .val (.int x7)] [] := by first | (simp [entryFrame, mkF, argsToLocals, Value.category]; done) | rfl
theorem ef_hd (m : MethodId) (x0 : Addr) : entryFrame m #[(.ref x0)] 6 = mkF m 0 #[.val (.ref x0), .unset, .unset, .unset, .unset, .unset] [] := by first | (simp [entryFrame, mkF, argsToLocals, Value.category]; done) | rfl
theorem ef_law (m : MethodId) (x0 : Int32) (x1 : Int32) (x2 : Int32) (x3 : Int32) : entryFrame m #[(.int x0), (.int x1), (.int x2), (.int x3)] maxLocals = mkF m 0 #[.val (.int x0), .val (.int x1), .val (.int x2), .val (.int x3), .unset, .unset, .unset, .unset, .unset, .unset, .unset, .unset, .unset, .unset] [] := by first | (simp [entryFrame, mkF, argsToLocals, Value.category, maxLocals]; done) | rfl
theorem pn_rec : plainName "java/lang/Record" = true := by first | (simp [plainName, overriddenIn]; done) | decide +kernel
theorem pn_item : plainName "com/example/lotparley/lotparley/Item" = true := by first | (simp [plainName, overriddenIn]; done) | decide +kernel
theorem pn_law : plainName "com/example/lotparley/lotparley/ItemHasDemandPinLaw" = true := by first | (simp [plainName, overriddenIn]; done) | decide +kernel
theorem pd___V : parseMethodDescriptor "()V" = some ⟨[], none⟩ := by decide +kernel
theorem pd___Z : parseMethodDescriptor "()Z" = some ⟨[], some (.boolean)⟩ := by decide +kernel
theorem pd__Ljava_lang_String__D_I_DDDI_V : parseMethodDescriptor "(Ljava/lang/String;[D[I[DDDI)V" = some ⟨[.object "java/lang/String", .array .double, .array .int, .array .double, .double, .double, .int], none⟩ := by decide +kernel
theorem own_dflt : own_FN.map (fun x => own_dv x.2) = [.null, .null, .null, .null, (.double (0 : UInt64)), (.double (0 : UInt64)), (.int (0 : Int32))] := by decide +kernel
theorem own_satoms (Z : State) (a0 : Array Value) (hw : ∀ d ∈ tables_1, d.before a0 Z = true) : ∀ a ∈ Bundle.stringAtoms, a.before a0 Z = true := by
  intro a ha
  simp only [Bundle.stringAtoms, List.mem_cons, List.not_mem_nil, or_false] at ha
  rcases ha with rfl | rfl | rfl | rfl | rfl | rfl | rfl
  · exact (own_q hw 5 rfl)
  · exact (own_q hw 6 rfl)
  · exact (own_q hw 7 rfl)
  · exact (own_q hw 8 rfl)
  · exact (own_q hw 9 rfl)
  · exact (own_q hw 10 rfl)
  · exact (own_q hw 11 rfl)
section OwnPlain
def own_any : List UInt64 → Int32
  | [] => 0
  | x :: r => if (0 : Int32) < cmpValue (FP.dcmp x 0) .l then 1 else own_any r
theorem own_and3 (v : Int32) {g : Int32} (h : g = v &&& (3 : Int32)) : g = 0 ∨ g = 1 ∨ g = 2 ∨ g = 3 := by
  have := c_and v 3 (by decide)
  have e : (3 : Int32).toInt = 3 := by decide
  rw [← h, e] at this
  have key : g.toInt = 0 ∨ g.toInt = 1 ∨ g.toInt = 2 ∨ g.toInt = 3 := by omega
  rcases key with q | q | q | q
  · exact Or.inl (Int32.toInt_inj.mp q)
  · exact Or.inr (Or.inl (Int32.toInt_inj.mp q))
  · exact Or.inr (Or.inr (Or.inl (Int32.toInt_inj.mp q)))
  · exact Or.inr (Or.inr (Or.inr (Int32.toInt_inj.mp q)))
theorem own_since0 (s : State) : s.Since s.vm 0 := State.WarmedH.since (State.WarmedH.refl s) 0
theorem OArs.one {Z : State} {h : Heap} {n0 k : Nat} {as : List (Addr × FieldType × Nat × List Value)} {x : Addr × FieldType × Nat × List Value} (A : OArs Z h n0 as) (hk : as[k]? = some x) : OArs Z h n0 [x] := by
  refine ⟨fun j y q => ?_, fun i j y z qi qj ne => ?_⟩
  · match j, q with
    | 0, q => cases q; exact A.1 k x hk
  · match i, j, qi, qj with
    | 0, 0, _, _ => exact absurd rfl ne
end OwnPlain
set_option maxRecDepth 65536 in
set_option maxHeartbeats 40000000 in
theorem own_rmRec (l : Launch) (Z : State) (a0 : Array Value) (hw : ∀ d ∈ tables_1, d.before a0 Z = true) (n0 : Nat) (h0 : Heap) (b : Addr) : OMet l Z n0 (⟨"java/lang/Record", "<init>", "()V"⟩ : MethodName) jdk_30_method_1_code 1 none ({ frames := 1, cells := 0, slots := 0, locals := 12 } : Room) #[(.ref b)] h0 none (fun h => h = h0) := by
  refine own_bodyM (y := (⟨"java/lang/Record", "<init>", "()V"⟩ : MethodName)) (plainFor_of_name pn_rec) (fun _ => rfl) ?_
  intro p e s m below meth c s₁ S0 hx hby hml hown hnm hret hZ X0 e0 Rs
  have N0 := Fr.nil n0
  have R0 : OGo p.tables e below S0 (s₁.setTop (mkF m 0 #[.val (.ref b)] [])) := fun t k => Rs t (castTop (ef_rec m b) k)
  have R1 : OGo p.tables e below S0 (s₁.setTop (mkF m 1 #[.val (.ref b)] [(.ref b)])) := fun t k => R0 t (XS.aloadN X0.here hx rfl (hb hby d2_0) rfl rfl k)
  obtain ⟨T2, X2, e2, st2⟩ := initO X0 hx hZ hown (own_q hw 21 rfl) (own_q hw 22 rfl) (own_q hw 23 rfl) e0 (g := (mkF m 1 #[.val (.ref b)] [(.ref b)])) rfl (by rw [hml]; rfl) rfl (hb hby d2_1) (by decide) (W := 0) (Nat.le_of_eq rfl) (by decide)
  have R2 : OGo p.tables e below S0 (T2.setTop (mkF m 4 #[.val (.ref b)] [])) := fun t k => R1 t (st2 t k)
  exact ⟨_, _, _, _, X2, by decide, by decide, N0, e2, fun fs hr => R2 _ (X2.returnOut hx hret (hb hby d2_4) hr)⟩
set_option maxRecDepth 65536 in
set_option maxHeartbeats 40000000 in
theorem own_rmInit (l : Launch) (Z : State) (a0 : Array Value) (hw : ∀ d ∈ tables_1, d.before a0 Z = true) (n0 : Nat) (h0 : Heap) (b : Addr) (as : List (Addr × FieldType × Nat × List Value)) (q1 q2 q3 q4 : Addr) (q5 q6 : UInt64) (q7 : Int32) (H0 : OHp Z h0 n0 "com/example/lotparley/lotparley/Item" own_FN b [.null, .null, .null, .null, (.double (0 : UInt64)), (.double (0 : UInt64)), (.int (0 : Int32))] as) : OMet l Z n0 (⟨"com/example/lotparley/lotparley/Item", "<init>", "(Ljava/lang/String;[D[I[DDDI)V"⟩ : MethodName) prog_8_method_1_code 10 none ({ frames := 2, cells := 0, slots := 0, locals := 24 } : Room) #[(.ref b), (.ref q1), (.ref q2), (.ref q3), (.ref q4), (.double q5), (.double q6), (.int q7)] h0 none (fun h => h0.size ≤ h.size ∧ OHp Z h n0 "com/example/lotparley/lotparley/Item" own_FN b [(.ref q1), (.ref q2), (.ref q3), (.ref q4), (.double q5), (.double q6), (.int q7)] as) := by
  refine own_bodyM (y := (⟨"com/example/lotparley/lotparley/Item", "<init>", "(Ljava/lang/String;[D[I[DDDI)V"⟩ : MethodName)) (plainFor_of_name pn_item) (fun _ => rfl) ?_
  intro p e s m below meth c s₁ S0 hx hby hml hown hnm hret hZ X0 e0 Rs
  have N0 := Fr.nil n0
  have R0 : OGo p.tables e below S0 (s₁.setTop (mkF m 0 #[.val (.ref b), .val (.ref q1), .val (.ref q2), .val (.ref q3), .val (.ref q4), .val (.double q5), .second, .val (.double q6), .second, .val (.int q7)] [])) := fun t k => Rs t (castTop (ef_init m b q1 q2 q3 q4 q5 q6 q7) k)
  have R1 : OGo p.tables e below S0 (s₁.setTop (mkF m 1 #[.val (.ref b), .val (.ref q1), .val (.ref q2), .val (.ref q3), .val (.ref q4), .val (.double q5), .second, .val (.double q6), .second, .val (.int q7)] [(.ref b)])) := fun t k => R0 t (XS.aloadN X0.here hx rfl (hb hby d1_0) rfl rfl k)
  obtain ⟨T2, lc2, X2, N2, P2, st2⟩ := own_callI X0 hx hZ (y := (⟨"java/lang/Record", "<init>", "()V"⟩ : MethodName)) rfl hown (own_q hw 16 rfl) (own_q hw 17 rfl) (own_q hw 20 rfl) (own_q hw 19 rfl) (by decide) (W := 0) (own_rmRec l Z a0 hw n0 _ b) e0 N0 (by decide) (by decide) (by decide) (by decide) (g := (mkF m 1 #[.val (.ref b), .val (.ref q1), .val (.ref q2), .val (.ref q3), .val (.ref q4), .val (.double q5), .second, .val (.double q6), .second, .val (.int q7)] [(.ref b)])) rfl (by rw [hml]; rfl) (argsL := []) (rest := []) (lenOf pd___V rfl) rfl rfl (Nat.le_of_eq rfl) (hb hby d1_1)
  obtain ⟨T3, h3, lc3, X3, e3, N3, H3, st3⟩ := own_putF X2 hx hZ hown (own_q hw 24 rfl) P2 H0 (own_dist Z a0 hw) (own_q hw 2 rfl) (k := 0) rfl rfl (Or.inr ⟨(own_q hw 25 rfl), rfl, hnm⟩) (ty := (.object "java/lang/String")) (by decide) rfl rfl N2 (vs' := [(.ref q1), .null, .null, .null, (.double (0 : UInt64)), (.double (0 : UInt64)), (.int (0 : Int32))]) rfl (g := (mkF m 6 #[.val (.ref b), .val (.ref q1), .val (.ref q2), .val (.ref q3), .val (.ref q4), .val (.double q5), .second, .val (.double q6), .second, .val (.int q7)] [(.ref q1), (.ref b)])) rfl rfl (hb hby d1_6)
  have R4 : OGo p.tables e below S0 (T3.setTop (mkF m 11 #[.val (.ref b), .val (.ref q1), .val (.ref q2), .val (.ref q3), .val (.ref q4), .val (.double q5), .second, .val (.double q6), .second, .val (.int q7)] [(.ref q2), (.ref b)])) := fun t k => R1 t (st2 t (XS.aloadN X2.here hx rfl (hb hby d1_4) rfl rfl (XS.aloadN X2.here hx rfl (hb hby d1_5) rfl rfl (st3 t (XS.aloadN X3.here hx rfl (hb hby d1_9) rfl rfl (XS.aloadN X3.here hx rfl (hb hby d1_10) rfl rfl k))))))
  obtain ⟨T5, h5, lc5, X5, e5, N5, H5, st5⟩ := own_putF X3 hx hZ hown (own_q hw 26 rfl) e3 H3 (own_dist Z a0 hw) (own_q hw 2 rfl) (k := 1) rfl rfl (Or.inr ⟨(own_q hw 27 rfl), rfl, hnm⟩) (ty := (.array .double)) (by decide) rfl rfl N3 (vs' := [(.ref q1), (.ref q2), .null, .null, (.double (0 : UInt64)), (.double (0 : UInt64)), (.int (0 : Int32))]) rfl (g := (mkF m 11 #[.val (.ref b), .val (.ref q1), .val (.ref q2), .val (.ref q3), .val (.ref q4), .val (.double q5), .second, .val (.double q6), .second, .val (.int q7)] [(.ref q2), (.ref b)])) rfl rfl (hb hby d1_11)
  obtain ⟨T6, h6, lc6, X6, e6, N6, H6, st6⟩ := own_putF X5 hx hZ hown (own_q hw 28 rfl) e5 H5 (own_dist Z a0 hw) (own_q hw 2 rfl) (k := 2) rfl rfl (Or.inr ⟨(own_q hw 29 rfl), rfl, hnm⟩) (ty := (.array .int)) (by decide) rfl rfl N5 (vs' := [(.ref q1), (.ref q2), (.ref q3), .null, (.double (0 : UInt64)), (.double (0 : UInt64)), (.int (0 : Int32))]) rfl (g := (mkF m 16 #[.val (.ref b), .val (.ref q1), .val (.ref q2), .val (.ref q3), .val (.ref q4), .val (.double q5), .second, .val (.double q6), .second, .val (.int q7)] [(.ref q3), (.ref b)])) rfl rfl (hb hby d1_16)
  have R7 : OGo p.tables e below S0 (T6.setTop (mkF m 22 #[.val (.ref b), .val (.ref q1), .val (.ref q2), .val (.ref q3), .val (.ref q4), .val (.double q5), .second, .val (.double q6), .second, .val (.int q7)] [(.ref q4), (.ref b)])) := fun t k => R4 t (st5 t (XS.aloadN X5.here hx rfl (hb hby d1_14) rfl rfl (XS.aloadN X5.here hx rfl (hb hby d1_15) rfl rfl (st6 t (XS.aloadN X6.here hx rfl (hb hby d1_19) rfl rfl (XS.aload X6.here hx rfl (hb hby d1_20) rfl rfl k))))))
  obtain ⟨T8, h8, lc8, X8, e8, N8, H8, st8⟩ := own_putF X6 hx hZ hown (own_q hw 30 rfl) e6 H6 (own_dist Z a0 hw) (own_q hw 2 rfl) (k := 3) rfl rfl (Or.inr ⟨(own_q hw 31 rfl), rfl, hnm⟩) (ty := (.array .double)) (by decide) rfl rfl N6 (vs' := [(.ref q1), (.ref q2), (.ref q3), (.ref q4), (.double (0 : UInt64)), (.double (0 : UInt64)), (.int (0 : Int32))]) rfl (g := (mkF m 22 #[.val (.ref b), .val (.ref q1), .val (.ref q2), .val (.ref q3), .val (.ref q4), .val (.double q5), .second, .val (.double q6), .second, .val (.int q7)] [(.ref q4), (.ref b)])) rfl rfl (hb hby d1_22)
  obtain ⟨T9, h9, lc9, X9, e9, N9, H9, st9⟩ := own_putF X8 hx hZ hown (own_q hw 32 rfl) e8 H8 (own_dist Z a0 hw) (own_q hw 2 rfl) (k := 4) rfl rfl (Or.inr ⟨(own_q hw 33 rfl), rfl, hnm⟩) (ty := .double) (by decide) rfl rfl N8 (vs' := [(.ref q1), (.ref q2), (.ref q3), (.ref q4), (.double q5), (.double (0 : UInt64)), (.int (0 : Int32))]) rfl (g := (mkF m 28 #[.val (.ref b), .val (.ref q1), .val (.ref q2), .val (.ref q3), .val (.ref q4), .val (.double q5), .second, .val (.double q6), .second, .val (.int q7)] [(.double q5), (.ref b)])) rfl rfl (hb hby d1_28)
  have R10 : OGo p.tables e below S0 (T9.setTop (mkF m 34 #[.val (.ref b), .val (.ref q1), .val (.ref q2), .val (.ref q3), .val (.ref q4), .val (.double q5), .second, .val (.double q6), .second, .val (.int q7)] [(.double q6), (.ref b)])) := fun t k => R7 t (st8 t (XS.aloadN X8.here hx rfl (hb hby d1_25) rfl rfl (XS.dload X8.here hx rfl (hb hby d1_26) rfl (st9 t (XS.aloadN X9.here hx rfl (hb hby d1_31) rfl rfl (XS.dload X9.here hx rfl (hb hby d1_32) rfl k))))))
  obtain ⟨T11, h11, lc11, X11, e11, N11, H11, st11⟩ := own_putF X9 hx hZ hown (own_q hw 34 rfl) e9 H9 (own_dist Z a0 hw) (own_q hw 2 rfl) (k := 5) rfl rfl (Or.inr ⟨(own_q hw 35 rfl), rfl, hnm⟩) (ty := .double) (by decide) rfl rfl N9 (vs' := [(.ref q1), (.ref q2), (.ref q3), (.ref q4), (.double q5), (.double q6), (.int (0 : Int32))]) rfl (g := (mkF m 34 #[.val (.ref b), .val (.ref q1), .val (.ref q2), .val (.ref q3), .val (.ref q4), .val (.double q5), .second, .val (.double q6), .second, .val (.int q7)] [(.double q6), (.ref b)])) rfl rfl (hb hby d1_34)
  obtain ⟨T12, h12, lc12, X12, e12, N12, H12, st12⟩ := own_putF X11 hx hZ hown (own_q hw 36 rfl) e11 H11 (own_dist Z a0 hw) (own_q hw 2 rfl) (k := 6) rfl rfl (Or.inr ⟨(own_q hw 37 rfl), rfl, hnm⟩) (ty := .int) (by decide) rfl rfl N11 (vs' := [(.ref q1), (.ref q2), (.ref q3), (.ref q4), (.double q5), (.double q6), (.int q7)]) rfl (g := (mkF m 40 #[.val (.ref b), .val (.ref q1), .val (.ref q2), .val (.ref q3), .val (.ref q4), .val (.double q5), .second, .val (.double q6), .second, .val (.int q7)] [(.int q7), (.ref b)])) rfl rfl (hb hby d1_40)
  have R13 : OGo p.tables e below S0 (T12.setTop (mkF m 43 #[.val (.ref b), .val (.ref q1), .val (.ref q2), .val (.ref q3), .val (.ref q4), .val (.double q5), .second, .val (.double q6), .second, .val (.int q7)] [])) := fun t k => R10 t (st11 t (XS.aloadN X11.here hx rfl (hb hby d1_37) rfl rfl (XS.iload X11.here hx rfl (hb hby d1_38) rfl (st12 t k))))
  exact ⟨_, _, _, _, X12, by decide, by decide, N12, ⟨by rw [← e0]; exact own_grow X0 X12, by rw [e12]; exact H12⟩, fun fs hr => R13 _ (X12.returnOut hx hret (hb hby d1_43) hr)⟩
set_option maxRecDepth 65536 in
set_option maxHeartbeats 40000000 in
theorem own_rmHd0 (l : Launch) (Z : State) (a0 : Array Value) (hw : ∀ d ∈ tables_1, d.before a0 Z = true) (n0 : Nat) (h0 : Heap) (b : Addr) (as : List (Addr × FieldType × Nat × List Value)) (ad : Addr) (u0 u2 u3 u4 u5 u6 : Value)  (H0 : OHp Z h0 n0 "com/example/lotparley/lotparley/Item" own_FN b [u0, .ref ad, u2, u3, u4, u5, u6] as) (A0 : OArs Z h0 n0 [(ad, .double, 0, [])]) : OMet l Z n0 (⟨"com/example/lotparley/lotparley/Item", "hasDemand", "()Z"⟩ : MethodName) prog_8_method_2_code 6 (some .boolean) ({ frames := 0, cells := 0, slots := 0, locals := 0 } : Room) #[(.ref b)] h0 (some (.int (own_any []))) (fun h => h = h0) := by
  refine own_bodyM (y := (⟨"com/example/lotparley/lotparley/Item", "hasDemand", "()Z"⟩ : MethodName)) (plainFor_of_name pn_item) (fun h => by cases h) ?_
  intro p e s m below meth c s₁ S0 hx hby hml hown hnm hret hZ X0 e0 Rs
  have N0 := Fr.nil n0
  have R0 : OGo p.tables e below S0 (s₁.setTop (mkF m 0 #[.val (.ref b), .unset, .unset, .unset, .unset, .unset] [])) := fun t k => Rs t (castTop (ef_hd m b) k)
  obtain ⟨T1, X1, e1, st1⟩ := own_getF X0 hx hZ hown (own_q hw 26 rfl) e0 H0 (k := 1) rfl rfl (g := (mkF m 1 #[.val (.ref b), .unset, .unset, .unset, .unset, .unset] [(.ref b)])) rfl rfl (hb hby d4_1)
  have R2 : OGo p.tables e below S0 (T1.setTop (mkF m 8 #[.val (.ref b), .val (.ref ad), .val (.int (0 : Int32)), .unset, .unset, .unset] [])) := fun t k => R0 t (XS.aloadN X0.here hx rfl (hb hby d4_0) rfl rfl (st1 t (XS.astoreN X1.here hx rfl (hb hby d4_4) rfl rfl (l' := #[.val (.ref b), .val (.ref ad), .unset, .unset, .unset, .unset]) rfl (XS.aloadN X1.here hx rfl (hb hby d4_5) rfl rfl (own_alen (v := 0) X1 hx hZ e1 A0 (k := 0) rfl (by decide) rfl rfl (hb hby d4_6) (XS.istoreN X1.here hx rfl (hb hby d4_7) rfl (l' := #[.val (.ref b), .val (.ref ad), .val (.int (0 : Int32)), .unset, .unset, .unset]) rfl k))))))
  have R3 : OGo p.tables e below S0 (T1.setTop (mkF m 36 #[.val (.ref b), .val (.ref ad), .val (.int (0 : Int32)), .val (.int (0 : Int32)), .unset, .unset] [(.int (0 : Int32))])) := fun t k => R2 t (XS.iconst X1.here hx rfl (hb hby d4_8) (XS.istoreN X1.here hx rfl (hb hby d4_9) rfl (l' := #[.val (.ref b), .val (.ref ad), .val (.int (0 : Int32)), .val (.int (0 : Int32)), .unset, .unset]) rfl (XS.iloadN X1.here hx rfl (hb hby d4_10) rfl (XS.iloadN X1.here hx rfl (hb hby d4_11) rfl (XS.icmpYes X1.here hx rfl (pc0 := 12) (pc' := 35) rfl (hb hby d4_12) rfl (by decide) (by decide) (by decide) (XS.iconst X1.here hx rfl (hb hby d4_35) k))))))
  have hval : own_any [] = (0 : Int32) := by simp [own_any]
  rw [hval]
  exact ⟨_, _, _, _, X1, by decide, by decide, N0, e1, fun fs hr => R3 _ (retN X1 hx (t := .boolean) hret (by simp) (hb hby d4_36) hr)⟩
set_option maxRecDepth 65536 in
set_option maxHeartbeats 40000000 in
theorem own_rmHd1 (l : Launch) (Z : State) (a0 : Array Value) (hw : ∀ d ∈ tables_1, d.before a0 Z = true) (n0 : Nat) (h0 : Heap) (b : Addr) (as : List (Addr × FieldType × Nat × List Value)) (ad : Addr) (u0 u2 u3 u4 u5 u6 : Value) (x0 : UInt64) (H0 : OHp Z h0 n0 "com/example/lotparley/lotparley/Item" own_FN b [u0, .ref ad, u2, u3, u4, u5, u6] as) (A0 : OArs Z h0 n0 [(ad, .double, 1, [(.double x0)])]) : OMet l Z n0 (⟨"com/example/lotparley/lotparley/Item", "hasDemand", "()Z"⟩ : MethodName) prog_8_method_2_code 6 (some .boolean) ({ frames := 0, cells := 0, slots := 0, locals := 0 } : Room) #[(.ref b)] h0 (some (.int (own_any [x0]))) (fun h => h = h0) := by
  refine own_bodyM (y := (⟨"com/example/lotparley/lotparley/Item", "hasDemand", "()Z"⟩ : MethodName)) (plainFor_of_name pn_item) (fun h => by cases h) ?_
  intro p e s m below meth c s₁ S0 hx hby hml hown hnm hret hZ X0 e0 Rs
  have N0 := Fr.nil n0
  have R0 : OGo p.tables e below S0 (s₁.setTop (mkF m 0 #[.val (.ref b), .unset, .unset, .unset, .unset, .unset] [])) := fun t k => Rs t (castTop (ef_hd m b) k)
  obtain ⟨T1, X1, e1, st1⟩ := own_getF X0 hx hZ hown (own_q hw 26 rfl) e0 H0 (k := 1) rfl rfl (g := (mkF m 1 #[.val (.ref b), .unset, .unset, .unset, .unset, .unset] [(.ref b)])) rfl rfl (hb hby d4_1)
  have R2 : OGo p.tables e below S0 (T1.setTop (mkF m 8 #[.val (.ref b), .val (.ref ad), .val (.int (1 : Int32)), .unset, .unset, .unset] [])) := fun t k => R0 t (XS.aloadN X0.here hx rfl (hb hby d4_0) rfl rfl (st1 t (XS.astoreN X1.here hx rfl (hb hby d4_4) rfl rfl (l' := #[.val (.ref b), .val (.ref ad), .unset, .unset, .unset, .unset]) rfl (XS.aloadN X1.here hx rfl (hb hby d4_5) rfl rfl (own_alen (v := 1) X1 hx hZ e1 A0 (k := 0) rfl (by decide) rfl rfl (hb hby d4_6) (XS.istoreN X1.here hx rfl (hb hby d4_7) rfl (l' := #[.val (.ref b), .val (.ref ad), .val (.int (1 : Int32)), .unset, .unset, .unset]) rfl k))))))
  have R3 : OGo p.tables e below S0 (T1.setTop (mkF m 16 #[.val (.ref b), .val (.ref ad), .val (.int (1 : Int32)), .val (.int (0 : Int32)), .unset, .unset] [(.ref ad)])) := fun t k => R2 t (XS.iconst X1.here hx rfl (hb hby d4_8) (XS.istoreN X1.here hx rfl (hb hby d4_9) rfl (l' := #[.val (.ref b), .val (.ref ad), .val (.int (1 : Int32)), .val (.int (0 : Int32)), .unset, .unset]) rfl (XS.iloadN X1.here hx rfl (hb hby d4_10) rfl (XS.iloadN X1.here hx rfl (hb hby d4_11) rfl (XS.icmpNo X1.here hx rfl (hb hby d4_12) rfl (by decide) (XS.aloadN X1.here hx rfl (hb hby d4_15) rfl rfl k))))))
  have R4 : OGo p.tables e below S0 (T1.setTop (mkF m 24 #[.val (.ref b), .val (.ref ad), .val (.int (1 : Int32)), .val (.int (0 : Int32)), .val (.double x0), .second] [(.int (cmpValue (FP.dcmp x0 (0 : UInt64)) .l))])) := fun t k => R3 t (XS.iloadN X1.here hx rfl (hb hby d4_16) rfl (own_dald (v := (.double x0)) X1 hx hZ e1 A0 (k := 0) rfl (by decide) (i := 0) (by decide) (by decide) rfl rfl rfl (hb hby d4_17) (XS.dstore X1.here hx rfl (hb hby d4_18) rfl (l' := #[.val (.ref b), .val (.ref ad), .val (.int (1 : Int32)), .val (.int (0 : Int32)), .val (.double x0), .second]) rfl (XS.dload X1.here hx rfl (hb hby d4_20) rfl (XS.dconst0 X1.here hx rfl (hb hby d4_22) rfl (XS.dcmpS X1.here hx rfl (hb hby d4_23) rfl rfl k))))))
  by_cases hq0 : (0 : Int32) < cmpValue (FP.dcmp x0 (0 : UInt64)) .l
  · skip
    have R5 : OGo p.tables e below S0 (T1.setTop (mkF m 28 #[.val (.ref b), .val (.ref ad), .val (.int (1 : Int32)), .val (.int (0 : Int32)), .val (.double x0), .second] [(.int (1 : Int32))])) := fun t k => R4 t (XS.ifNo X1.here hx rfl (hb hby d4_24) rfl ((if0 _ _).trans (tlt hq0).2.2.2) (XS.iconst X1.here hx rfl (hb hby d4_27) k))
    have hval : own_any [x0] = (1 : Int32) := by simp [own_any, hq0]
    rw [hval]
    exact ⟨_, _, _, _, X1, by decide, by decide, N0, e1, fun fs hr => R5 _ (retN X1 hx (t := .boolean) hret (by simp) (hb hby d4_28) hr)⟩
  · skip
    have R6 : OGo p.tables e below S0 (T1.setTop (mkF m 35 #[.val (.ref b), .val (.ref ad), .val (.int (1 : Int32)), .val (.int (1 : Int32)), .val (.double x0), .second] [])) := fun t k => R4 t (XS.ifYes X1.here hx rfl (pc0 := 24) (pc' := 29) rfl (hb hby d4_24) rfl ((if0 _ _).trans (flt hq0).2.2.2) (by decide) (by decide) (own_iinc (v := 1) X1.here hx rfl (hb hby d4_29) rfl (by decide) (l' := #[.val (.ref b), .val (.ref ad), .val (.int (1 : Int32)), .val (.int (1 : Int32)), .val (.double x0), .second]) rfl (XS.goto X1.here hx rfl (pc0 := 32) (pc' := 10) rfl (hb hby d4_32) (by decide) (by decide) (XS.iloadN X1.here hx rfl (hb hby d4_10) rfl (XS.iloadN X1.here hx rfl (hb hby d4_11) rfl (XS.icmpYes X1.here hx rfl (pc0 := 12) (pc' := 35) rfl (hb hby d4_12) rfl (by decide) (by decide) (by decide) k))))))
    have R7 : OGo p.tables e below S0 (T1.setTop (mkF m 36 #[.val (.ref b), .val (.ref ad), .val (.int (1 : Int32)), .val (.int (1 : Int32)), .val (.double x0), .second] [(.int (0 : Int32))])) := fun t k => R6 t (XS.iconst X1.here hx rfl (hb hby d4_35) k)
    have hval : own_any [x0] = (0 : Int32) := by simp [own_any, hq0]
    rw [hval]
    exact ⟨_, _, _, _, X1, by decide, by decide, N0, e1, fun fs hr => R7 _ (retN X1 hx (t := .boolean) hret (by simp) (hb hby d4_36) hr)⟩
set_option maxRecDepth 65536 in
set_option maxHeartbeats 40000000 in
theorem own_rmHd2 (l : Launch) (Z : State) (a0 : Array Value) (hw : ∀ d ∈ tables_1, d.before a0 Z = true) (n0 : Nat) (h0 : Heap) (b : Addr) (as : List (Addr × FieldType × Nat × List Value)) (ad : Addr) (u0 u2 u3 u4 u5 u6 : Value) (x0 x1 : UInt64) (H0 : OHp Z h0 n0 "com/example/lotparley/lotparley/Item" own_FN b [u0, .ref ad, u2, u3, u4, u5, u6] as) (A0 : OArs Z h0 n0 [(ad, .double, 2, [(.double x0), (.double x1)])]) : OMet l Z n0 (⟨"com/example/lotparley/lotparley/Item", "hasDemand", "()Z"⟩ : MethodName) prog_8_method_2_code 6 (some .boolean) ({ frames := 0, cells := 0, slots := 0, locals := 0 } : Room) #[(.ref b)] h0 (some (.int (own_any [x0, x1]))) (fun h => h = h0) := by
  refine own_bodyM (y := (⟨"com/example/lotparley/lotparley/Item", "hasDemand", "()Z"⟩ : MethodName)) (plainFor_of_name pn_item) (fun h => by cases h) ?_
  intro p e s m below meth c s₁ S0 hx hby hml hown hnm hret hZ X0 e0 Rs
  have N0 := Fr.nil n0
  have R0 : OGo p.tables e below S0 (s₁.setTop (mkF m 0 #[.val (.ref b), .unset, .unset, .unset, .unset, .unset] [])) := fun t k => Rs t (castTop (ef_hd m b) k)
  obtain ⟨T1, X1, e1, st1⟩ := own_getF X0 hx hZ hown (own_q hw 26 rfl) e0 H0 (k := 1) rfl rfl (g := (mkF m 1 #[.val (.ref b), .unset, .unset, .unset, .unset, .unset] [(.ref b)])) rfl rfl (hb hby d4_1)
  have R2 : OGo p.tables e below S0 (T1.setTop (mkF m 8 #[.val (.ref b), .val (.ref ad), .val (.int (2 : Int32)), .unset, .unset, .unset] [])) := fun t k => R0 t (XS.aloadN X0.here hx rfl (hb hby d4_0) rfl rfl (st1 t (XS.astoreN X1.here hx rfl (hb hby d4_4) rfl rfl (l' := #[.val (.ref b), .val (.ref ad), .unset, .unset, .unset, .unset]) rfl (XS.aloadN X1.here hx rfl (hb hby d4_5) rfl rfl (own_alen (v := 2) X1 hx hZ e1 A0 (k := 0) rfl (by decide) rfl rfl (hb hby d4_6) (XS.istoreN X1.here hx rfl (hb hby d4_7) rfl (l' := #[.val (.ref b), .val (.ref ad), .val (.int (2 : Int32)), .unset, .unset, .unset]) rfl k))))))
  have R3 : OGo p.tables e below S0 (T1.setTop (mkF m 16 #[.val (.ref b), .val (.ref ad), .val (.int (2 : Int32)), .val (.int (0 : Int32)), .unset, .unset] [(.ref ad)])) := fun t k => R2 t (XS.iconst X1.here hx rfl (hb hby d4_8) (XS.istoreN X1.here hx rfl (hb hby d4_9) rfl (l' := #[.val (.ref b), .val (.ref ad), .val (.int (2 : Int32)), .val (.int (0 : Int32)), .unset, .unset]) rfl (XS.iloadN X1.here hx rfl (hb hby d4_10) rfl (XS.iloadN X1.here hx rfl (hb hby d4_11) rfl (XS.icmpNo X1.here hx rfl (hb hby d4_12) rfl (by decide) (XS.aloadN X1.here hx rfl (hb hby d4_15) rfl rfl k))))))
  have R4 : OGo p.tables e below S0 (T1.setTop (mkF m 24 #[.val (.ref b), .val (.ref ad), .val (.int (2 : Int32)), .val (.int (0 : Int32)), .val (.double x0), .second] [(.int (cmpValue (FP.dcmp x0 (0 : UInt64)) .l))])) := fun t k => R3 t (XS.iloadN X1.here hx rfl (hb hby d4_16) rfl (own_dald (v := (.double x0)) X1 hx hZ e1 A0 (k := 0) rfl (by decide) (i := 0) (by decide) (by decide) rfl rfl rfl (hb hby d4_17) (XS.dstore X1.here hx rfl (hb hby d4_18) rfl (l' := #[.val (.ref b), .val (.ref ad), .val (.int (2 : Int32)), .val (.int (0 : Int32)), .val (.double x0), .second]) rfl (XS.dload X1.here hx rfl (hb hby d4_20) rfl (XS.dconst0 X1.here hx rfl (hb hby d4_22) rfl (XS.dcmpS X1.here hx rfl (hb hby d4_23) rfl rfl k))))))
  by_cases hq0 : (0 : Int32) < cmpValue (FP.dcmp x0 (0 : UInt64)) .l
  · skip
    have R5 : OGo p.tables e below S0 (T1.setTop (mkF m 28 #[.val (.ref b), .val (.ref ad), .val (.int (2 : Int32)), .val (.int (0 : Int32)), .val (.double x0), .second] [(.int (1 : Int32))])) := fun t k => R4 t (XS.ifNo X1.here hx rfl (hb hby d4_24) rfl ((if0 _ _).trans (tlt hq0).2.2.2) (XS.iconst X1.here hx rfl (hb hby d4_27) k))
    have hval : own_any [x0, x1] = (1 : Int32) := by simp [own_any, hq0]
    rw [hval]
    exact ⟨_, _, _, _, X1, by decide, by decide, N0, e1, fun fs hr => R5 _ (retN X1 hx (t := .boolean) hret (by simp) (hb hby d4_28) hr)⟩
  · skip
    have R6 : OGo p.tables e below S0 (T1.setTop (mkF m 15 #[.val (.ref b), .val (.ref ad), .val (.int (2 : Int32)), .val (.int (1 : Int32)), .val (.double x0), .second] [])) := fun t k => R4 t (XS.ifYes X1.here hx rfl (pc0 := 24) (pc' := 29) rfl (hb hby d4_24) rfl ((if0 _ _).trans (flt hq0).2.2.2) (by decide) (by decide) (own_iinc (v := 1) X1.here hx rfl (hb hby d4_29) rfl (by decide) (l' := #[.val (.ref b), .val (.ref ad), .val (.int (2 : Int32)), .val (.int (1 : Int32)), .val (.double x0), .second]) rfl (XS.goto X1.here hx rfl (pc0 := 32) (pc' := 10) rfl (hb hby d4_32) (by decide) (by decide) (XS.iloadN X1.here hx rfl (hb hby d4_10) rfl (XS.iloadN X1.here hx rfl (hb hby d4_11) rfl (XS.icmpNo X1.here hx rfl (hb hby d4_12) rfl (by decide) k))))))
    have R7 : OGo p.tables e below S0 (T1.setTop (mkF m 23 #[.val (.ref b), .val (.ref ad), .val (.int (2 : Int32)), .val (.int (1 : Int32)), .val (.double x1), .second] [(.double (0 : UInt64)), (.double x1)])) := fun t k => R6 t (XS.aloadN X1.here hx rfl (hb hby d4_15) rfl rfl (XS.iloadN X1.here hx rfl (hb hby d4_16) rfl (own_dald (v := (.double x1)) X1 hx hZ e1 A0 (k := 0) rfl (by decide) (i := 1) (by decide) (by decide) rfl rfl rfl (hb hby d4_17) (XS.dstore X1.here hx rfl (hb hby d4_18) rfl (l' := #[.val (.ref b), .val (.ref ad), .val (.int (2 : Int32)), .val (.int (1 : Int32)), .val (.double x1), .second]) rfl (XS.dload X1.here hx rfl (hb hby d4_20) rfl (XS.dconst0 X1.here hx rfl (hb hby d4_22) rfl k))))))
    have R8 : OGo p.tables e below S0 (T1.setTop (mkF m 24 #[.val (.ref b), .val (.ref ad), .val (.int (2 : Int32)), .val (.int (1 : Int32)), .val (.double x1), .second] [(.int (cmpValue (FP.dcmp x1 (0 : UInt64)) .l))])) := fun t k => R7 t (XS.dcmpS X1.here hx rfl (hb hby d4_23) rfl rfl k)
    by_cases hq1 : (0 : Int32) < cmpValue (FP.dcmp x1 (0 : UInt64)) .l
    · skip
      have R9 : OGo p.tables e below S0 (T1.setTop (mkF m 28 #[.val (.ref b), .val (.ref ad), .val (.int (2 : Int32)), .val (.int (1 : Int32)), .val (.double x1), .second] [(.int (1 : Int32))])) := fun t k => R8 t (XS.ifNo X1.here hx rfl (hb hby d4_24) rfl ((if0 _ _).trans (tlt hq1).2.2.2) (XS.iconst X1.here hx rfl (hb hby d4_27) k))
      have hval : own_any [x0, x1] = (1 : Int32) := by simp [own_any, hq0, hq1]
      rw [hval]
      exact ⟨_, _, _, _, X1, by decide, by decide, N0, e1, fun fs hr => R9 _ (retN X1 hx (t := .boolean) hret (by simp) (hb hby d4_28) hr)⟩
    · skip
      have R10 : OGo p.tables e below S0 (T1.setTop (mkF m 35 #[.val (.ref b), .val (.ref ad), .val (.int (2 : Int32)), .val (.int (2 : Int32)), .val (.double x1), .second] [])) := fun t k => R8 t (XS.ifYes X1.here hx rfl (pc0 := 24) (pc' := 29) rfl (hb hby d4_24) rfl ((if0 _ _).trans (flt hq1).2.2.2) (by decide) (by decide) (own_iinc (v := 2) X1.here hx rfl (hb hby d4_29) rfl (by decide) (l' := #[.val (.ref b), .val (.ref ad), .val (.int (2 : Int32)), .val (.int (2 : Int32)), .val (.double x1), .second]) rfl (XS.goto X1.here hx rfl (pc0 := 32) (pc' := 10) rfl (hb hby d4_32) (by decide) (by decide) (XS.iloadN X1.here hx rfl (hb hby d4_10) rfl (XS.iloadN X1.here hx rfl (hb hby d4_11) rfl (XS.icmpYes X1.here hx rfl (pc0 := 12) (pc' := 35) rfl (hb hby d4_12) rfl (by decide) (by decide) (by decide) k))))))
      have R11 : OGo p.tables e below S0 (T1.setTop (mkF m 36 #[.val (.ref b), .val (.ref ad), .val (.int (2 : Int32)), .val (.int (2 : Int32)), .val (.double x1), .second] [(.int (0 : Int32))])) := fun t k => R10 t (XS.iconst X1.here hx rfl (hb hby d4_35) k)
      have hval : own_any [x0, x1] = (0 : Int32) := by simp [own_any, hq0, hq1]
      rw [hval]
      exact ⟨_, _, _, _, X1, by decide, by decide, N0, e1, fun fs hr => R11 _ (retN X1 hx (t := .boolean) hret (by simp) (hb hby d4_36) hr)⟩
set_option maxRecDepth 65536 in
set_option maxHeartbeats 40000000 in
theorem own_rmHd3 (l : Launch) (Z : State) (a0 : Array Value) (hw : ∀ d ∈ tables_1, d.before a0 Z = true) (n0 : Nat) (h0 : Heap) (b : Addr) (as : List (Addr × FieldType × Nat × List Value)) (ad : Addr) (u0 u2 u3 u4 u5 u6 : Value) (x0 x1 x2 : UInt64) (H0 : OHp Z h0 n0 "com/example/lotparley/lotparley/Item" own_FN b [u0, .ref ad, u2, u3, u4, u5, u6] as) (A0 : OArs Z h0 n0 [(ad, .double, 3, [(.double x0), (.double x1), (.double x2)])]) : OMet l Z n0 (⟨"com/example/lotparley/lotparley/Item", "hasDemand", "()Z"⟩ : MethodName) prog_8_method_2_code 6 (some .boolean) ({ frames := 0, cells := 0, slots := 0, locals := 0 } : Room) #[(.ref b)] h0 (some (.int (own_any [x0, x1, x2]))) (fun h => h = h0) := by
  refine own_bodyM (y := (⟨"com/example/lotparley/lotparley/Item", "hasDemand", "()Z"⟩ : MethodName)) (plainFor_of_name pn_item) (fun h => by cases h) ?_
  intro p e s m below meth c s₁ S0 hx hby hml hown hnm hret hZ X0 e0 Rs
  have N0 := Fr.nil n0
  have R0 : OGo p.tables e below S0 (s₁.setTop (mkF m 0 #[.val (.ref b), .unset, .unset, .unset, .unset, .unset] [])) := fun t k => Rs t (castTop (ef_hd m b) k)
  obtain ⟨T1, X1, e1, st1⟩ := own_getF X0 hx hZ hown (own_q hw 26 rfl) e0 H0 (k := 1) rfl rfl (g := (mkF m 1 #[.val (.ref b), .unset, .unset, .unset, .unset, .unset] [(.ref b)])) rfl rfl (hb hby d4_1)
  have R2 : OGo p.tables e below S0 (T1.setTop (mkF m 8 #[.val (.ref b), .val (.ref ad), .val (.int (3 : Int32)), .unset, .unset, .unset] [])) := fun t k => R0 t (XS.aloadN X0.here hx rfl (hb hby d4_0) rfl rfl (st1 t (XS.astoreN X1.here hx rfl (hb hby d4_4) rfl rfl (l' := #[.val (.ref b), .val (.ref ad), .unset, .unset, .unset, .unset]) rfl (XS.aloadN X1.here hx rfl (hb hby d4_5) rfl rfl (own_alen (v := 3) X1 hx hZ e1 A0 (k := 0) rfl (by decide) rfl rfl (hb hby d4_6) (XS.istoreN X1.here hx rfl (hb hby d4_7) rfl (l' := #[.val (.ref b), .val (.ref ad), .val (.int (3 : Int32)), .unset, .unset, .unset]) rfl k))))))
  have R3 : OGo p.tables e below S0 (T1.setTop (mkF m 16 #[.val (.ref b), .val (.ref ad), .val (.int (3 : Int32)), .val (.int (0 : Int32)), .unset, .unset] [(.ref ad)])) := fun t k => R2 t (XS.iconst X1.here hx rfl (hb hby d4_8) (XS.istoreN X1.here hx rfl (hb hby d4_9) rfl (l' := #[.val (.ref b), .val (.ref ad), .val (.int (3 : Int32)), .val (.int (0 : Int32)), .unset, .unset]) rfl (XS.iloadN X1.here hx rfl (hb hby d4_10) rfl (XS.iloadN X1.here hx rfl (hb hby d4_11) rfl (XS.icmpNo X1.here hx rfl (hb hby d4_12) rfl (by decide) (XS.aloadN X1.here hx rfl (hb hby d4_15) rfl rfl k))))))
  have R4 : OGo p.tables e below S0 (T1.setTop (mkF m 24 #[.val (.ref b), .val (.ref ad), .val (.int (3 : Int32)), .val (.int (0 : Int32)), .val (.double x0), .second] [(.int (cmpValue (FP.dcmp x0 (0 : UInt64)) .l))])) := fun t k => R3 t (XS.iloadN X1.here hx rfl (hb hby d4_16) rfl (own_dald (v := (.double x0)) X1 hx hZ e1 A0 (k := 0) rfl (by decide) (i := 0) (by decide) (by decide) rfl rfl rfl (hb hby d4_17) (XS.dstore X1.here hx rfl (hb hby d4_18) rfl (l' := #[.val (.ref b), .val (.ref ad), .val (.int (3 : Int32)), .val (.int (0 : Int32)), .val (.double x0), .second]) rfl (XS.dload X1.here hx rfl (hb hby d4_20) rfl (XS.dconst0 X1.here hx rfl (hb hby d4_22) rfl (XS.dcmpS X1.here hx rfl (hb hby d4_23) rfl rfl k))))))
  by_cases hq0 : (0 : Int32) < cmpValue (FP.dcmp x0 (0 : UInt64)) .l
  · skip
    have R5 : OGo p.tables e below S0 (T1.setTop (mkF m 28 #[.val (.ref b), .val (.ref ad), .val (.int (3 : Int32)), .val (.int (0 : Int32)), .val (.double x0), .second] [(.int (1 : Int32))])) := fun t k => R4 t (XS.ifNo X1.here hx rfl (hb hby d4_24) rfl ((if0 _ _).trans (tlt hq0).2.2.2) (XS.iconst X1.here hx rfl (hb hby d4_27) k))
    have hval : own_any [x0, x1, x2] = (1 : Int32) := by simp [own_any, hq0]
    rw [hval]
    exact ⟨_, _, _, _, X1, by decide, by decide, N0, e1, fun fs hr => R5 _ (retN X1 hx (t := .boolean) hret (by simp) (hb hby d4_28) hr)⟩
  · skip
    have R6 : OGo p.tables e below S0 (T1.setTop (mkF m 15 #[.val (.ref b), .val (.ref ad), .val (.int (3 : Int32)), .val (.int (1 : Int32)), .val (.double x0), .second] [])) := fun t k => R4 t (XS.ifYes X1.here hx rfl (pc0 := 24) (pc' := 29) rfl (hb hby d4_24) rfl ((if0 _ _).trans (flt hq0).2.2.2) (by decide) (by decide) (own_iinc (v := 1) X1.here hx rfl (hb hby d4_29) rfl (by decide) (l' := #[.val (.ref b), .val (.ref ad), .val (.int (3 : Int32)), .val (.int (1 : Int32)), .val (.double x0), .second]) rfl (XS.goto X1.here hx rfl (pc0 := 32) (pc' := 10) rfl (hb hby d4_32) (by decide) (by decide) (XS.iloadN X1.here hx rfl (hb hby d4_10) rfl (XS.iloadN X1.here hx rfl (hb hby d4_11) rfl (XS.icmpNo X1.here hx rfl (hb hby d4_12) rfl (by decide) k))))))
    have R7 : OGo p.tables e below S0 (T1.setTop (mkF m 23 #[.val (.ref b), .val (.ref ad), .val (.int (3 : Int32)), .val (.int (1 : Int32)), .val (.double x1), .second] [(.double (0 : UInt64)), (.double x1)])) := fun t k => R6 t (XS.aloadN X1.here hx rfl (hb hby d4_15) rfl rfl (XS.iloadN X1.here hx rfl (hb hby d4_16) rfl (own_dald (v := (.double x1)) X1 hx hZ e1 A0 (k := 0) rfl (by decide) (i := 1) (by decide) (by decide) rfl rfl rfl (hb hby d4_17) (XS.dstore X1.here hx rfl (hb hby d4_18) rfl (l' := #[.val (.ref b), .val (.ref ad), .val (.int (3 : Int32)), .val (.int (1 : Int32)), .val (.double x1), .second]) rfl (XS.dload X1.here hx rfl (hb hby d4_20) rfl (XS.dconst0 X1.here hx rfl (hb hby d4_22) rfl k))))))
    have R8 : OGo p.tables e below S0 (T1.setTop (mkF m 24 #[.val (.ref b), .val (.ref ad), .val (.int (3 : Int32)), .val (.int (1 : Int32)), .val (.double x1), .second] [(.int (cmpValue (FP.dcmp x1 (0 : UInt64)) .l))])) := fun t k => R7 t (XS.dcmpS X1.here hx rfl (hb hby d4_23) rfl rfl k)
    by_cases hq1 : (0 : Int32) < cmpValue (FP.dcmp x1 (0 : UInt64)) .l
    · skip
      have R9 : OGo p.tables e below S0 (T1.setTop (mkF m 28 #[.val (.ref b), .val (.ref ad), .val (.int (3 : Int32)), .val (.int (1 : Int32)), .val (.double x1), .second] [(.int (1 : Int32))])) := fun t k => R8 t (XS.ifNo X1.here hx rfl (hb hby d4_24) rfl ((if0 _ _).trans (tlt hq1).2.2.2) (XS.iconst X1.here hx rfl (hb hby d4_27) k))
      have hval : own_any [x0, x1, x2] = (1 : Int32) := by simp [own_any, hq0, hq1]
      rw [hval]
      exact ⟨_, _, _, _, X1, by decide, by decide, N0, e1, fun fs hr => R9 _ (retN X1 hx (t := .boolean) hret (by simp) (hb hby d4_28) hr)⟩
    · skip
      have R10 : OGo p.tables e below S0 (T1.setTop (mkF m 15 #[.val (.ref b), .val (.ref ad), .val (.int (3 : Int32)), .val (.int (2 : Int32)), .val (.double x1), .second] [])) := fun t k => R8 t (XS.ifYes X1.here hx rfl (pc0 := 24) (pc' := 29) rfl (hb hby d4_24) rfl ((if0 _ _).trans (flt hq1).2.2.2) (by decide) (by decide) (own_iinc (v := 2) X1.here hx rfl (hb hby d4_29) rfl (by decide) (l' := #[.val (.ref b), .val (.ref ad), .val (.int (3 : Int32)), .val (.int (2 : Int32)), .val (.double x1), .second]) rfl (XS.goto X1.here hx rfl (pc0 := 32) (pc' := 10) rfl (hb hby d4_32) (by decide) (by decide) (XS.iloadN X1.here hx rfl (hb hby d4_10) rfl (XS.iloadN X1.here hx rfl (hb hby d4_11) rfl (XS.icmpNo X1.here hx rfl (hb hby d4_12) rfl (by decide) k))))))
      have R11 : OGo p.tables e below S0 (T1.setTop (mkF m 23 #[.val (.ref b), .val (.ref ad), .val (.int (3 : Int32)), .val (.int (2 : Int32)), .val (.double x2), .second] [(.double (0 : UInt64)), (.double x2)])) := fun t k => R10 t (XS.aloadN X1.here hx rfl (hb hby d4_15) rfl rfl (XS.iloadN X1.here hx rfl (hb hby d4_16) rfl (own_dald (v := (.double x2)) X1 hx hZ e1 A0 (k := 0) rfl (by decide) (i := 2) (by decide) (by decide) rfl rfl rfl (hb hby d4_17) (XS.dstore X1.here hx rfl (hb hby d4_18) rfl (l' := #[.val (.ref b), .val (.ref ad), .val (.int (3 : Int32)), .val (.int (2 : Int32)), .val (.double x2), .second]) rfl (XS.dload X1.here hx rfl (hb hby d4_20) rfl (XS.dconst0 X1.here hx rfl (hb hby d4_22) rfl k))))))
      have R12 : OGo p.tables e below S0 (T1.setTop (mkF m 24 #[.val (.ref b), .val (.ref ad), .val (.int (3 : Int32)), .val (.int (2 : Int32)), .val (.double x2), .second] [(.int (cmpValue (FP.dcmp x2 (0 : UInt64)) .l))])) := fun t k => R11 t (XS.dcmpS X1.here hx rfl (hb hby d4_23) rfl rfl k)
      by_cases hq2 : (0 : Int32) < cmpValue (FP.dcmp x2 (0 : UInt64)) .l
      · skip
        have R13 : OGo p.tables e below S0 (T1.setTop (mkF m 28 #[.val (.ref b), .val (.ref ad), .val (.int (3 : Int32)), .val (.int (2 : Int32)), .val (.double x2), .second] [(.int (1 : Int32))])) := fun t k => R12 t (XS.ifNo X1.here hx rfl (hb hby d4_24) rfl ((if0 _ _).trans (tlt hq2).2.2.2) (XS.iconst X1.here hx rfl (hb hby d4_27) k))
        have hval : own_any [x0, x1, x2] = (1 : Int32) := by simp [own_any, hq0, hq1, hq2]
        rw [hval]
        exact ⟨_, _, _, _, X1, by decide, by decide, N0, e1, fun fs hr => R13 _ (retN X1 hx (t := .boolean) hret (by simp) (hb hby d4_28) hr)⟩
      · skip
        have R14 : OGo p.tables e below S0 (T1.setTop (mkF m 35 #[.val (.ref b), .val (.ref ad), .val (.int (3 : Int32)), .val (.int (3 : Int32)), .val (.double x2), .second] [])) := fun t k => R12 t (XS.ifYes X1.here hx rfl (pc0 := 24) (pc' := 29) rfl (hb hby d4_24) rfl ((if0 _ _).trans (flt hq2).2.2.2) (by decide) (by decide) (own_iinc (v := 3) X1.here hx rfl (hb hby d4_29) rfl (by decide) (l' := #[.val (.ref b), .val (.ref ad), .val (.int (3 : Int32)), .val (.int (3 : Int32)), .val (.double x2), .second]) rfl (XS.goto X1.here hx rfl (pc0 := 32) (pc' := 10) rfl (hb hby d4_32) (by decide) (by decide) (XS.iloadN X1.here hx rfl (hb hby d4_10) rfl (XS.iloadN X1.here hx rfl (hb hby d4_11) rfl (XS.icmpYes X1.here hx rfl (pc0 := 12) (pc' := 35) rfl (hb hby d4_12) rfl (by decide) (by decide) (by decide) k))))))
        have R15 : OGo p.tables e below S0 (T1.setTop (mkF m 36 #[.val (.ref b), .val (.ref ad), .val (.int (3 : Int32)), .val (.int (3 : Int32)), .val (.double x2), .second] [(.int (0 : Int32))])) := fun t k => R14 t (XS.iconst X1.here hx rfl (hb hby d4_35) k)
        have hval : own_any [x0, x1, x2] = (0 : Int32) := by simp [own_any, hq0, hq1, hq2]
        rw [hval]
        exact ⟨_, _, _, _, X1, by decide, by decide, N0, e1, fun fs hr => R15 _ (retN X1 hx (t := .boolean) hret (by simp) (hb hby d4_36) hr)⟩
set_option maxRecDepth 65536 in
set_option maxHeartbeats 40000000 in
theorem own_rm0 (l : Launch) (Z : State) (a0 : Array Value) (hw : ∀ d ∈ tables_1, d.before a0 Z = true) (n0 : Nat) (h0 : Heap) (Z0 : n0 ≤ h0.size) (v0 v1 v2 v3 : Int32) :
    MetFree l x (head1 (Jvm.Cond.code x code maxLocals ret :: tables_1) room_1) (fun a U => a = #[(.int v0), (.int v1), (.int v2), (.int v3)] ∧ Z.Warmed39 U.vm ∧ U.heap = h0) (fun _ _ _ _ _ => True) (fun _ U o U' => ∃ v L, o = .returned v ∧ (v = some (.int 1) ∧ Fr n0 L) ∧ ReturnedEndW U o U' L room_1.cells room_1.slots) := by
  refine own_bodyW (y := x) (plainFor_of_name pn_law) (fun h => by cases h) tables_1 ?_
  intro p e s m below meth c s₁ S0 hx hby hml hown hnm hret hZ X0 e0 Rs
  have N0 := Fr.nil n0
  have R0 : OGo p.tables e below S0 (s₁.setTop (mkF m 0 #[.val (.int v0), .val (.int v1), .val (.int v2), .val (.int v3), .unset, .unset, .unset, .unset, .unset, .unset, .unset, .unset, .unset, .unset] [])) := fun t k => Rs t (castTop (ef_law m v0 v1 v2 v3) k)
  have R1 : OGo p.tables e below S0 (s₁.setTop (mkF m 3 #[.val (.int v0), .val (.int v1), .val (.int v2), .val (.int v3), .unset, .unset, .unset, .unset, .unset, .unset, .unset, .unset, .unset, .unset] [(.int (v0 &&& (3 : Int32)))])) := fun t k => R0 t (XS.iloadN X0.here hx rfl (hb hby at_0) rfl (XS.iconst X0.here hx rfl (hb hby at_1) (XS.iand X0.here hx rfl (hb hby at_2) rfl k)))
  obtain ⟨nv, e_nv⟩ : ∃ z, z = (v0 &&& (3 : Int32)) := ⟨_, rfl⟩
  have R2 : OGo p.tables e below S0 (s₁.setTop (mkF m 3 #[.val (.int v0), .val (.int v1), .val (.int v2), .val (.int v3), .unset, .unset, .unset, .unset, .unset, .unset, .unset, .unset, .unset, .unset] [(.int nv)])) := by rw [e_nv]; exact R1
  have R3 : OGo p.tables e below S0 (s₁.setTop (mkF m 9 #[.val (.int v0), .val (.int v1), .val (.int v2), .val (.int v3), .val (.int nv), .unset, .unset, .unset, .unset, .unset, .unset, .unset, .unset, .unset] [(.double (FP.i2d (v1 % (5 : Int32))))])) := fun t k => R2 t (XS.istore X0.here hx rfl (hb hby at_3) rfl (l' := #[.val (.int v0), .val (.int v1), .val (.int v2), .val (.int v3), .val (.int nv), .unset, .unset, .unset, .unset, .unset, .unset, .unset, .unset, .unset]) rfl (XS.iloadN X0.here hx rfl (hb hby at_5) rfl (XS.iconst X0.here hx rfl (hb hby at_6) (iremM X0 hx rfl (hb hby at_7) rfl (by decide) (XS.i2dS X0.here hx rfl (hb hby at_8) rfl rfl k)))))
  obtain ⟨xa, e_xa⟩ : ∃ z, z = (FP.i2d (v1 % (5 : Int32))) := ⟨_, rfl⟩
  have R4 : OGo p.tables e below S0 (s₁.setTop (mkF m 9 #[.val (.int v0), .val (.int v1), .val (.int v2), .val (.int v3), .val (.int nv), .unset, .unset, .unset, .unset, .unset, .unset, .unset, .unset, .unset] [(.double xa)])) := by rw [e_xa]; exact R3
  have R5 : OGo p.tables e below S0 (s₁.setTop (mkF m 15 #[.val (.int v0), .val (.int v1), .val (.int v2), .val (.int v3), .val (.int nv), .val (.double xa), .second, .unset, .unset, .unset, .unset, .unset, .unset, .unset] [(.double (FP.i2d (v2 % (5 : Int32))))])) := fun t k => R4 t (XS.dstore X0.here hx rfl (hb hby at_9) rfl (l' := #[.val (.int v0), .val (.int v1), .val (.int v2), .val (.int v3), .val (.int nv), .val (.double xa), .second, .unset, .unset, .unset, .unset, .unset, .unset, .unset]) rfl (XS.iloadN X0.here hx rfl (hb hby at_11) rfl (XS.iconst X0.here hx rfl (hb hby at_12) (iremM X0 hx rfl (hb hby at_13) rfl (by decide) (XS.i2dS X0.here hx rfl (hb hby at_14) rfl rfl k)))))
  obtain ⟨xb, e_xb⟩ : ∃ z, z = (FP.i2d (v2 % (5 : Int32))) := ⟨_, rfl⟩
  have R6 : OGo p.tables e below S0 (s₁.setTop (mkF m 15 #[.val (.int v0), .val (.int v1), .val (.int v2), .val (.int v3), .val (.int nv), .val (.double xa), .second, .unset, .unset, .unset, .unset, .unset, .unset, .unset] [(.double xb)])) := by rw [e_xb]; exact R5
  have R7 : OGo p.tables e below S0 (s₁.setTop (mkF m 21 #[.val (.int v0), .val (.int v1), .val (.int v2), .val (.int v3), .val (.int nv), .val (.double xa), .second, .val (.double xb), .second, .unset, .unset, .unset, .unset, .unset] [(.double (FP.i2d (v3 % (5 : Int32))))])) := fun t k => R6 t (XS.dstore X0.here hx rfl (hb hby at_15) rfl (l' := #[.val (.int v0), .val (.int v1), .val (.int v2), .val (.int v3), .val (.int nv), .val (.double xa), .second, .val (.double xb), .second, .unset, .unset, .unset, .unset, .unset]) rfl (XS.iloadN X0.here hx rfl (hb hby at_17) rfl (XS.iconst X0.here hx rfl (hb hby at_18) (iremM X0 hx rfl (hb hby at_19) rfl (by decide) (XS.i2dS X0.here hx rfl (hb hby at_20) rfl rfl k)))))
  obtain ⟨xc, e_xc⟩ : ∃ z, z = (FP.i2d (v3 % (5 : Int32))) := ⟨_, rfl⟩
  have R8 : OGo p.tables e below S0 (s₁.setTop (mkF m 21 #[.val (.int v0), .val (.int v1), .val (.int v2), .val (.int v3), .val (.int nv), .val (.double xa), .second, .val (.double xb), .second, .unset, .unset, .unset, .unset, .unset] [(.double xc)])) := by rw [e_xc]; exact R7
  have R9 : OGo p.tables e below S0 (s₁.setTop (mkF m 23 #[.val (.int v0), .val (.int v1), .val (.int v2), .val (.int v3), .val (.int nv), .val (.double xa), .second, .val (.double xb), .second, .val (.double xc), .second, .unset, .unset, .unset] [])) := fun t k => R8 t (XS.dstore X0.here hx rfl (hb hby at_21) rfl (l' := #[.val (.int v0), .val (.int v1), .val (.int v2), .val (.int v3), .val (.int nv), .val (.double xa), .second, .val (.double xb), .second, .val (.double xc), .second, .unset, .unset, .unset]) rfl k)
  rcases own_and3 v0 e_nv with hn | hn | hn | hn
  · clear e_nv
    subst hn
    obtain ⟨T10, h10, a10, X10, e10, Ex10, ge10, z10, A10, st10⟩ := own_newA X0 hx hZ (own_q hw 0 rfl) e0 (n0 := n0) Z0 (g := (mkF m 29 #[.val (.int v0), .val (.int v1), .val (.int v2), .val (.int v3), .val (.int (0 : Int32)), .val (.double xa), .second, .val (.double xb), .second, .val (.double xc), .second, .unset, .unset, .unset] [(.int (0 : Int32))])) rfl (hb hby at_29) rfl (by decide) (cap := 0) (by decide) (by decide) (by decide) (by decide) [] rfl
    have A10s : OArs Z h10 n0 [(a10, .double, 0, [])] := OArs.snoc (OArs.nil Z h0 n0) Ex10 A10 ge10
    have R11 : OGo p.tables e below S0 (T10.setTop (mkF m 99 #[.val (.int v0), .val (.int v1), .val (.int v2), .val (.int v3), .val (.int (0 : Int32)), .val (.double xa), .second, .val (.double xb), .second, .val (.double xc), .second, .val (.ref a10), .unset, .unset] [])) := fun t k => R9 t (XS.iload X0.here hx rfl (hb hby at_23) rfl (XS.ifNo X0.here hx rfl (hb hby at_25) rfl (by decide) (XS.iconst X0.here hx rfl (hb hby at_28) (st10 t (XS.astore X10.here hx rfl (hb hby at_31) rfl rfl (l' := #[.val (.int v0), .val (.int v1), .val (.int v2), .val (.int v3), .val (.int (0 : Int32)), .val (.double xa), .second, .val (.double xb), .second, .val (.double xc), .second, .val (.ref a10), .unset, .unset]) rfl (XS.goto X10.here hx rfl (pc0 := 33) (pc' := 99) rfl (hb hby at_33) (by decide) (by decide) k))))))
    have hz12 : n0 ≤ h10.size := Nat.le_trans Z0 (by rw [← e10, ← e0]; exact own_grow X0 X10)
    obtain ⟨T12, h12, b, X12, e12, H12, st12⟩ := own_newO X10 hx hZ hown (own_q hw 1 rfl) (own_q hw 2 rfl) (own_q hw 3 rfl) e10 (n0 := n0) hz12 A10s (own_laid Z a0 hw) (vs := [.null, .null, .null, .null, (.double (0 : UInt64)), (.double (0 : UInt64)), (.int (0 : Int32))]) own_dflt (g := (mkF m 99 #[.val (.int v0), .val (.int v1), .val (.int v2), .val (.int v3), .val (.int (0 : Int32)), .val (.double xa), .second, .val (.double xb), .second, .val (.double xc), .second, .val (.ref a10), .unset, .unset] [])) rfl (hb hby at_99) (by decide) (by decide)
    have R14 : OGo p.tables e below S0 (T12.setTop (mkF m 103 #[.val (.int v0), .val (.int v1), .val (.int v2), .val (.int v3), .val (.int (0 : Int32)), .val (.double xa), .second, .val (.double xb), .second, .val (.double xc), .second, .val (.ref a10), .unset, .unset] [(.ref b), (.ref b)])) := fun t k => R11 t (st12 t (XS.dup X12.here hx rfl (hb hby at_102) rfl rfl k))
    obtain ⟨sa, T13, h13, k13, X13, e13, E13, hS13, hk13, hZ2, hown2, st13⟩ := ldcS (s := s) (vm0 := s.vm) X12 hx hZ hown (own_q hw 4 rfl) (own_satoms Z a0 hw) e12 (k0 := 0) (own_since0 s) (Nat.zero_le _) (g := (mkF m 103 #[.val (.int v0), .val (.int v1), .val (.int v2), .val (.int v3), .val (.int (0 : Int32)), .val (.double xa), .second, .val (.double xb), .second, .val (.double xc), .second, .val (.ref a10), .unset, .unset] [(.ref b), (.ref b)])) rfl (hb hby at_103) (n := 4) (by decide) (by decide) (by decide) (by decide)
    have H13 : OHp Z h13 n0 "com/example/lotparley/lotparley/Item" own_FN b [.null, .null, .null, .null, (.double (0 : UInt64)), (.double (0 : UInt64)), (.int (0 : Int32))] [(a10, .double, 0, [])] := OHp.ext E13 H12
    obtain ⟨T15, h15, a15, X15, e15, Ex15, ge15, z15, A15, st15⟩ := own_newA X13 hx hZ2 (own_q hw 12 rfl) e13 (n0 := n0) (Nat.le_trans H13.1 (Nat.le_of_lt H13.2.1.lt)) (g := (mkF m 108 #[.val (.int v0), .val (.int v1), .val (.int v2), .val (.int v3), .val (.int (0 : Int32)), .val (.double xa), .second, .val (.double xb), .second, .val (.double xc), .second, .val (.ref a10), .unset, .unset] [(.int (0 : Int32)), (.ref a10), (.ref sa), (.ref b), (.ref b)])) rfl (hb hby at_108) rfl (by decide) (cap := 0) (by decide) (by decide) (by decide) (by decide) [] rfl
    have H15 : OHp Z h15 n0 "com/example/lotparley/lotparley/Item" own_FN b [.null, .null, .null, .null, (.double (0 : UInt64)), (.double (0 : UInt64)), (.int (0 : Int32))] [(a10, .double, 0, []), (a15, .int, 0, [])] := OHp.snoc H13 Ex15 A15 ge15
    obtain ⟨T16, h16, a16, X16, e16, Ex16, ge16, z16, A16, st16⟩ := own_newA X15 hx hZ2 (own_q hw 0 rfl) e15 (n0 := n0) (Nat.le_trans H15.1 (Nat.le_of_lt H15.2.1.lt)) (g := (mkF m 111 #[.val (.int v0), .val (.int v1), .val (.int v2), .val (.int v3), .val (.int (0 : Int32)), .val (.double xa), .second, .val (.double xb), .second, .val (.double xc), .second, .val (.ref a10), .unset, .unset] [(.int (0 : Int32)), (.ref a15), (.ref a10), (.ref sa), (.ref b), (.ref b)])) rfl (hb hby at_111) rfl (by decide) (cap := 0) (by decide) (by decide) (by decide) (by decide) [] rfl
    have H16 : OHp Z h16 n0 "com/example/lotparley/lotparley/Item" own_FN b [.null, .null, .null, .null, (.double (0 : UInt64)), (.double (0 : UInt64)), (.int (0 : Int32))] [(a10, .double, 0, []), (a15, .int, 0, []), (a16, .double, 0, [])] := OHp.snoc H15 Ex16 A16 ge16
    have R17 : OGo p.tables e below S0 (T16.setTop (mkF m 113 #[.val (.int v0), .val (.int v1), .val (.int v2), .val (.int v3), .val (.int (0 : Int32)), .val (.double xa), .second, .val (.double xb), .second, .val (.double xc), .second, .val (.ref a10), .unset, .unset] [(.ref a16), (.ref a15), (.ref a10), (.ref sa), (.ref b), (.ref b)])) := fun t k => R14 t (st13 t (XS.aload X13.here hx rfl (hb hby at_105) rfl rfl (XS.iconst X13.here hx rfl (hb hby at_107) (st15 t (XS.iconst X15.here hx rfl (hb hby at_110) (st16 t k))))))
    have R18 : OGo p.tables e below S0 (T16.setTop (mkF m 116 #[.val (.int v0), .val (.int v1), .val (.int v2), .val (.int v3), .val (.int (0 : Int32)), .val (.double xa), .second, .val (.double xb), .second, .val (.double xc), .second, .val (.ref a10), .unset, .unset] [(.int (-1 : Int32)), (.double (4607182418800017408 : UInt64)), (.double (4607182418800017408 : UInt64)), (.ref a16), (.ref a15), (.ref a10), (.ref sa), (.ref b), (.ref b)])) := fun t k => R17 t (XS.dconst1 X16.here hx rfl (hb hby at_113) rfl (XS.dconst1 X16.here hx rfl (hb hby at_114) rfl (XS.iconst X16.here hx rfl (hb hby at_115) k)))
    obtain ⟨T19, lc19, X19, N19, P19, st19⟩ := own_callI X16 hx hZ2 (y := (⟨"com/example/lotparley/lotparley/Item", "<init>", "(Ljava/lang/String;[D[I[DDDI)V"⟩ : MethodName)) rfl hown2 (own_q hw 13 rfl) (own_q hw 14 rfl) (own_q hw 15 rfl) (own_q hw 3 rfl) (by decide) (W := 1) (own_rmInit l Z a0 hw n0 _ b [(a10, .double, 0, []), (a15, .int, 0, []), (a16, .double, 0, [])] sa a10 a15 a16 4607182418800017408 4607182418800017408 (-1) H16) e16 N0 (by decide) (by decide) (by decide) (by decide) (g := (mkF m 116 #[.val (.int v0), .val (.int v1), .val (.int v2), .val (.int v3), .val (.int (0 : Int32)), .val (.double xa), .second, .val (.double xb), .second, .val (.double xc), .second, .val (.ref a10), .unset, .unset] [(.int (-1 : Int32)), (.double (4607182418800017408 : UInt64)), (.double (4607182418800017408 : UInt64)), (.ref a16), (.ref a15), (.ref a10), (.ref sa), (.ref b), (.ref b)])) rfl (by rw [hml]; rfl) (argsL := [(.ref sa), (.ref a10), (.ref a15), (.ref a16), (.double (4607182418800017408 : UInt64)), (.double (4607182418800017408 : UInt64)), (.int (-1 : Int32))]) (rest := [(.ref b)]) (lenOf pd__Ljava_lang_String__D_I_DDDI_V rfl) rfl rfl (Nat.le_of_eq rfl) (hb hby at_116)
    have H19 : OHp Z T19.heap n0 "com/example/lotparley/lotparley/Item" own_FN b [(.ref sa), (.ref a10), (.ref a15), (.ref a16), (.double (4607182418800017408 : UInt64)), (.double (4607182418800017408 : UInt64)), (.int (-1 : Int32))] [(a10, .double, 0, []), (a15, .int, 0, []), (a16, .double, 0, [])] := P19.2
    have R20 : OGo p.tables e below S0 (T19.setTop (mkF m 119 #[.val (.int v0), .val (.int v1), .val (.int v2), .val (.int v3), .val (.int (0 : Int32)), .val (.double xa), .second, .val (.double xb), .second, .val (.double xc), .second, .val (.ref a10), .unset, .unset] [(.ref b)])) := fun t k => R18 t (st19 t k)
    have hgr : k13 ≤ T19.heap.size := Nat.le_trans hk13 (Nat.le_trans Ex15.1 (Nat.le_trans Ex16.1 P19.1))
    have R22 : OGo p.tables e below S0 (T19.setTop (mkF m 121 #[.val (.int v0), .val (.int v1), .val (.int v2), .val (.int v3), .val (.int (0 : Int32)), .val (.double xa), .second, .val (.double xb), .second, .val (.double xc), .second, .val (.ref a10), .val (.ref b), .unset] [])) := fun t k => R20 t (XS.astore X19.here hx rfl (hb hby at_119) rfl rfl (l' := #[.val (.int v0), .val (.int v1), .val (.int v2), .val (.int v3), .val (.int (0 : Int32)), .val (.double xa), .second, .val (.double xb), .second, .val (.double xc), .second, .val (.ref a10), .val (.ref b), .unset]) rfl k)
    have R21 : OGo p.tables e below S0 (T19.setTop (mkF m 165 #[.val (.int v0), .val (.int v1), .val (.int v2), .val (.int v3), .val (.int (0 : Int32)), .val (.double xa), .second, .val (.double xb), .second, .val (.double xc), .second, .val (.ref a10), .val (.ref b), .unset] [(.int (own_any []))])) := by
      have R23 : OGo p.tables e below S0 (T19.setTop (mkF m 147 #[.val (.int v0), .val (.int v1), .val (.int v2), .val (.int v3), .val (.int (0 : Int32)), .val (.double xa), .second, .val (.double xb), .second, .val (.double xc), .second, .val (.ref a10), .val (.ref b), .unset] [])) := fun t k => R22 t (XS.iload X19.here hx rfl (hb hby at_121) rfl (XS.iconst X19.here hx rfl (hb hby at_123) (XS.icmpYes X19.here hx rfl (pc0 := 124) (pc' := 134) rfl (hb hby at_124) rfl (by decide) (by decide) (by decide) (XS.iload X19.here hx rfl (hb hby at_134) rfl (XS.iconst X19.here hx rfl (hb hby at_136) (XS.icmpYes X19.here hx rfl (pc0 := 137) (pc' := 147) rfl (hb hby at_137) rfl (by decide) (by decide) (by decide) k))))))
      have R24 : OGo p.tables e below S0 (T19.setTop (mkF m 165 #[.val (.int v0), .val (.int v1), .val (.int v2), .val (.int v3), .val (.int (0 : Int32)), .val (.double xa), .second, .val (.double xb), .second, .val (.double xc), .second, .val (.ref a10), .val (.ref b), .unset] [(.int (0 : Int32))])) := fun t k => R23 t (XS.iload X19.here hx rfl (hb hby at_147) rfl (XS.iconst X19.here hx rfl (hb hby at_149) (XS.icmpYes X19.here hx rfl (pc0 := 150) (pc' := 164) rfl (hb hby at_150) rfl (by decide) (by decide) (by decide) (XS.iconst X19.here hx rfl (hb hby at_164) k))))
      have hval : own_any [] = (0 : Int32) := by simp [own_any]
      rw [hval]
      exact R24
    have R25 : OGo p.tables e below S0 (T19.setTop (mkF m 169 #[.val (.int v0), .val (.int v1), .val (.int v2), .val (.int v3), .val (.int (0 : Int32)), .val (.double xa), .second, .val (.double xb), .second, .val (.double xc), .second, .val (.ref a10), .val (.ref b), .val (.int (own_any []))] [(.ref b)])) := fun t k => R21 t (XS.istore X19.here hx rfl (hb hby at_165) rfl (l' := #[.val (.int v0), .val (.int v1), .val (.int v2), .val (.int v3), .val (.int (0 : Int32)), .val (.double xa), .second, .val (.double xb), .second, .val (.double xc), .second, .val (.ref a10), .val (.ref b), .val (.int (own_any []))]) rfl (XS.aload X19.here hx rfl (hb hby at_167) rfl rfl k))
    obtain ⟨T26, lc26, X26, N26, P26, st26⟩ := own_callV X19 hx hZ2 (y := (⟨"com/example/lotparley/lotparley/Item", "hasDemand", "()Z"⟩ : MethodName)) hown2 (own_q hw 38 rfl) (own_q hw 39 rfl) (own_q hw 41 rfl) (own_q hw 40 rfl) (own_q hw 42 rfl) (own_q hw 3 rfl) (by decide) (W := 0) (own_rmHd0 l Z a0 hw n0 _ b _ a10 _ _ _ _ _ _  H19 (OArs.one H19.2.2.2 (k := 0) rfl)) rfl H19.2.1 N19 (by decide) (by decide) (by decide) (by decide) (g := (mkF m 169 #[.val (.int v0), .val (.int v1), .val (.int v2), .val (.int v3), .val (.int (0 : Int32)), .val (.double xa), .second, .val (.double xb), .second, .val (.double xc), .second, .val (.ref a10), .val (.ref b), .val (.int (own_any []))] [(.ref b)])) rfl (by rw [hml]; rfl) (argsL := []) (rest := []) (lenOf pd___Z rfl) rfl rfl (Nat.le_of_eq rfl) (hb hby at_169)
    have R27 : OGo p.tables e below S0 (T26.setTop (mkF m 182 #[.val (.int v0), .val (.int v1), .val (.int v2), .val (.int v3), .val (.int (0 : Int32)), .val (.double xa), .second, .val (.double xb), .second, .val (.double xc), .second, .val (.ref a10), .val (.ref b), .val (.int (own_any []))] [(.int (1 : Int32))])) := fun t k => R25 t (st26 t (XS.iload X26.here hx rfl (hb hby at_172) rfl (XS.icmpNo X26.here hx rfl (hb hby at_174) rfl ((teq rfl).2) (XS.iconst X26.here hx rfl (hb hby at_177) (XS.goto X26.here hx rfl (pc0 := 178) (pc' := 182) rfl (hb hby at_178) (by decide) (by decide) k)))))
    exact ⟨_, _, _, _, _, _, X26, hS13, by rw [P26]; exact hgr, by decide, by decide, N26, fun fs hr => R27 _ (retN X26 hx (t := .boolean) hret (by simp) (hb hby at_182) hr)⟩
  · clear e_nv
    subst hn
    have R28 : OGo p.tables e below S0 (s₁.setTop (mkF m 43 #[.val (.int v0), .val (.int v1), .val (.int v2), .val (.int v3), .val (.int (1 : Int32)), .val (.double xa), .second, .val (.double xb), .second, .val (.double xc), .second, .unset, .unset, .unset] [(.int (1 : Int32))])) := fun t k => R9 t (XS.iload X0.here hx rfl (hb hby at_23) rfl (XS.ifYes X0.here hx rfl (pc0 := 25) (pc' := 36) rfl (hb hby at_25) rfl (by decide) (by decide) (by decide) (XS.iload X0.here hx rfl (hb hby at_36) rfl (XS.iconst X0.here hx rfl (hb hby at_38) (XS.icmpNo X0.here hx rfl (hb hby at_39) rfl (by decide) (XS.iconst X0.here hx rfl (hb hby at_42) k))))))
    obtain ⟨T29, h29, a29, X29, e29, Ex29, ge29, z29, A29, st29⟩ := own_newA X0 hx hZ (own_q hw 0 rfl) e0 (n0 := n0) Z0 (g := (mkF m 43 #[.val (.int v0), .val (.int v1), .val (.int v2), .val (.int v3), .val (.int (1 : Int32)), .val (.double xa), .second, .val (.double xb), .second, .val (.double xc), .second, .unset, .unset, .unset] [(.int (1 : Int32))])) rfl (hb hby at_43) rfl (by decide) (cap := 1) (by decide) (by decide) (by decide) (by decide) [(.double (0 : UInt64))] rfl
    have A29s : OArs Z h29 n0 [(a29, .double, 1, [(.double (0 : UInt64))])] := OArs.snoc (OArs.nil Z h0 n0) Ex29 A29 ge29
    obtain ⟨T30, h30, lc30, X30, e30, N30, W30, st30⟩ := own_stD X29 hx hZ e29 A29s (k := 0) rfl (by decide) (i := 0) (by decide) (own_lt rfl) (by decide) N0 (g := (mkF m 49 #[.val (.int v0), .val (.int v1), .val (.int v2), .val (.int v3), .val (.int (1 : Int32)), .val (.double xa), .second, .val (.double xb), .second, .val (.double xc), .second, .unset, .unset, .unset] [(.double xa), (.int (0 : Int32)), (.ref a29), (.ref a29)])) rfl rfl (hb hby at_49)
    have A30s : OArs Z h30 n0 [(a29, .double, 1, [(.double xa)])] := OArs.set A29s (k := 0) rfl W30 (own_lt rfl)
    have R31 : OGo p.tables e below S0 (T30.setTop (mkF m 52 #[.val (.int v0), .val (.int v1), .val (.int v2), .val (.int v3), .val (.int (1 : Int32)), .val (.double xa), .second, .val (.double xb), .second, .val (.double xc), .second, .val (.ref a29), .unset, .unset] [])) := fun t k => R28 t (st29 t (XS.dup X29.here hx rfl (hb hby at_45) rfl rfl (XS.iconst X29.here hx rfl (hb hby at_46) (XS.dload X29.here hx rfl (hb hby at_47) rfl (st30 t (XS.astore X30.here hx rfl (hb hby at_50) rfl rfl (l' := #[.val (.int v0), .val (.int v1), .val (.int v2), .val (.int v3), .val (.int (1 : Int32)), .val (.double xa), .second, .val (.double xb), .second, .val (.double xc), .second, .val (.ref a29), .unset, .unset]) rfl k))))))
    have R33 : OGo p.tables e below S0 (T30.setTop (mkF m 99 #[.val (.int v0), .val (.int v1), .val (.int v2), .val (.int v3), .val (.int (1 : Int32)), .val (.double xa), .second, .val (.double xb), .second, .val (.double xc), .second, .val (.ref a29), .unset, .unset] [])) := fun t k => R31 t (XS.goto X30.here hx rfl (pc0 := 52) (pc' := 99) rfl (hb hby at_52) (by decide) (by decide) k)
    have hz32 : n0 ≤ h30.size := Nat.le_trans Z0 (by rw [← e30, ← e0]; exact own_grow X0 X30)
    obtain ⟨T32, h32, b, X32, e32, H32, st32⟩ := own_newO X30 hx hZ hown (own_q hw 1 rfl) (own_q hw 2 rfl) (own_q hw 3 rfl) e30 (n0 := n0) hz32 A30s (own_laid Z a0 hw) (vs := [.null, .null, .null, .null, (.double (0 : UInt64)), (.double (0 : UInt64)), (.int (0 : Int32))]) own_dflt (g := (mkF m 99 #[.val (.int v0), .val (.int v1), .val (.int v2), .val (.int v3), .val (.int (1 : Int32)), .val (.double xa), .second, .val (.double xb), .second, .val (.double xc), .second, .val (.ref a29), .unset, .unset] [])) rfl (hb hby at_99) (by decide) (by decide)
    have R35 : OGo p.tables e below S0 (T32.setTop (mkF m 103 #[.val (.int v0), .val (.int v1), .val (.int v2), .val (.int v3), .val (.int (1 : Int32)), .val (.double xa), .second, .val (.double xb), .second, .val (.double xc), .second, .val (.ref a29), .unset, .unset] [(.ref b), (.ref b)])) := fun t k => R33 t (st32 t (XS.dup X32.here hx rfl (hb hby at_102) rfl rfl k))
    obtain ⟨sa, T34, h34, k34, X34, e34, E34, hS34, hk34, hZ2, hown2, st34⟩ := ldcS (s := s) (vm0 := s.vm) X32 hx hZ hown (own_q hw 4 rfl) (own_satoms Z a0 hw) e32 (k0 := 0) (own_since0 s) (Nat.zero_le _) (g := (mkF m 103 #[.val (.int v0), .val (.int v1), .val (.int v2), .val (.int v3), .val (.int (1 : Int32)), .val (.double xa), .second, .val (.double xb), .second, .val (.double xc), .second, .val (.ref a29), .unset, .unset] [(.ref b), (.ref b)])) rfl (hb hby at_103) (n := 4) (by decide) (by decide) (by decide) (by decide)
    have H34 : OHp Z h34 n0 "com/example/lotparley/lotparley/Item" own_FN b [.null, .null, .null, .null, (.double (0 : UInt64)), (.double (0 : UInt64)), (.int (0 : Int32))] [(a29, .double, 1, [(.double xa)])] := OHp.ext E34 H32
    obtain ⟨T36, h36, a36, X36, e36, Ex36, ge36, z36, A36, st36⟩ := own_newA X34 hx hZ2 (own_q hw 12 rfl) e34 (n0 := n0) (Nat.le_trans H34.1 (Nat.le_of_lt H34.2.1.lt)) (g := (mkF m 108 #[.val (.int v0), .val (.int v1), .val (.int v2), .val (.int v3), .val (.int (1 : Int32)), .val (.double xa), .second, .val (.double xb), .second, .val (.double xc), .second, .val (.ref a29), .unset, .unset] [(.int (0 : Int32)), (.ref a29), (.ref sa), (.ref b), (.ref b)])) rfl (hb hby at_108) rfl (by decide) (cap := 0) (by decide) (by decide) (by decide) (by decide) [] rfl
    have H36 : OHp Z h36 n0 "com/example/lotparley/lotparley/Item" own_FN b [.null, .null, .null, .null, (.double (0 : UInt64)), (.double (0 : UInt64)), (.int (0 : Int32))] [(a29, .double, 1, [(.double xa)]), (a36, .int, 0, [])] := OHp.snoc H34 Ex36 A36 ge36
    obtain ⟨T37, h37, a37, X37, e37, Ex37, ge37, z37, A37, st37⟩ := own_newA X36 hx hZ2 (own_q hw 0 rfl) e36 (n0 := n0) (Nat.le_trans H36.1 (Nat.le_of_lt H36.2.1.lt)) (g := (mkF m 111 #[.val (.int v0), .val (.int v1), .val (.int v2), .val (.int v3), .val (.int (1 : Int32)), .val (.double xa), .second, .val (.double xb), .second, .val (.double xc), .second, .val (.ref a29), .unset, .unset] [(.int (0 : Int32)), (.ref a36), (.ref a29), (.ref sa), (.ref b), (.ref b)])) rfl (hb hby at_111) rfl (by decide) (cap := 0) (by decide) (by decide) (by decide) (by decide) [] rfl
    have H37 : OHp Z h37 n0 "com/example/lotparley/lotparley/Item" own_FN b [.null, .null, .null, .null, (.double (0 : UInt64)), (.double (0 : UInt64)), (.int (0 : Int32))] [(a29, .double, 1, [(.double xa)]), (a36, .int, 0, []), (a37, .double, 0, [])] := OHp.snoc H36 Ex37 A37 ge37
    have R38 : OGo p.tables e below S0 (T37.setTop (mkF m 113 #[.val (.int v0), .val (.int v1), .val (.int v2), .val (.int v3), .val (.int (1 : Int32)), .val (.double xa), .second, .val (.double xb), .second, .val (.double xc), .second, .val (.ref a29), .unset, .unset] [(.ref a37), (.ref a36), (.ref a29), (.ref sa), (.ref b), (.ref b)])) := fun t k => R35 t (st34 t (XS.aload X34.here hx rfl (hb hby at_105) rfl rfl (XS.iconst X34.here hx rfl (hb hby at_107) (st36 t (XS.iconst X36.here hx rfl (hb hby at_110) (st37 t k))))))
    have R39 : OGo p.tables e below S0 (T37.setTop (mkF m 116 #[.val (.int v0), .val (.int v1), .val (.int v2), .val (.int v3), .val (.int (1 : Int32)), .val (.double xa), .second, .val (.double xb), .second, .val (.double xc), .second, .val (.ref a29), .unset, .unset] [(.int (-1 : Int32)), (.double (4607182418800017408 : UInt64)), (.double (4607182418800017408 : UInt64)), (.ref a37), (.ref a36), (.ref a29), (.ref sa), (.ref b), (.ref b)])) := fun t k => R38 t (XS.dconst1 X37.here hx rfl (hb hby at_113) rfl (XS.dconst1 X37.here hx rfl (hb hby at_114) rfl (XS.iconst X37.here hx rfl (hb hby at_115) k)))
    obtain ⟨T40, lc40, X40, N40, P40, st40⟩ := own_callI X37 hx hZ2 (y := (⟨"com/example/lotparley/lotparley/Item", "<init>", "(Ljava/lang/String;[D[I[DDDI)V"⟩ : MethodName)) rfl hown2 (own_q hw 13 rfl) (own_q hw 14 rfl) (own_q hw 15 rfl) (own_q hw 3 rfl) (by decide) (W := 1) (own_rmInit l Z a0 hw n0 _ b [(a29, .double, 1, [(.double xa)]), (a36, .int, 0, []), (a37, .double, 0, [])] sa a29 a36 a37 4607182418800017408 4607182418800017408 (-1) H37) e37 N30 (by decide) (by decide) (by decide) (by decide) (g := (mkF m 116 #[.val (.int v0), .val (.int v1), .val (.int v2), .val (.int v3), .val (.int (1 : Int32)), .val (.double xa), .second, .val (.double xb), .second, .val (.double xc), .second, .val (.ref a29), .unset, .unset] [(.int (-1 : Int32)), (.double (4607182418800017408 : UInt64)), (.double (4607182418800017408 : UInt64)), (.ref a37), (.ref a36), (.ref a29), (.ref sa), (.ref b), (.ref b)])) rfl (by rw [hml]; rfl) (argsL := [(.ref sa), (.ref a29), (.ref a36), (.ref a37), (.double (4607182418800017408 : UInt64)), (.double (4607182418800017408 : UInt64)), (.int (-1 : Int32))]) (rest := [(.ref b)]) (lenOf pd__Ljava_lang_String__D_I_DDDI_V rfl) rfl rfl (Nat.le_of_eq rfl) (hb hby at_116)
    have H40 : OHp Z T40.heap n0 "com/example/lotparley/lotparley/Item" own_FN b [(.ref sa), (.ref a29), (.ref a36), (.ref a37), (.double (4607182418800017408 : UInt64)), (.double (4607182418800017408 : UInt64)), (.int (-1 : Int32))] [(a29, .double, 1, [(.double xa)]), (a36, .int, 0, []), (a37, .double, 0, [])] := P40.2
    have R41 : OGo p.tables e below S0 (T40.setTop (mkF m 119 #[.val (.int v0), .val (.int v1), .val (.int v2), .val (.int v3), .val (.int (1 : Int32)), .val (.double xa), .second, .val (.double xb), .second, .val (.double xc), .second, .val (.ref a29), .unset, .unset] [(.ref b)])) := fun t k => R39 t (st40 t k)
    have hgr : k34 ≤ T40.heap.size := Nat.le_trans hk34 (Nat.le_trans Ex36.1 (Nat.le_trans Ex37.1 P40.1))
    have R43 : OGo p.tables e below S0 (T40.setTop (mkF m 121 #[.val (.int v0), .val (.int v1), .val (.int v2), .val (.int v3), .val (.int (1 : Int32)), .val (.double xa), .second, .val (.double xb), .second, .val (.double xc), .second, .val (.ref a29), .val (.ref b), .unset] [])) := fun t k => R41 t (XS.astore X40.here hx rfl (hb hby at_119) rfl rfl (l' := #[.val (.int v0), .val (.int v1), .val (.int v2), .val (.int v3), .val (.int (1 : Int32)), .val (.double xa), .second, .val (.double xb), .second, .val (.double xc), .second, .val (.ref a29), .val (.ref b), .unset]) rfl k)
    have R42 : OGo p.tables e below S0 (T40.setTop (mkF m 165 #[.val (.int v0), .val (.int v1), .val (.int v2), .val (.int v3), .val (.int (1 : Int32)), .val (.double xa), .second, .val (.double xb), .second, .val (.double xc), .second, .val (.ref a29), .val (.ref b), .unset] [(.int (own_any [xa]))])) := by
      have R44 : OGo p.tables e below S0 (T40.setTop (mkF m 131 #[.val (.int v0), .val (.int v1), .val (.int v2), .val (.int v3), .val (.int (1 : Int32)), .val (.double xa), .second, .val (.double xb), .second, .val (.double xc), .second, .val (.ref a29), .val (.ref b), .unset] [(.int (cmpValue (FP.dcmp xa (0 : UInt64)) .l))])) := fun t k => R43 t (XS.iload X40.here hx rfl (hb hby at_121) rfl (XS.iconst X40.here hx rfl (hb hby at_123) (XS.icmpNo X40.here hx rfl (hb hby at_124) rfl (by decide) (XS.dload X40.here hx rfl (hb hby at_127) rfl (XS.dconst0 X40.here hx rfl (hb hby at_129) rfl (XS.dcmpS X40.here hx rfl (hb hby at_130) rfl rfl k))))))
      by_cases hp_xa : (0 : Int32) < cmpValue (FP.dcmp xa (0 : UInt64)) .l
      · skip
        have R45 : OGo p.tables e below S0 (T40.setTop (mkF m 165 #[.val (.int v0), .val (.int v1), .val (.int v2), .val (.int v3), .val (.int (1 : Int32)), .val (.double xa), .second, .val (.double xb), .second, .val (.double xc), .second, .val (.ref a29), .val (.ref b), .unset] [(.int (1 : Int32))])) := fun t k => R44 t (XS.ifYes X40.here hx rfl (pc0 := 131) (pc' := 160) rfl (hb hby at_131) rfl ((if0 _ _).trans (tlt hp_xa).2.2.1) (by decide) (by decide) (XS.iconst X40.here hx rfl (hb hby at_160) (XS.goto X40.here hx rfl (pc0 := 161) (pc' := 165) rfl (hb hby at_161) (by decide) (by decide) k)))
        have hval : own_any [xa] = (1 : Int32) := by simp [own_any, hp_xa]
        rw [hval]
        exact R45
      · skip
        have R46 : OGo p.tables e below S0 (T40.setTop (mkF m 150 #[.val (.int v0), .val (.int v1), .val (.int v2), .val (.int v3), .val (.int (1 : Int32)), .val (.double xa), .second, .val (.double xb), .second, .val (.double xc), .second, .val (.ref a29), .val (.ref b), .unset] [(.int (3 : Int32)), (.int (1 : Int32))])) := fun t k => R44 t (XS.ifNo X40.here hx rfl (hb hby at_131) rfl ((if0 _ _).trans (flt hp_xa).2.2.1) (XS.iload X40.here hx rfl (hb hby at_134) rfl (XS.iconst X40.here hx rfl (hb hby at_136) (XS.icmpYes X40.here hx rfl (pc0 := 137) (pc' := 147) rfl (hb hby at_137) rfl (by decide) (by decide) (by decide) (XS.iload X40.here hx rfl (hb hby at_147) rfl (XS.iconst X40.here hx rfl (hb hby at_149) k))))))
        have R47 : OGo p.tables e below S0 (T40.setTop (mkF m 165 #[.val (.int v0), .val (.int v1), .val (.int v2), .val (.int v3), .val (.int (1 : Int32)), .val (.double xa), .second, .val (.double xb), .second, .val (.double xc), .second, .val (.ref a29), .val (.ref b), .unset] [(.int (0 : Int32))])) := fun t k => R46 t (XS.icmpYes X40.here hx rfl (pc0 := 150) (pc' := 164) rfl (hb hby at_150) rfl (by decide) (by decide) (by decide) (XS.iconst X40.here hx rfl (hb hby at_164) k))
        have hval : own_any [xa] = (0 : Int32) := by simp [own_any, hp_xa]
        rw [hval]
        exact R47
    have R48 : OGo p.tables e below S0 (T40.setTop (mkF m 169 #[.val (.int v0), .val (.int v1), .val (.int v2), .val (.int v3), .val (.int (1 : Int32)), .val (.double xa), .second, .val (.double xb), .second, .val (.double xc), .second, .val (.ref a29), .val (.ref b), .val (.int (own_any [xa]))] [(.ref b)])) := fun t k => R42 t (XS.istore X40.here hx rfl (hb hby at_165) rfl (l' := #[.val (.int v0), .val (.int v1), .val (.int v2), .val (.int v3), .val (.int (1 : Int32)), .val (.double xa), .second, .val (.double xb), .second, .val (.double xc), .second, .val (.ref a29), .val (.ref b), .val (.int (own_any [xa]))]) rfl (XS.aload X40.here hx rfl (hb hby at_167) rfl rfl k))
    obtain ⟨T49, lc49, X49, N49, P49, st49⟩ := own_callV X40 hx hZ2 (y := (⟨"com/example/lotparley/lotparley/Item", "hasDemand", "()Z"⟩ : MethodName)) hown2 (own_q hw 38 rfl) (own_q hw 39 rfl) (own_q hw 41 rfl) (own_q hw 40 rfl) (own_q hw 42 rfl) (own_q hw 3 rfl) (by decide) (W := 0) (own_rmHd1 l Z a0 hw n0 _ b _ a29 _ _ _ _ _ _ xa H40 (OArs.one H40.2.2.2 (k := 0) rfl)) rfl H40.2.1 N40 (by decide) (by decide) (by decide) (by decide) (g := (mkF m 169 #[.val (.int v0), .val (.int v1), .val (.int v2), .val (.int v3), .val (.int (1 : Int32)), .val (.double xa), .second, .val (.double xb), .second, .val (.double xc), .second, .val (.ref a29), .val (.ref b), .val (.int (own_any [xa]))] [(.ref b)])) rfl (by rw [hml]; rfl) (argsL := []) (rest := []) (lenOf pd___Z rfl) rfl rfl (Nat.le_of_eq rfl) (hb hby at_169)
    have R50 : OGo p.tables e below S0 (T49.setTop (mkF m 182 #[.val (.int v0), .val (.int v1), .val (.int v2), .val (.int v3), .val (.int (1 : Int32)), .val (.double xa), .second, .val (.double xb), .second, .val (.double xc), .second, .val (.ref a29), .val (.ref b), .val (.int (own_any [xa]))] [(.int (1 : Int32))])) := fun t k => R48 t (st49 t (XS.iload X49.here hx rfl (hb hby at_172) rfl (XS.icmpNo X49.here hx rfl (hb hby at_174) rfl ((teq rfl).2) (XS.iconst X49.here hx rfl (hb hby at_177) (XS.goto X49.here hx rfl (pc0 := 178) (pc' := 182) rfl (hb hby at_178) (by decide) (by decide) k)))))
    exact ⟨_, _, _, _, _, _, X49, hS34, by rw [P49]; exact hgr, by decide, by decide, N49, fun fs hr => R50 _ (retN X49 hx (t := .boolean) hret (by simp) (hb hby at_182) hr)⟩
  · clear e_nv
    subst hn
    have R51 : OGo p.tables e below S0 (s₁.setTop (mkF m 57 #[.val (.int v0), .val (.int v1), .val (.int v2), .val (.int v3), .val (.int (2 : Int32)), .val (.double xa), .second, .val (.double xb), .second, .val (.double xc), .second, .unset, .unset, .unset] [(.int (2 : Int32))])) := fun t k => R9 t (XS.iload X0.here hx rfl (hb hby at_23) rfl (XS.ifYes X0.here hx rfl (pc0 := 25) (pc' := 36) rfl (hb hby at_25) rfl (by decide) (by decide) (by decide) (XS.iload X0.here hx rfl (hb hby at_36) rfl (XS.iconst X0.here hx rfl (hb hby at_38) (XS.icmpYes X0.here hx rfl (pc0 := 39) (pc' := 55) rfl (hb hby at_39) rfl (by decide) (by decide) (by decide) (XS.iload X0.here hx rfl (hb hby at_55) rfl k))))))
    obtain ⟨T52, h52, a52, X52, e52, Ex52, ge52, z52, A52, st52⟩ := own_newA X0 hx hZ (own_q hw 0 rfl) e0 (n0 := n0) Z0 (g := (mkF m 62 #[.val (.int v0), .val (.int v1), .val (.int v2), .val (.int v3), .val (.int (2 : Int32)), .val (.double xa), .second, .val (.double xb), .second, .val (.double xc), .second, .unset, .unset, .unset] [(.int (2 : Int32))])) rfl (hb hby at_62) rfl (by decide) (cap := 2) (by decide) (by decide) (by decide) (by decide) [(.double (0 : UInt64)), (.double (0 : UInt64))] rfl
    have A52s : OArs Z h52 n0 [(a52, .double, 2, [(.double (0 : UInt64)), (.double (0 : UInt64))])] := OArs.snoc (OArs.nil Z h0 n0) Ex52 A52 ge52
    have R53 : OGo p.tables e below S0 (T52.setTop (mkF m 66 #[.val (.int v0), .val (.int v1), .val (.int v2), .val (.int v3), .val (.int (2 : Int32)), .val (.double xa), .second, .val (.double xb), .second, .val (.double xc), .second, .unset, .unset, .unset] [(.int (0 : Int32)), (.ref a52), (.ref a52)])) := fun t k => R51 t (XS.iconst X0.here hx rfl (hb hby at_57) (XS.icmpNo X0.here hx rfl (hb hby at_58) rfl (by decide) (XS.iconst X0.here hx rfl (hb hby at_61) (st52 t (XS.dup X52.here hx rfl (hb hby at_64) rfl rfl (XS.iconst X52.here hx rfl (hb hby at_65) k))))))
    obtain ⟨T54, h54, lc54, X54, e54, N54, W54, st54⟩ := own_stD X52 hx hZ e52 A52s (k := 0) rfl (by decide) (i := 0) (by decide) (own_lt rfl) (by decide) N0 (g := (mkF m 68 #[.val (.int v0), .val (.int v1), .val (.int v2), .val (.int v3), .val (.int (2 : Int32)), .val (.double xa), .second, .val (.double xb), .second, .val (.double xc), .second, .unset, .unset, .unset] [(.double xa), (.int (0 : Int32)), (.ref a52), (.ref a52)])) rfl rfl (hb hby at_68)
    have A54s : OArs Z h54 n0 [(a52, .double, 2, [(.double xa), (.double (0 : UInt64))])] := OArs.set A52s (k := 0) rfl W54 (own_lt rfl)
    obtain ⟨T55, h55, lc55, X55, e55, N55, W55, st55⟩ := own_stD X54 hx hZ e54 A54s (k := 0) rfl (by decide) (i := 1) (by decide) (own_lt rfl) (by decide) N54 (g := (mkF m 73 #[.val (.int v0), .val (.int v1), .val (.int v2), .val (.int v3), .val (.int (2 : Int32)), .val (.double xa), .second, .val (.double xb), .second, .val (.double xc), .second, .unset, .unset, .unset] [(.double xb), (.int (1 : Int32)), (.ref a52), (.ref a52)])) rfl rfl (hb hby at_73)
    have A55s : OArs Z h55 n0 [(a52, .double, 2, [(.double xa), (.double xb)])] := OArs.set A54s (k := 0) rfl W55 (own_lt rfl)
    have R56 : OGo p.tables e below S0 (T55.setTop (mkF m 74 #[.val (.int v0), .val (.int v1), .val (.int v2), .val (.int v3), .val (.int (2 : Int32)), .val (.double xa), .second, .val (.double xb), .second, .val (.double xc), .second, .unset, .unset, .unset] [(.ref a52)])) := fun t k => R53 t (XS.dload X52.here hx rfl (hb hby at_66) rfl (st54 t (XS.dup X54.here hx rfl (hb hby at_69) rfl rfl (XS.iconst X54.here hx rfl (hb hby at_70) (XS.dload X54.here hx rfl (hb hby at_71) rfl (st55 t k))))))
    have R58 : OGo p.tables e below S0 (T55.setTop (mkF m 99 #[.val (.int v0), .val (.int v1), .val (.int v2), .val (.int v3), .val (.int (2 : Int32)), .val (.double xa), .second, .val (.double xb), .second, .val (.double xc), .second, .val (.ref a52), .unset, .unset] [])) := fun t k => R56 t (XS.astore X55.here hx rfl (hb hby at_74) rfl rfl (l' := #[.val (.int v0), .val (.int v1), .val (.int v2), .val (.int v3), .val (.int (2 : Int32)), .val (.double xa), .second, .val (.double xb), .second, .val (.double xc), .second, .val (.ref a52), .unset, .unset]) rfl (XS.goto X55.here hx rfl (pc0 := 76) (pc' := 99) rfl (hb hby at_76) (by decide) (by decide) k))
    have hz57 : n0 ≤ h55.size := Nat.le_trans Z0 (by rw [← e55, ← e0]; exact own_grow X0 X55)
    obtain ⟨T57, h57, b, X57, e57, H57, st57⟩ := own_newO X55 hx hZ hown (own_q hw 1 rfl) (own_q hw 2 rfl) (own_q hw 3 rfl) e55 (n0 := n0) hz57 A55s (own_laid Z a0 hw) (vs := [.null, .null, .null, .null, (.double (0 : UInt64)), (.double (0 : UInt64)), (.int (0 : Int32))]) own_dflt (g := (mkF m 99 #[.val (.int v0), .val (.int v1), .val (.int v2), .val (.int v3), .val (.int (2 : Int32)), .val (.double xa), .second, .val (.double xb), .second, .val (.double xc), .second, .val (.ref a52), .unset, .unset] [])) rfl (hb hby at_99) (by decide) (by decide)
    have R60 : OGo p.tables e below S0 (T57.setTop (mkF m 103 #[.val (.int v0), .val (.int v1), .val (.int v2), .val (.int v3), .val (.int (2 : Int32)), .val (.double xa), .second, .val (.double xb), .second, .val (.double xc), .second, .val (.ref a52), .unset, .unset] [(.ref b), (.ref b)])) := fun t k => R58 t (st57 t (XS.dup X57.here hx rfl (hb hby at_102) rfl rfl k))
    obtain ⟨sa, T59, h59, k59, X59, e59, E59, hS59, hk59, hZ2, hown2, st59⟩ := ldcS (s := s) (vm0 := s.vm) X57 hx hZ hown (own_q hw 4 rfl) (own_satoms Z a0 hw) e57 (k0 := 0) (own_since0 s) (Nat.zero_le _) (g := (mkF m 103 #[.val (.int v0), .val (.int v1), .val (.int v2), .val (.int v3), .val (.int (2 : Int32)), .val (.double xa), .second, .val (.double xb), .second, .val (.double xc), .second, .val (.ref a52), .unset, .unset] [(.ref b), (.ref b)])) rfl (hb hby at_103) (n := 4) (by decide) (by decide) (by decide) (by decide)
    have H59 : OHp Z h59 n0 "com/example/lotparley/lotparley/Item" own_FN b [.null, .null, .null, .null, (.double (0 : UInt64)), (.double (0 : UInt64)), (.int (0 : Int32))] [(a52, .double, 2, [(.double xa), (.double xb)])] := OHp.ext E59 H57
    obtain ⟨T61, h61, a61, X61, e61, Ex61, ge61, z61, A61, st61⟩ := own_newA X59 hx hZ2 (own_q hw 12 rfl) e59 (n0 := n0) (Nat.le_trans H59.1 (Nat.le_of_lt H59.2.1.lt)) (g := (mkF m 108 #[.val (.int v0), .val (.int v1), .val (.int v2), .val (.int v3), .val (.int (2 : Int32)), .val (.double xa), .second, .val (.double xb), .second, .val (.double xc), .second, .val (.ref a52), .unset, .unset] [(.int (0 : Int32)), (.ref a52), (.ref sa), (.ref b), (.ref b)])) rfl (hb hby at_108) rfl (by decide) (cap := 0) (by decide) (by decide) (by decide) (by decide) [] rfl
    have H61 : OHp Z h61 n0 "com/example/lotparley/lotparley/Item" own_FN b [.null, .null, .null, .null, (.double (0 : UInt64)), (.double (0 : UInt64)), (.int (0 : Int32))] [(a52, .double, 2, [(.double xa), (.double xb)]), (a61, .int, 0, [])] := OHp.snoc H59 Ex61 A61 ge61
    obtain ⟨T62, h62, a62, X62, e62, Ex62, ge62, z62, A62, st62⟩ := own_newA X61 hx hZ2 (own_q hw 0 rfl) e61 (n0 := n0) (Nat.le_trans H61.1 (Nat.le_of_lt H61.2.1.lt)) (g := (mkF m 111 #[.val (.int v0), .val (.int v1), .val (.int v2), .val (.int v3), .val (.int (2 : Int32)), .val (.double xa), .second, .val (.double xb), .second, .val (.double xc), .second, .val (.ref a52), .unset, .unset] [(.int (0 : Int32)), (.ref a61), (.ref a52), (.ref sa), (.ref b), (.ref b)])) rfl (hb hby at_111) rfl (by decide) (cap := 0) (by decide) (by decide) (by decide) (by decide) [] rfl
    have H62 : OHp Z h62 n0 "com/example/lotparley/lotparley/Item" own_FN b [.null, .null, .null, .null, (.double (0 : UInt64)), (.double (0 : UInt64)), (.int (0 : Int32))] [(a52, .double, 2, [(.double xa), (.double xb)]), (a61, .int, 0, []), (a62, .double, 0, [])] := OHp.snoc H61 Ex62 A62 ge62
    have R63 : OGo p.tables e below S0 (T62.setTop (mkF m 113 #[.val (.int v0), .val (.int v1), .val (.int v2), .val (.int v3), .val (.int (2 : Int32)), .val (.double xa), .second, .val (.double xb), .second, .val (.double xc), .second, .val (.ref a52), .unset, .unset] [(.ref a62), (.ref a61), (.ref a52), (.ref sa), (.ref b), (.ref b)])) := fun t k => R60 t (st59 t (XS.aload X59.here hx rfl (hb hby at_105) rfl rfl (XS.iconst X59.here hx rfl (hb hby at_107) (st61 t (XS.iconst X61.here hx rfl (hb hby at_110) (st62 t k))))))
    have R64 : OGo p.tables e below S0 (T62.setTop (mkF m 116 #[.val (.int v0), .val (.int v1), .val (.int v2), .val (.int v3), .val (.int (2 : Int32)), .val (.double xa), .second, .val (.double xb), .second, .val (.double xc), .second, .val (.ref a52), .unset, .unset] [(.int (-1 : Int32)), (.double (4607182418800017408 : UInt64)), (.double (4607182418800017408 : UInt64)), (.ref a62), (.ref a61), (.ref a52), (.ref sa), (.ref b), (.ref b)])) := fun t k => R63 t (XS.dconst1 X62.here hx rfl (hb hby at_113) rfl (XS.dconst1 X62.here hx rfl (hb hby at_114) rfl (XS.iconst X62.here hx rfl (hb hby at_115) k)))
    obtain ⟨T65, lc65, X65, N65, P65, st65⟩ := own_callI X62 hx hZ2 (y := (⟨"com/example/lotparley/lotparley/Item", "<init>", "(Ljava/lang/String;[D[I[DDDI)V"⟩ : MethodName)) rfl hown2 (own_q hw 13 rfl) (own_q hw 14 rfl) (own_q hw 15 rfl) (own_q hw 3 rfl) (by decide) (W := 1) (own_rmInit l Z a0 hw n0 _ b [(a52, .double, 2, [(.double xa), (.double xb)]), (a61, .int, 0, []), (a62, .double, 0, [])] sa a52 a61 a62 4607182418800017408 4607182418800017408 (-1) H62) e62 N55 (by decide) (by decide) (by decide) (by decide) (g := (mkF m 116 #[.val (.int v0), .val (.int v1), .val (.int v2), .val (.int v3), .val (.int (2 : Int32)), .val (.double xa), .second, .val (.double xb), .second, .val (.double xc), .second, .val (.ref a52), .unset, .unset] [(.int (-1 : Int32)), (.double (4607182418800017408 : UInt64)), (.double (4607182418800017408 : UInt64)), (.ref a62), (.ref a61), (.ref a52), (.ref sa), (.ref b), (.ref b)])) rfl (by rw [hml]; rfl) (argsL := [(.ref sa), (.ref a52), (.ref a61), (.ref a62), (.double (4607182418800017408 : UInt64)), (.double (4607182418800017408 : UInt64)), (.int (-1 : Int32))]) (rest := [(.ref b)]) (lenOf pd__Ljava_lang_String__D_I_DDDI_V rfl) rfl rfl (Nat.le_of_eq rfl) (hb hby at_116)
    have H65 : OHp Z T65.heap n0 "com/example/lotparley/lotparley/Item" own_FN b [(.ref sa), (.ref a52), (.ref a61), (.ref a62), (.double (4607182418800017408 : UInt64)), (.double (4607182418800017408 : UInt64)), (.int (-1 : Int32))] [(a52, .double, 2, [(.double xa), (.double xb)]), (a61, .int, 0, []), (a62, .double, 0, [])] := P65.2
    have R66 : OGo p.tables e below S0 (T65.setTop (mkF m 119 #[.val (.int v0), .val (.int v1), .val (.int v2), .val (.int v3), .val (.int (2 : Int32)), .val (.double xa), .second, .val (.double xb), .second, .val (.double xc), .second, .val (.ref a52), .unset, .unset] [(.ref b)])) := fun t k => R64 t (st65 t k)
    have hgr : k59 ≤ T65.heap.size := Nat.le_trans hk59 (Nat.le_trans Ex61.1 (Nat.le_trans Ex62.1 P65.1))
    have R68 : OGo p.tables e below S0 (T65.setTop (mkF m 121 #[.val (.int v0), .val (.int v1), .val (.int v2), .val (.int v3), .val (.int (2 : Int32)), .val (.double xa), .second, .val (.double xb), .second, .val (.double xc), .second, .val (.ref a52), .val (.ref b), .unset] [])) := fun t k => R66 t (XS.astore X65.here hx rfl (hb hby at_119) rfl rfl (l' := #[.val (.int v0), .val (.int v1), .val (.int v2), .val (.int v3), .val (.int (2 : Int32)), .val (.double xa), .second, .val (.double xb), .second, .val (.double xc), .second, .val (.ref a52), .val (.ref b), .unset]) rfl k)
    have R67 : OGo p.tables e below S0 (T65.setTop (mkF m 165 #[.val (.int v0), .val (.int v1), .val (.int v2), .val (.int v3), .val (.int (2 : Int32)), .val (.double xa), .second, .val (.double xb), .second, .val (.double xc), .second, .val (.ref a52), .val (.ref b), .unset] [(.int (own_any [xa, xb]))])) := by
      have R69 : OGo p.tables e below S0 (T65.setTop (mkF m 131 #[.val (.int v0), .val (.int v1), .val (.int v2), .val (.int v3), .val (.int (2 : Int32)), .val (.double xa), .second, .val (.double xb), .second, .val (.double xc), .second, .val (.ref a52), .val (.ref b), .unset] [(.int (cmpValue (FP.dcmp xa (0 : UInt64)) .l))])) := fun t k => R68 t (XS.iload X65.here hx rfl (hb hby at_121) rfl (XS.iconst X65.here hx rfl (hb hby at_123) (XS.icmpNo X65.here hx rfl (hb hby at_124) rfl (by decide) (XS.dload X65.here hx rfl (hb hby at_127) rfl (XS.dconst0 X65.here hx rfl (hb hby at_129) rfl (XS.dcmpS X65.here hx rfl (hb hby at_130) rfl rfl k))))))
      by_cases hp_xa : (0 : Int32) < cmpValue (FP.dcmp xa (0 : UInt64)) .l
      · skip
        have R70 : OGo p.tables e below S0 (T65.setTop (mkF m 165 #[.val (.int v0), .val (.int v1), .val (.int v2), .val (.int v3), .val (.int (2 : Int32)), .val (.double xa), .second, .val (.double xb), .second, .val (.double xc), .second, .val (.ref a52), .val (.ref b), .unset] [(.int (1 : Int32))])) := fun t k => R69 t (XS.ifYes X65.here hx rfl (pc0 := 131) (pc' := 160) rfl (hb hby at_131) rfl ((if0 _ _).trans (tlt hp_xa).2.2.1) (by decide) (by decide) (XS.iconst X65.here hx rfl (hb hby at_160) (XS.goto X65.here hx rfl (pc0 := 161) (pc' := 165) rfl (hb hby at_161) (by decide) (by decide) k)))
        have hval : own_any [xa, xb] = (1 : Int32) := by simp [own_any, hp_xa]
        rw [hval]
        exact R70
      · skip
        have R71 : OGo p.tables e below S0 (T65.setTop (mkF m 143 #[.val (.int v0), .val (.int v1), .val (.int v2), .val (.int v3), .val (.int (2 : Int32)), .val (.double xa), .second, .val (.double xb), .second, .val (.double xc), .second, .val (.ref a52), .val (.ref b), .unset] [(.double (0 : UInt64)), (.double xb)])) := fun t k => R69 t (XS.ifNo X65.here hx rfl (hb hby at_131) rfl ((if0 _ _).trans (flt hp_xa).2.2.1) (XS.iload X65.here hx rfl (hb hby at_134) rfl (XS.iconst X65.here hx rfl (hb hby at_136) (XS.icmpNo X65.here hx rfl (hb hby at_137) rfl (by decide) (XS.dload X65.here hx rfl (hb hby at_140) rfl (XS.dconst0 X65.here hx rfl (hb hby at_142) rfl k))))))
        have R72 : OGo p.tables e below S0 (T65.setTop (mkF m 144 #[.val (.int v0), .val (.int v1), .val (.int v2), .val (.int v3), .val (.int (2 : Int32)), .val (.double xa), .second, .val (.double xb), .second, .val (.double xc), .second, .val (.ref a52), .val (.ref b), .unset] [(.int (cmpValue (FP.dcmp xb (0 : UInt64)) .l))])) := fun t k => R71 t (XS.dcmpS X65.here hx rfl (hb hby at_143) rfl rfl k)
        by_cases hp_xb : (0 : Int32) < cmpValue (FP.dcmp xb (0 : UInt64)) .l
        · skip
          have R73 : OGo p.tables e below S0 (T65.setTop (mkF m 165 #[.val (.int v0), .val (.int v1), .val (.int v2), .val (.int v3), .val (.int (2 : Int32)), .val (.double xa), .second, .val (.double xb), .second, .val (.double xc), .second, .val (.ref a52), .val (.ref b), .unset] [(.int (1 : Int32))])) := fun t k => R72 t (XS.ifYes X65.here hx rfl (pc0 := 144) (pc' := 160) rfl (hb hby at_144) rfl ((if0 _ _).trans (tlt hp_xb).2.2.1) (by decide) (by decide) (XS.iconst X65.here hx rfl (hb hby at_160) (XS.goto X65.here hx rfl (pc0 := 161) (pc' := 165) rfl (hb hby at_161) (by decide) (by decide) k)))
          have hval : own_any [xa, xb] = (1 : Int32) := by simp [own_any, hp_xa, hp_xb]
          rw [hval]
          exact R73
        · skip
          have R74 : OGo p.tables e below S0 (T65.setTop (mkF m 165 #[.val (.int v0), .val (.int v1), .val (.int v2), .val (.int v3), .val (.int (2 : Int32)), .val (.double xa), .second, .val (.double xb), .second, .val (.double xc), .second, .val (.ref a52), .val (.ref b), .unset] [(.int (0 : Int32))])) := fun t k => R72 t (XS.ifNo X65.here hx rfl (hb hby at_144) rfl ((if0 _ _).trans (flt hp_xb).2.2.1) (XS.iload X65.here hx rfl (hb hby at_147) rfl (XS.iconst X65.here hx rfl (hb hby at_149) (XS.icmpYes X65.here hx rfl (pc0 := 150) (pc' := 164) rfl (hb hby at_150) rfl (by decide) (by decide) (by decide) (XS.iconst X65.here hx rfl (hb hby at_164) k)))))
          have hval : own_any [xa, xb] = (0 : Int32) := by simp [own_any, hp_xa, hp_xb]
          rw [hval]
          exact R74
    have R75 : OGo p.tables e below S0 (T65.setTop (mkF m 169 #[.val (.int v0), .val (.int v1), .val (.int v2), .val (.int v3), .val (.int (2 : Int32)), .val (.double xa), .second, .val (.double xb), .second, .val (.double xc), .second, .val (.ref a52), .val (.ref b), .val (.int (own_any [xa, xb]))] [(.ref b)])) := fun t k => R67 t (XS.istore X65.here hx rfl (hb hby at_165) rfl (l' := #[.val (.int v0), .val (.int v1), .val (.int v2), .val (.int v3), .val (.int (2 : Int32)), .val (.double xa), .second, .val (.double xb), .second, .val (.double xc), .second, .val (.ref a52), .val (.ref b), .val (.int (own_any [xa, xb]))]) rfl (XS.aload X65.here hx rfl (hb hby at_167) rfl rfl k))
    obtain ⟨T76, lc76, X76, N76, P76, st76⟩ := own_callV X65 hx hZ2 (y := (⟨"com/example/lotparley/lotparley/Item", "hasDemand", "()Z"⟩ : MethodName)) hown2 (own_q hw 38 rfl) (own_q hw 39 rfl) (own_q hw 41 rfl) (own_q hw 40 rfl) (own_q hw 42 rfl) (own_q hw 3 rfl) (by decide) (W := 0) (own_rmHd2 l Z a0 hw n0 _ b _ a52 _ _ _ _ _ _ xa xb H65 (OArs.one H65.2.2.2 (k := 0) rfl)) rfl H65.2.1 N65 (by decide) (by decide) (by decide) (by decide) (g := (mkF m 169 #[.val (.int v0), .val (.int v1), .val (.int v2), .val (.int v3), .val (.int (2 : Int32)), .val (.double xa), .second, .val (.double xb), .second, .val (.double xc), .second, .val (.ref a52), .val (.ref b), .val (.int (own_any [xa, xb]))] [(.ref b)])) rfl (by rw [hml]; rfl) (argsL := []) (rest := []) (lenOf pd___Z rfl) rfl rfl (Nat.le_of_eq rfl) (hb hby at_169)
    have R77 : OGo p.tables e below S0 (T76.setTop (mkF m 182 #[.val (.int v0), .val (.int v1), .val (.int v2), .val (.int v3), .val (.int (2 : Int32)), .val (.double xa), .second, .val (.double xb), .second, .val (.double xc), .second, .val (.ref a52), .val (.ref b), .val (.int (own_any [xa, xb]))] [(.int (1 : Int32))])) := fun t k => R75 t (st76 t (XS.iload X76.here hx rfl (hb hby at_172) rfl (XS.icmpNo X76.here hx rfl (hb hby at_174) rfl ((teq rfl).2) (XS.iconst X76.here hx rfl (hb hby at_177) (XS.goto X76.here hx rfl (pc0 := 178) (pc' := 182) rfl (hb hby at_178) (by decide) (by decide) k)))))
    exact ⟨_, _, _, _, _, _, X76, hS59, by rw [P76]; exact hgr, by decide, by decide, N76, fun fs hr => R77 _ (retN X76 hx (t := .boolean) hret (by simp) (hb hby at_182) hr)⟩
  · clear e_nv
    subst hn
    have R78 : OGo p.tables e below S0 (s₁.setTop (mkF m 57 #[.val (.int v0), .val (.int v1), .val (.int v2), .val (.int v3), .val (.int (3 : Int32)), .val (.double xa), .second, .val (.double xb), .second, .val (.double xc), .second, .unset, .unset, .unset] [(.int (3 : Int32))])) := fun t k => R9 t (XS.iload X0.here hx rfl (hb hby at_23) rfl (XS.ifYes X0.here hx rfl (pc0 := 25) (pc' := 36) rfl (hb hby at_25) rfl (by decide) (by decide) (by decide) (XS.iload X0.here hx rfl (hb hby at_36) rfl (XS.iconst X0.here hx rfl (hb hby at_38) (XS.icmpYes X0.here hx rfl (pc0 := 39) (pc' := 55) rfl (hb hby at_39) rfl (by decide) (by decide) (by decide) (XS.iload X0.here hx rfl (hb hby at_55) rfl k))))))
    obtain ⟨T79, h79, a79, X79, e79, Ex79, ge79, z79, A79, st79⟩ := own_newA X0 hx hZ (own_q hw 0 rfl) e0 (n0 := n0) Z0 (g := (mkF m 80 #[.val (.int v0), .val (.int v1), .val (.int v2), .val (.int v3), .val (.int (3 : Int32)), .val (.double xa), .second, .val (.double xb), .second, .val (.double xc), .second, .unset, .unset, .unset] [(.int (3 : Int32))])) rfl (hb hby at_80) rfl (by decide) (cap := 3) (by decide) (by decide) (by decide) (by decide) [(.double (0 : UInt64)), (.double (0 : UInt64)), (.double (0 : UInt64))] rfl
    have A79s : OArs Z h79 n0 [(a79, .double, 3, [(.double (0 : UInt64)), (.double (0 : UInt64)), (.double (0 : UInt64))])] := OArs.snoc (OArs.nil Z h0 n0) Ex79 A79 ge79
    have R80 : OGo p.tables e below S0 (T79.setTop (mkF m 84 #[.val (.int v0), .val (.int v1), .val (.int v2), .val (.int v3), .val (.int (3 : Int32)), .val (.double xa), .second, .val (.double xb), .second, .val (.double xc), .second, .unset, .unset, .unset] [(.int (0 : Int32)), (.ref a79), (.ref a79)])) := fun t k => R78 t (XS.iconst X0.here hx rfl (hb hby at_57) (XS.icmpYes X0.here hx rfl (pc0 := 58) (pc' := 79) rfl (hb hby at_58) rfl (by decide) (by decide) (by decide) (XS.iconst X0.here hx rfl (hb hby at_79) (st79 t (XS.dup X79.here hx rfl (hb hby at_82) rfl rfl (XS.iconst X79.here hx rfl (hb hby at_83) k))))))
    obtain ⟨T81, h81, lc81, X81, e81, N81, W81, st81⟩ := own_stD X79 hx hZ e79 A79s (k := 0) rfl (by decide) (i := 0) (by decide) (own_lt rfl) (by decide) N0 (g := (mkF m 86 #[.val (.int v0), .val (.int v1), .val (.int v2), .val (.int v3), .val (.int (3 : Int32)), .val (.double xa), .second, .val (.double xb), .second, .val (.double xc), .second, .unset, .unset, .unset] [(.double xa), (.int (0 : Int32)), (.ref a79), (.ref a79)])) rfl rfl (hb hby at_86)
    have A81s : OArs Z h81 n0 [(a79, .double, 3, [(.double xa), (.double (0 : UInt64)), (.double (0 : UInt64))])] := OArs.set A79s (k := 0) rfl W81 (own_lt rfl)
    obtain ⟨T82, h82, lc82, X82, e82, N82, W82, st82⟩ := own_stD X81 hx hZ e81 A81s (k := 0) rfl (by decide) (i := 1) (by decide) (own_lt rfl) (by decide) N81 (g := (mkF m 91 #[.val (.int v0), .val (.int v1), .val (.int v2), .val (.int v3), .val (.int (3 : Int32)), .val (.double xa), .second, .val (.double xb), .second, .val (.double xc), .second, .unset, .unset, .unset] [(.double xb), (.int (1 : Int32)), (.ref a79), (.ref a79)])) rfl rfl (hb hby at_91)
    have A82s : OArs Z h82 n0 [(a79, .double, 3, [(.double xa), (.double xb), (.double (0 : UInt64))])] := OArs.set A81s (k := 0) rfl W82 (own_lt rfl)
    have R83 : OGo p.tables e below S0 (T82.setTop (mkF m 92 #[.val (.int v0), .val (.int v1), .val (.int v2), .val (.int v3), .val (.int (3 : Int32)), .val (.double xa), .second, .val (.double xb), .second, .val (.double xc), .second, .unset, .unset, .unset] [(.ref a79)])) := fun t k => R80 t (XS.dload X79.here hx rfl (hb hby at_84) rfl (st81 t (XS.dup X81.here hx rfl (hb hby at_87) rfl rfl (XS.iconst X81.here hx rfl (hb hby at_88) (XS.dload X81.here hx rfl (hb hby at_89) rfl (st82 t k))))))
    obtain ⟨T84, h84, lc84, X84, e84, N84, W84, st84⟩ := own_stD X82 hx hZ e82 A82s (k := 0) rfl (by decide) (i := 2) (by decide) (own_lt rfl) (by decide) N82 (g := (mkF m 96 #[.val (.int v0), .val (.int v1), .val (.int v2), .val (.int v3), .val (.int (3 : Int32)), .val (.double xa), .second, .val (.double xb), .second, .val (.double xc), .second, .unset, .unset, .unset] [(.double xc), (.int (2 : Int32)), (.ref a79), (.ref a79)])) rfl rfl (hb hby at_96)
    have A84s : OArs Z h84 n0 [(a79, .double, 3, [(.double xa), (.double xb), (.double xc)])] := OArs.set A82s (k := 0) rfl W84 (own_lt rfl)
    have R86 : OGo p.tables e below S0 (T84.setTop (mkF m 99 #[.val (.int v0), .val (.int v1), .val (.int v2), .val (.int v3), .val (.int (3 : Int32)), .val (.double xa), .second, .val (.double xb), .second, .val (.double xc), .second, .val (.ref a79), .unset, .unset] [])) := fun t k => R83 t (XS.dup X82.here hx rfl (hb hby at_92) rfl rfl (XS.iconst X82.here hx rfl (hb hby at_93) (XS.dload X82.here hx rfl (hb hby at_94) rfl (st84 t (XS.astore X84.here hx rfl (hb hby at_97) rfl rfl (l' := #[.val (.int v0), .val (.int v1), .val (.int v2), .val (.int v3), .val (.int (3 : Int32)), .val (.double xa), .second, .val (.double xb), .second, .val (.double xc), .second, .val (.ref a79), .unset, .unset]) rfl k)))))
    have hz85 : n0 ≤ h84.size := Nat.le_trans Z0 (by rw [← e84, ← e0]; exact own_grow X0 X84)
    obtain ⟨T85, h85, b, X85, e85, H85, st85⟩ := own_newO X84 hx hZ hown (own_q hw 1 rfl) (own_q hw 2 rfl) (own_q hw 3 rfl) e84 (n0 := n0) hz85 A84s (own_laid Z a0 hw) (vs := [.null, .null, .null, .null, (.double (0 : UInt64)), (.double (0 : UInt64)), (.int (0 : Int32))]) own_dflt (g := (mkF m 99 #[.val (.int v0), .val (.int v1), .val (.int v2), .val (.int v3), .val (.int (3 : Int32)), .val (.double xa), .second, .val (.double xb), .second, .val (.double xc), .second, .val (.ref a79), .unset, .unset] [])) rfl (hb hby at_99) (by decide) (by decide)
    have R88 : OGo p.tables e below S0 (T85.setTop (mkF m 103 #[.val (.int v0), .val (.int v1), .val (.int v2), .val (.int v3), .val (.int (3 : Int32)), .val (.double xa), .second, .val (.double xb), .second, .val (.double xc), .second, .val (.ref a79), .unset, .unset] [(.ref b), (.ref b)])) := fun t k => R86 t (st85 t (XS.dup X85.here hx rfl (hb hby at_102) rfl rfl k))
    obtain ⟨sa, T87, h87, k87, X87, e87, E87, hS87, hk87, hZ2, hown2, st87⟩ := ldcS (s := s) (vm0 := s.vm) X85 hx hZ hown (own_q hw 4 rfl) (own_satoms Z a0 hw) e85 (k0 := 0) (own_since0 s) (Nat.zero_le _) (g := (mkF m 103 #[.val (.int v0), .val (.int v1), .val (.int v2), .val (.int v3), .val (.int (3 : Int32)), .val (.double xa), .second, .val (.double xb), .second, .val (.double xc), .second, .val (.ref a79), .unset, .unset] [(.ref b), (.ref b)])) rfl (hb hby at_103) (n := 4) (by decide) (by decide) (by decide) (by decide)
    have H87 : OHp Z h87 n0 "com/example/lotparley/lotparley/Item" own_FN b [.null, .null, .null, .null, (.double (0 : UInt64)), (.double (0 : UInt64)), (.int (0 : Int32))] [(a79, .double, 3, [(.double xa), (.double xb), (.double xc)])] := OHp.ext E87 H85
    obtain ⟨T89, h89, a89, X89, e89, Ex89, ge89, z89, A89, st89⟩ := own_newA X87 hx hZ2 (own_q hw 12 rfl) e87 (n0 := n0) (Nat.le_trans H87.1 (Nat.le_of_lt H87.2.1.lt)) (g := (mkF m 108 #[.val (.int v0), .val (.int v1), .val (.int v2), .val (.int v3), .val (.int (3 : Int32)), .val (.double xa), .second, .val (.double xb), .second, .val (.double xc), .second, .val (.ref a79), .unset, .unset] [(.int (0 : Int32)), (.ref a79), (.ref sa), (.ref b), (.ref b)])) rfl (hb hby at_108) rfl (by decide) (cap := 0) (by decide) (by decide) (by decide) (by decide) [] rfl
    have H89 : OHp Z h89 n0 "com/example/lotparley/lotparley/Item" own_FN b [.null, .null, .null, .null, (.double (0 : UInt64)), (.double (0 : UInt64)), (.int (0 : Int32))] [(a79, .double, 3, [(.double xa), (.double xb), (.double xc)]), (a89, .int, 0, [])] := OHp.snoc H87 Ex89 A89 ge89
    obtain ⟨T90, h90, a90, X90, e90, Ex90, ge90, z90, A90, st90⟩ := own_newA X89 hx hZ2 (own_q hw 0 rfl) e89 (n0 := n0) (Nat.le_trans H89.1 (Nat.le_of_lt H89.2.1.lt)) (g := (mkF m 111 #[.val (.int v0), .val (.int v1), .val (.int v2), .val (.int v3), .val (.int (3 : Int32)), .val (.double xa), .second, .val (.double xb), .second, .val (.double xc), .second, .val (.ref a79), .unset, .unset] [(.int (0 : Int32)), (.ref a89), (.ref a79), (.ref sa), (.ref b), (.ref b)])) rfl (hb hby at_111) rfl (by decide) (cap := 0) (by decide) (by decide) (by decide) (by decide) [] rfl
    have H90 : OHp Z h90 n0 "com/example/lotparley/lotparley/Item" own_FN b [.null, .null, .null, .null, (.double (0 : UInt64)), (.double (0 : UInt64)), (.int (0 : Int32))] [(a79, .double, 3, [(.double xa), (.double xb), (.double xc)]), (a89, .int, 0, []), (a90, .double, 0, [])] := OHp.snoc H89 Ex90 A90 ge90
    have R91 : OGo p.tables e below S0 (T90.setTop (mkF m 113 #[.val (.int v0), .val (.int v1), .val (.int v2), .val (.int v3), .val (.int (3 : Int32)), .val (.double xa), .second, .val (.double xb), .second, .val (.double xc), .second, .val (.ref a79), .unset, .unset] [(.ref a90), (.ref a89), (.ref a79), (.ref sa), (.ref b), (.ref b)])) := fun t k => R88 t (st87 t (XS.aload X87.here hx rfl (hb hby at_105) rfl rfl (XS.iconst X87.here hx rfl (hb hby at_107) (st89 t (XS.iconst X89.here hx rfl (hb hby at_110) (st90 t k))))))
    have R92 : OGo p.tables e below S0 (T90.setTop (mkF m 116 #[.val (.int v0), .val (.int v1), .val (.int v2), .val (.int v3), .val (.int (3 : Int32)), .val (.double xa), .second, .val (.double xb), .second, .val (.double xc), .second, .val (.ref a79), .unset, .unset] [(.int (-1 : Int32)), (.double (4607182418800017408 : UInt64)), (.double (4607182418800017408 : UInt64)), (.ref a90), (.ref a89), (.ref a79), (.ref sa), (.ref b), (.ref b)])) := fun t k => R91 t (XS.dconst1 X90.here hx rfl (hb hby at_113) rfl (XS.dconst1 X90.here hx rfl (hb hby at_114) rfl (XS.iconst X90.here hx rfl (hb hby at_115) k)))
    obtain ⟨T93, lc93, X93, N93, P93, st93⟩ := own_callI X90 hx hZ2 (y := (⟨"com/example/lotparley/lotparley/Item", "<init>", "(Ljava/lang/String;[D[I[DDDI)V"⟩ : MethodName)) rfl hown2 (own_q hw 13 rfl) (own_q hw 14 rfl) (own_q hw 15 rfl) (own_q hw 3 rfl) (by decide) (W := 1) (own_rmInit l Z a0 hw n0 _ b [(a79, .double, 3, [(.double xa), (.double xb), (.double xc)]), (a89, .int, 0, []), (a90, .double, 0, [])] sa a79 a89 a90 4607182418800017408 4607182418800017408 (-1) H90) e90 N84 (by decide) (by decide) (by decide) (by decide) (g := (mkF m 116 #[.val (.int v0), .val (.int v1), .val (.int v2), .val (.int v3), .val (.int (3 : Int32)), .val (.double xa), .second, .val (.double xb), .second, .val (.double xc), .second, .val (.ref a79), .unset, .unset] [(.int (-1 : Int32)), (.double (4607182418800017408 : UInt64)), (.double (4607182418800017408 : UInt64)), (.ref a90), (.ref a89), (.ref a79), (.ref sa), (.ref b), (.ref b)])) rfl (by rw [hml]; rfl) (argsL := [(.ref sa), (.ref a79), (.ref a89), (.ref a90), (.double (4607182418800017408 : UInt64)), (.double (4607182418800017408 : UInt64)), (.int (-1 : Int32))]) (rest := [(.ref b)]) (lenOf pd__Ljava_lang_String__D_I_DDDI_V rfl) rfl rfl (Nat.le_of_eq rfl) (hb hby at_116)
    have H93 : OHp Z T93.heap n0 "com/example/lotparley/lotparley/Item" own_FN b [(.ref sa), (.ref a79), (.ref a89), (.ref a90), (.double (4607182418800017408 : UInt64)), (.double (4607182418800017408 : UInt64)), (.int (-1 : Int32))] [(a79, .double, 3, [(.double xa), (.double xb), (.double xc)]), (a89, .int, 0, []), (a90, .double, 0, [])] := P93.2
    have R94 : OGo p.tables e below S0 (T93.setTop (mkF m 119 #[.val (.int v0), .val (.int v1), .val (.int v2), .val (.int v3), .val (.int (3 : Int32)), .val (.double xa), .second, .val (.double xb), .second, .val (.double xc), .second, .val (.ref a79), .unset, .unset] [(.ref b)])) := fun t k => R92 t (st93 t k)
    have hgr : k87 ≤ T93.heap.size := Nat.le_trans hk87 (Nat.le_trans Ex89.1 (Nat.le_trans Ex90.1 P93.1))
    have R96 : OGo p.tables e below S0 (T93.setTop (mkF m 121 #[.val (.int v0), .val (.int v1), .val (.int v2), .val (.int v3), .val (.int (3 : Int32)), .val (.double xa), .second, .val (.double xb), .second, .val (.double xc), .second, .val (.ref a79), .val (.ref b), .unset] [])) := fun t k => R94 t (XS.astore X93.here hx rfl (hb hby at_119) rfl rfl (l' := #[.val (.int v0), .val (.int v1), .val (.int v2), .val (.int v3), .val (.int (3 : Int32)), .val (.double xa), .second, .val (.double xb), .second, .val (.double xc), .second, .val (.ref a79), .val (.ref b), .unset]) rfl k)
    have R95 : OGo p.tables e below S0 (T93.setTop (mkF m 165 #[.val (.int v0), .val (.int v1), .val (.int v2), .val (.int v3), .val (.int (3 : Int32)), .val (.double xa), .second, .val (.double xb), .second, .val (.double xc), .second, .val (.ref a79), .val (.ref b), .unset] [(.int (own_any [xa, xb, xc]))])) := by
      have R97 : OGo p.tables e below S0 (T93.setTop (mkF m 131 #[.val (.int v0), .val (.int v1), .val (.int v2), .val (.int v3), .val (.int (3 : Int32)), .val (.double xa), .second, .val (.double xb), .second, .val (.double xc), .second, .val (.ref a79), .val (.ref b), .unset] [(.int (cmpValue (FP.dcmp xa (0 : UInt64)) .l))])) := fun t k => R96 t (XS.iload X93.here hx rfl (hb hby at_121) rfl (XS.iconst X93.here hx rfl (hb hby at_123) (XS.icmpNo X93.here hx rfl (hb hby at_124) rfl (by decide) (XS.dload X93.here hx rfl (hb hby at_127) rfl (XS.dconst0 X93.here hx rfl (hb hby at_129) rfl (XS.dcmpS X93.here hx rfl (hb hby at_130) rfl rfl k))))))
      by_cases hp_xa : (0 : Int32) < cmpValue (FP.dcmp xa (0 : UInt64)) .l
      · skip
        have R98 : OGo p.tables e below S0 (T93.setTop (mkF m 165 #[.val (.int v0), .val (.int v1), .val (.int v2), .val (.int v3), .val (.int (3 : Int32)), .val (.double xa), .second, .val (.double xb), .second, .val (.double xc), .second, .val (.ref a79), .val (.ref b), .unset] [(.int (1 : Int32))])) := fun t k => R97 t (XS.ifYes X93.here hx rfl (pc0 := 131) (pc' := 160) rfl (hb hby at_131) rfl ((if0 _ _).trans (tlt hp_xa).2.2.1) (by decide) (by decide) (XS.iconst X93.here hx rfl (hb hby at_160) (XS.goto X93.here hx rfl (pc0 := 161) (pc' := 165) rfl (hb hby at_161) (by decide) (by decide) k)))
        have hval : own_any [xa, xb, xc] = (1 : Int32) := by simp [own_any, hp_xa]
        rw [hval]
        exact R98
      · skip
        have R99 : OGo p.tables e below S0 (T93.setTop (mkF m 143 #[.val (.int v0), .val (.int v1), .val (.int v2), .val (.int v3), .val (.int (3 : Int32)), .val (.double xa), .second, .val (.double xb), .second, .val (.double xc), .second, .val (.ref a79), .val (.ref b), .unset] [(.double (0 : UInt64)), (.double xb)])) := fun t k => R97 t (XS.ifNo X93.here hx rfl (hb hby at_131) rfl ((if0 _ _).trans (flt hp_xa).2.2.1) (XS.iload X93.here hx rfl (hb hby at_134) rfl (XS.iconst X93.here hx rfl (hb hby at_136) (XS.icmpNo X93.here hx rfl (hb hby at_137) rfl (by decide) (XS.dload X93.here hx rfl (hb hby at_140) rfl (XS.dconst0 X93.here hx rfl (hb hby at_142) rfl k))))))
        have R100 : OGo p.tables e below S0 (T93.setTop (mkF m 144 #[.val (.int v0), .val (.int v1), .val (.int v2), .val (.int v3), .val (.int (3 : Int32)), .val (.double xa), .second, .val (.double xb), .second, .val (.double xc), .second, .val (.ref a79), .val (.ref b), .unset] [(.int (cmpValue (FP.dcmp xb (0 : UInt64)) .l))])) := fun t k => R99 t (XS.dcmpS X93.here hx rfl (hb hby at_143) rfl rfl k)
        by_cases hp_xb : (0 : Int32) < cmpValue (FP.dcmp xb (0 : UInt64)) .l
        · skip
          have R101 : OGo p.tables e below S0 (T93.setTop (mkF m 165 #[.val (.int v0), .val (.int v1), .val (.int v2), .val (.int v3), .val (.int (3 : Int32)), .val (.double xa), .second, .val (.double xb), .second, .val (.double xc), .second, .val (.ref a79), .val (.ref b), .unset] [(.int (1 : Int32))])) := fun t k => R100 t (XS.ifYes X93.here hx rfl (pc0 := 144) (pc' := 160) rfl (hb hby at_144) rfl ((if0 _ _).trans (tlt hp_xb).2.2.1) (by decide) (by decide) (XS.iconst X93.here hx rfl (hb hby at_160) (XS.goto X93.here hx rfl (pc0 := 161) (pc' := 165) rfl (hb hby at_161) (by decide) (by decide) k)))
          have hval : own_any [xa, xb, xc] = (1 : Int32) := by simp [own_any, hp_xa, hp_xb]
          rw [hval]
          exact R101
        · skip
          have R102 : OGo p.tables e below S0 (T93.setTop (mkF m 156 #[.val (.int v0), .val (.int v1), .val (.int v2), .val (.int v3), .val (.int (3 : Int32)), .val (.double xa), .second, .val (.double xb), .second, .val (.double xc), .second, .val (.ref a79), .val (.ref b), .unset] [(.double (0 : UInt64)), (.double xc)])) := fun t k => R100 t (XS.ifNo X93.here hx rfl (hb hby at_144) rfl ((if0 _ _).trans (flt hp_xb).2.2.1) (XS.iload X93.here hx rfl (hb hby at_147) rfl (XS.iconst X93.here hx rfl (hb hby at_149) (XS.icmpNo X93.here hx rfl (hb hby at_150) rfl (by decide) (XS.dload X93.here hx rfl (hb hby at_153) rfl (XS.dconst0 X93.here hx rfl (hb hby at_155) rfl k))))))
          have R103 : OGo p.tables e below S0 (T93.setTop (mkF m 157 #[.val (.int v0), .val (.int v1), .val (.int v2), .val (.int v3), .val (.int (3 : Int32)), .val (.double xa), .second, .val (.double xb), .second, .val (.double xc), .second, .val (.ref a79), .val (.ref b), .unset] [(.int (cmpValue (FP.dcmp xc (0 : UInt64)) .l))])) := fun t k => R102 t (XS.dcmpS X93.here hx rfl (hb hby at_156) rfl rfl k)
          by_cases hp_xc : (0 : Int32) < cmpValue (FP.dcmp xc (0 : UInt64)) .l
          · skip
            have R104 : OGo p.tables e below S0 (T93.setTop (mkF m 165 #[.val (.int v0), .val (.int v1), .val (.int v2), .val (.int v3), .val (.int (3 : Int32)), .val (.double xa), .second, .val (.double xb), .second, .val (.double xc), .second, .val (.ref a79), .val (.ref b), .unset] [(.int (1 : Int32))])) := fun t k => R103 t (XS.ifNo X93.here hx rfl (hb hby at_157) rfl ((if0 _ _).trans (tlt hp_xc).2.2.2) (XS.iconst X93.here hx rfl (hb hby at_160) (XS.goto X93.here hx rfl (pc0 := 161) (pc' := 165) rfl (hb hby at_161) (by decide) (by decide) k)))
            have hval : own_any [xa, xb, xc] = (1 : Int32) := by simp [own_any, hp_xa, hp_xb, hp_xc]
            rw [hval]
            exact R104
          · skip
            have R105 : OGo p.tables e below S0 (T93.setTop (mkF m 165 #[.val (.int v0), .val (.int v1), .val (.int v2), .val (.int v3), .val (.int (3 : Int32)), .val (.double xa), .second, .val (.double xb), .second, .val (.double xc), .second, .val (.ref a79), .val (.ref b), .unset] [(.int (0 : Int32))])) := fun t k => R103 t (XS.ifYes X93.here hx rfl (pc0 := 157) (pc' := 164) rfl (hb hby at_157) rfl ((if0 _ _).trans (flt hp_xc).2.2.2) (by decide) (by decide) (XS.iconst X93.here hx rfl (hb hby at_164) k))
            have hval : own_any [xa, xb, xc] = (0 : Int32) := by simp [own_any, hp_xa, hp_xb, hp_xc]
            rw [hval]
            exact R105
    have R106 : OGo p.tables e below S0 (T93.setTop (mkF m 169 #[.val (.int v0), .val (.int v1), .val (.int v2), .val (.int v3), .val (.int (3 : Int32)), .val (.double xa), .second, .val (.double xb), .second, .val (.double xc), .second, .val (.ref a79), .val (.ref b), .val (.int (own_any [xa, xb, xc]))] [(.ref b)])) := fun t k => R95 t (XS.istore X93.here hx rfl (hb hby at_165) rfl (l' := #[.val (.int v0), .val (.int v1), .val (.int v2), .val (.int v3), .val (.int (3 : Int32)), .val (.double xa), .second, .val (.double xb), .second, .val (.double xc), .second, .val (.ref a79), .val (.ref b), .val (.int (own_any [xa, xb, xc]))]) rfl (XS.aload X93.here hx rfl (hb hby at_167) rfl rfl k))
    obtain ⟨T107, lc107, X107, N107, P107, st107⟩ := own_callV X93 hx hZ2 (y := (⟨"com/example/lotparley/lotparley/Item", "hasDemand", "()Z"⟩ : MethodName)) hown2 (own_q hw 38 rfl) (own_q hw 39 rfl) (own_q hw 41 rfl) (own_q hw 40 rfl) (own_q hw 42 rfl) (own_q hw 3 rfl) (by decide) (W := 0) (own_rmHd3 l Z a0 hw n0 _ b _ a79 _ _ _ _ _ _ xa xb xc H93 (OArs.one H93.2.2.2 (k := 0) rfl)) rfl H93.2.1 N93 (by decide) (by decide) (by decide) (by decide) (g := (mkF m 169 #[.val (.int v0), .val (.int v1), .val (.int v2), .val (.int v3), .val (.int (3 : Int32)), .val (.double xa), .second, .val (.double xb), .second, .val (.double xc), .second, .val (.ref a79), .val (.ref b), .val (.int (own_any [xa, xb, xc]))] [(.ref b)])) rfl (by rw [hml]; rfl) (argsL := []) (rest := []) (lenOf pd___Z rfl) rfl rfl (Nat.le_of_eq rfl) (hb hby at_169)
    have R108 : OGo p.tables e below S0 (T107.setTop (mkF m 182 #[.val (.int v0), .val (.int v1), .val (.int v2), .val (.int v3), .val (.int (3 : Int32)), .val (.double xa), .second, .val (.double xb), .second, .val (.double xc), .second, .val (.ref a79), .val (.ref b), .val (.int (own_any [xa, xb, xc]))] [(.int (1 : Int32))])) := fun t k => R106 t (st107 t (XS.iload X107.here hx rfl (hb hby at_172) rfl (XS.icmpNo X107.here hx rfl (hb hby at_174) rfl ((teq rfl).2) (XS.iconst X107.here hx rfl (hb hby at_177) (XS.goto X107.here hx rfl (pc0 := 178) (pc' := 182) rfl (hb hby at_178) (by decide) (by decide) k)))))
    exact ⟨_, _, _, _, _, _, X107, hS87, by rw [P107]; exact hgr, by decide, by decide, N107, fun fs hr => R108 _ (retN X107 hx (t := .boolean) hret (by simp) (hb hby at_182) hr)⟩
set_option maxRecDepth 65536 in
set_option maxHeartbeats 40000000 in
theorem comes_1 {Post : Tables → Env → Array Value → State → Outcome → State → Prop} (hpost : ∀ tb e args s v u, (limb_1_1.after args s (.returned v) u = true ∧ limb_1_2.after args s (.returned v) u = true ∧ True) → ReturnedEndW s (.returned v) u (Jvm.fieldLocs frame_1_writes args s ++ Jvm.arrayLocs frame_1_arrays args s ++ Jvm.staticLocs frame_1_statics s) 24 1152 → Post tb e args s (.returned v) u) :
    ArmFor flags0 classFile x code maxLocals ret World_1 tables_1 room_1 Calls_1 rest_1 Pre_1 Post := by
  intro l hfl _ _ p e ha hc hk s m args below hf hA hF happ hP
  obtain ⟨hcalls, hrest, hpre⟩ := hP
  obtain ⟨-, -, -, hnamed, -, -, -, hat⟩ := (Spec.applies_iff hf).mp happ
  obtain ⟨hg, hn⟩ := and_e (Cond.before_iff.mp (show (Jvm.Cond.and given_1 narrow_1).before args s = true from hpre))
  obtain ⟨h1, h2⟩ := and_e hg
  obtain ⟨w0, w1, w2, w3, rfl⟩ : ∃ w0 w1 w2 w3 : Value, args = #[w0, w1, w2, w3] := by
    have hs : args.size = 4 := by simpa [Cond.value, given_1] using h1
    obtain ⟨L⟩ := args
    match L, hs with
    | [w0, w1, w2, w3], _ => exact ⟨w0, w1, w2, w3, rfl⟩
  have hw := fun d (hd : d ∈ tables_1) => atoms_spec (ws := Jvm.Cond.code x code maxLocals ret :: tables_1) hat d (List.mem_cons_of_mem _ hd)
  obtain ⟨g0, h2⟩ := and_e h2
  obtain ⟨g1, h2⟩ := and_e h2
  obtain ⟨g2, g3⟩ := and_e h2
  obtain ⟨i0, e0⟩ := is_v g0
  obtain rfl : w0 = (.int i0) := Option.some.inj e0
  obtain ⟨i1, e1⟩ := is_v g1
  obtain rfl : w1 = (.int i1) := Option.some.inj e1
  obtain ⟨i2, e2⟩ := is_v g2
  obtain rfl : w2 = (.int i2) := Option.some.inj e2
  obtain ⟨i3, e3⟩ := is_v g3
  obtain rfl : w3 = (.int i3) := Option.some.inj e3
  obtain ⟨n, o, h1, h2, h3, _, L, rfl, ⟨rfl, N⟩, hq⟩ := own_rm0 l s _ hw s.heap.size s.heap (Nat.le_refl _) i0 i1 i2 i3 p e ha hc hk s m _ below hf ((Spec.applies_iff_loose hf).mp happ).1 ⟨rfl, State.Warmed39.refl s, rfl⟩ trivial
  refine ⟨n, _, h1, h2, h3, hpost _ _ _ _ _ _ ⟨Cond.after_iff.mpr rfl, Cond.after_iff.mpr (eq_i res_at (Term.int_eval (1)) rfl), trivial⟩ ⟨hq.1, hq.2.1, hq.2.2.1, (hq.2.2.2.sift fun y hy => Or.inr (N y hy)).mono (by decide) (by decide)⟩⟩
theorem main_1_1 : Claimed_1_1 := comes_1 fun _ _ _ _ _ _ h hF => ⟨h.1, hF⟩
theorem main_1_2 : Claimed_1_2 := comes_1 fun _ _ _ _ _ _ h hF => ⟨h.2.1, hF⟩
end Jvm.Pilot.@@N@@
namespace Jvm.Pilot.@@N@@
open Jvm Jvm.ClassFile Sem Op Lib Jvm.Free Jvm.Stand Jvm.Pilot.@@N@@.Jvm.D
/-! MADE BY PROGRAM (witnessworld.py) out of the Statement's table words and the real class files: 17 classes; the members and pool entries that the words name. The judged class is class 1, her method 1. -/
namespace start1
open Jvm.ClassFile
def u (s : String) : CpInfo := .utf8 (stringToUtf16 s)
/-- a pool by its gaps: so many unusable entries, then the entry; so many at the end -/
def gap : Nat → List CpInfo → List CpInfo
  | 0, r => r
  | n + 1, r => .unusable :: gap n r
def poolList (es : List (Nat × CpInfo)) (last : Nat) : List CpInfo := es.foldr (fun e r => gap e.1 (e.2 :: r)) (gap last [])
def pool (es : List (Nat × CpInfo)) (last : Nat) : Array CpInfo := ⟨poolList es last⟩
def fileOf (pool : Array CpInfo) (this : Nat) (attrs : Array Attribute := #[]) (ms : Array MethodInfo := #[]) (fl : Nat := 33) (sup : Nat := 0) (ifs : Array Nat := #[]) (fds : Array FieldInfo := #[]) : ClassFile where
  minorVersion := 0
  majorVersion := 65
  constantPool := pool
  accessFlags := fl
  thisClass := this
  superClass := sup
  interfaces := ifs
  fields := fds
  methods := ms
  attributes := attrs
def plain (name : String) (sup : Option ClassId) : Class where
  name := name
  kind := .ordinary
  loader := none
  accessFlags := 33
  super := sup
  interfaces := #[]
  cf := none
  fields := #[]
  methods := #[]
  instanceTypes := #[]
  staticTypes := #[]
  resolved := #[]
  callSites := []
  init := .initialized
  statics := none
  mirror := none

def pool0 : Array CpInfo := pool [(5, u "<init>"), (0, u "()V"), (1, .class_ 10), (1, u "java/lang/Object")] 113

def k0c0 : Code := { maxStack := 0, maxLocals := 1, code := object_method_1_code, exceptionTable := #[], attributes := #[] }
def k0m0 : Method := { name := "<init>", desc := "()V", sig := { parameters := [], returnType := none }, accessFlags := 1, code := some k0c0 }
/-- java/lang/Object -/
def k0 : Class := { plain "java/lang/Object" none with
  accessFlags := 33
  interfaces := #[]
  cf := some (fileOf pool0 8 #[] #[{ accessFlags := 1, nameIndex := 5, descriptorIndex := 6, attributes := #[] }] 33 0 #[] #[])
  fields := #[]
  methods := #[k0m0]
  instanceTypes := #[]
  staticTypes := #[]
  resolved := Array.replicate 124 none
  statics := none }

def pool1 : Array CpInfo := pool [(2, .class_ 4), (1, u "java/lang/Object"), (0, u "<init>"), (0, u "()V"), (0, .class_ 8), (0, u "com/example/lotparley/lotparley/Item"), (0, .string 10), (0, u "i"), (0, .methodref 7 12), (0, .nameAndType 5 13), (0, u "(Ljava/lang/String;[D[I[DDDI)V"), (0, .methodref 7 15), (0, .nameAndType 16 17), (0, u "hasDemand"), (0, u "()Z"), (0, .class_ 19), (0, u "com/example/lotparley/lotparley/ItemHasDemandPinLaw"), (2, u "law"), (0, u "(IIII)Z")] 5

def k1m0 : Method := { name := "<init>", desc := "()V", sig := { parameters := [], returnType := none }, accessFlags := 2, code := none }
def k1c1 : Code := { maxStack := 11, maxLocals := 14, code := code, exceptionTable := #[], attributes := #[] }
def k1m1 : Method := { name := "law", desc := "(IIII)Z", sig := { parameters := [.int, .int, .int, .int], returnType := some .boolean }, accessFlags := 9, code := some k1c1 }
/-- com/example/lotparley/lotparley/ItemHasDemandPinLaw -/
def k1 : Class := { plain "com/example/lotparley/lotparley/ItemHasDemandPinLaw" (some 0) with
  accessFlags := 49
  interfaces := #[]
  cf := some (fileOf pool1 18 #[] #[{ accessFlags := 2, nameIndex := 5, descriptorIndex := 6, attributes := #[] }, { accessFlags := 9, nameIndex := 22, descriptorIndex := 23, attributes := #[] }] 49 2 #[] #[])
  fields := #[]
  methods := #[k1m0, k1m1]
  instanceTypes := #[]
  staticTypes := #[]
  resolved := Array.replicate 29 none
  statics := none }

def pool2 : Array CpInfo := pool [(1, .methodref 2 3), (0, .class_ 4), (0, .nameAndType 5 6), (0, u "java/lang/Object"), (0, u "<init>"), (0, u "()V"), (0, .class_ 8), (0, u "java/lang/Record")] 13

def k2c0 : Code := { maxStack := 1, maxLocals := 1, code := jdk_30_method_1_code, exceptionTable := #[], attributes := #[] }
def k2m0 : Method := { name := "<init>", desc := "()V", sig := { parameters := [], returnType := none }, accessFlags := 4, code := some k2c0 }
/-- java/lang/Record -/
def k2 : Class := { plain "java/lang/Record" (some 0) with
  accessFlags := 1057
  interfaces := #[]
  cf := some (fileOf pool2 7 #[] #[{ accessFlags := 4, nameIndex := 5, descriptorIndex := 6, attributes := #[] }] 1057 2 #[] #[])
  fields := #[]
  methods := #[k2m0]
  instanceTypes := #[]
  staticTypes := #[]
  resolved := Array.replicate 22 none
  statics := none }

def pool3 : Array CpInfo := pool [(3, .methodref 4 5), (0, .class_ 6), (0, .nameAndType 7 8), (0, u "java/lang/Record"), (0, u "<init>"), (0, u "()V"), (0, .fieldref 10 11), (0, .class_ 12), (0, .nameAndType 13 14), (0, u "com/example/lotparley/lotparley/Item"), (0, u "id"), (0, u "Ljava/lang/String;"), (0, .fieldref 10 16), (0, .nameAndType 17 18), (0, u "demand"), (0, u "[D"), (0, .fieldref 10 20), (0, .nameAndType 21 22), (0, u "parents"), (0, u "[I"), (0, .fieldref 10 24), (0, .nameAndType 25 18), (0, u "unitsPerParent"), (0, .fieldref 10 27), (0, .nameAndType 28 29), (0, u "resource"), (0, u "D"), (0, .fieldref 10 31), (0, .nameAndType 32 29), (0, u "threshold"), (0, .fieldref 10 34), (0, .nameAndType 35 36), (0, u "madeBy"), (0, u "I"), (12, u "ONE_UNIT"), (3, u "NO_THRESHOLD"), (2, u "ANY_MAKER"), (1, u "(Ljava/lang/String;[D[I[DDDI)V"), (3, u "hasDemand"), (0, u "()Z")] 34

def k3c0 : Code := { maxStack := 3, maxLocals := 10, code := prog_8_method_1_code, exceptionTable := #[], attributes := #[] }
def k3m0 : Method := { name := "<init>", desc := "(Ljava/lang/String;[D[I[DDDI)V", sig := { parameters := [(.object "java/lang/String"), (.array .double), (.array .int), (.array .double), .double, .double, .int], returnType := none }, accessFlags := 0, code := some k3c0 }
def k3c1 : Code := { maxStack := 4, maxLocals := 6, code := prog_8_method_2_code, exceptionTable := #[], attributes := #[] }
def k3m1 : Method := { name := "hasDemand", desc := "()Z", sig := { parameters := [], returnType := some .boolean }, accessFlags := 0, code := some k3c1 }
/-- com/example/lotparley/lotparley/Item -/
def k3 : Class := { plain "com/example/lotparley/lotparley/Item" (some 2) with
  accessFlags := 48
  interfaces := #[]
  cf := some (fileOf pool3 10 #[] #[{ accessFlags := 0, nameIndex := 7, descriptorIndex := 58, attributes := #[] }, { accessFlags := 0, nameIndex := 62, descriptorIndex := 63, attributes := #[] }] 48 4 #[] #[{ accessFlags := 18, nameIndex := 13, descriptorIndex := 14, attributes := #[] }, { accessFlags := 18, nameIndex := 17, descriptorIndex := 18, attributes := #[] }, { accessFlags := 18, nameIndex := 21, descriptorIndex := 22, attributes := #[] }, { accessFlags := 18, nameIndex := 25, descriptorIndex := 18, attributes := #[] }, { accessFlags := 18, nameIndex := 28, descriptorIndex := 29, attributes := #[] }, { accessFlags := 18, nameIndex := 32, descriptorIndex := 29, attributes := #[] }, { accessFlags := 18, nameIndex := 35, descriptorIndex := 36, attributes := #[] }, { accessFlags := 24, nameIndex := 49, descriptorIndex := 29, attributes := #[] }, { accessFlags := 24, nameIndex := 53, descriptorIndex := 29, attributes := #[] }, { accessFlags := 24, nameIndex := 56, descriptorIndex := 36, attributes := #[] }])
  fields := #[{ name := "id", type := (.object "java/lang/String"), accessFlags := 18, slot := 0, constantValue := 0 }, { name := "demand", type := (.array .double), accessFlags := 18, slot := 1, constantValue := 0 }, { name := "parents", type := (.array .int), accessFlags := 18, slot := 2, constantValue := 0 }, { name := "unitsPerParent", type := (.array .double), accessFlags := 18, slot := 3, constantValue := 0 }, { name := "resource", type := .double, accessFlags := 18, slot := 4, constantValue := 0 }, { name := "threshold", type := .double, accessFlags := 18, slot := 5, constantValue := 0 }, { name := "madeBy", type := .int, accessFlags := 18, slot := 6, constantValue := 0 }, { name := "ONE_UNIT", type := .double, accessFlags := 24, slot := 0, constantValue := 0 }, { name := "NO_THRESHOLD", type := .double, accessFlags := 24, slot := 1, constantValue := 0 }, { name := "ANY_MAKER", type := .int, accessFlags := 24, slot := 2, constantValue := 0 }]
  methods := #[k3m0, k3m1]
  instanceTypes := #[(.object "java/lang/String"), (.array .double), (.array .int), (.array .double), .double, .double, .int]
  staticTypes := #[.double, .double, .int]
  resolved := Array.replicate 98 none
  statics := none }

def pool4 : Array CpInfo := pool [(1, .class_ 2), (0, u "java/io/Serializable"), (0, .class_ 4), (0, u "java/lang/Object")] 2

/-- java/io/Serializable -/
def k4 : Class := { plain "java/io/Serializable" (some 0) with
  accessFlags := 1537
  interfaces := #[]
  cf := some (fileOf pool4 1 #[] #[] 1537 3 #[] #[])
  fields := #[]
  methods := #[]
  instanceTypes := #[]
  staticTypes := #[]
  resolved := Array.replicate 7 none
  statics := none }

def pool5 : Array CpInfo := pool [(1, .class_ 2), (0, u "java/lang/Comparable"), (0, .class_ 4), (0, u "java/lang/Object")] 7

/-- java/lang/Comparable -/
def k5 : Class := { plain "java/lang/Comparable" (some 0) with
  accessFlags := 1537
  interfaces := #[]
  cf := some (fileOf pool5 1 #[] #[] 1537 3 #[] #[])
  fields := #[]
  methods := #[]
  instanceTypes := #[]
  staticTypes := #[]
  resolved := Array.replicate 12 none
  statics := none }

def pool6 : Array CpInfo := pool [(2, .class_ 4), (1, u "java/lang/CharSequence"), (42, .class_ 48), (0, u "java/lang/CharSequence$1CodePointIterator"), (10, .class_ 60), (0, u "java/lang/CharSequence$1CharIterator"), (5, .class_ 67), (0, u "java/lang/Object")] 63

/-- java/lang/CharSequence -/
def k6 : Class := { plain "java/lang/CharSequence" (some 0) with
  accessFlags := 1537
  interfaces := #[]
  cf := some (fileOf pool6 2 #[.nestMembers #[47, 59]] #[] 1537 66 #[] #[])
  fields := #[]
  methods := #[]
  instanceTypes := #[]
  staticTypes := #[]
  resolved := Array.replicate 131 none
  statics := none }

def pool7 : Array CpInfo := pool [(1, .class_ 2), (0, u "java/lang/constant/Constable"), (0, .class_ 4), (0, u "java/lang/Object")] 6

/-- java/lang/constant/Constable -/
def k7 : Class := { plain "java/lang/constant/Constable" (some 0) with
  accessFlags := 1537
  interfaces := #[]
  cf := some (fileOf pool7 1 #[] #[] 1537 3 #[] #[])
  fields := #[]
  methods := #[]
  instanceTypes := #[]
  staticTypes := #[]
  resolved := Array.replicate 11 none
  statics := none }

def pool8 : Array CpInfo := pool [(1, .class_ 2), (0, u "java/lang/constant/ConstantDesc"), (0, .class_ 4), (0, u "java/lang/Object")] 32

/-- java/lang/constant/ConstantDesc -/
def k8 : Class := { plain "java/lang/constant/ConstantDesc" (some 0) with
  accessFlags := 1537
  interfaces := #[]
  cf := some (fileOf pool8 1 #[] #[] 1537 3 #[] #[])
  fields := #[]
  methods := #[]
  instanceTypes := #[]
  staticTypes := #[]
  resolved := Array.replicate 37 none
  statics := none }

def pool9 : Array CpInfo := pool [(2, .class_ 4), (1, u "java/lang/Object"), (0, u "<init>"), (0, u "()V"), (3, .class_ 12), (1, u "java/lang/String"), (0, u "value"), (0, u "[B"), (2, u "coder"), (0, u "B"), (2, u "hash"), (0, u "I"), (2, u "hashIsZero"), (0, u "Z"), (13, u "COMPACT_STRINGS"), (534, .class_ 576), (0, u "java/lang/CharSequence"), (22, u "CASE_INSENSITIVE_ORDER"), (0, u "Ljava/util/Comparator;"), (500, u "serialPersistentFields"), (0, u "[Ljava/io/ObjectStreamField;"), (0, .class_ 1104), (0, u "java/lang/String$CaseInsensitiveComparator"), (1, .class_ 1107), (0, u "java/io/Serializable"), (0, .class_ 1109), (0, u "java/lang/Comparable"), (0, .class_ 1111), (0, u "java/lang/constant/Constable"), (0, .class_ 1113), (0, u "java/lang/constant/ConstantDesc"), (2, u "serialVersionUID"), (0, u "J"), (3, u "REPL"), (0, u "C"), (2, u "LATIN1"), (1, u "UTF16")] 323

def k9m0 : Method := { name := "<init>", desc := "()V", sig := { parameters := [], returnType := none }, accessFlags := 1, code := none }
/-- java/lang/String -/
def k9 : Class := { plain "java/lang/String" (some 0) with
  accessFlags := 49
  interfaces := #[4, 5, 6, 7, 8]
  cf := some (fileOf pool9 10 #[.nestMembers #[1103]] #[{ accessFlags := 1, nameIndex := 5, descriptorIndex := 6, attributes := #[] }] 49 2 #[1106, 1108, 575, 1110, 1112] #[{ accessFlags := 18, nameIndex := 13, descriptorIndex := 14, attributes := #[] }, { accessFlags := 18, nameIndex := 17, descriptorIndex := 18, attributes := #[] }, { accessFlags := 2, nameIndex := 21, descriptorIndex := 22, attributes := #[] }, { accessFlags := 2, nameIndex := 25, descriptorIndex := 26, attributes := #[] }, { accessFlags := 26, nameIndex := 1116, descriptorIndex := 1117, attributes := #[] }, { accessFlags := 24, nameIndex := 40, descriptorIndex := 26, attributes := #[] }, { accessFlags := 26, nameIndex := 1101, descriptorIndex := 1102, attributes := #[] }, { accessFlags := 26, nameIndex := 1121, descriptorIndex := 1122, attributes := #[] }, { accessFlags := 25, nameIndex := 599, descriptorIndex := 600, attributes := #[] }, { accessFlags := 24, nameIndex := 1125, descriptorIndex := 18, attributes := #[] }, { accessFlags := 24, nameIndex := 1127, descriptorIndex := 18, attributes := #[] }])
  fields := #[{ name := "value", type := (.array .byte), accessFlags := 18, slot := 0, constantValue := 0 }, { name := "coder", type := .byte, accessFlags := 18, slot := 1, constantValue := 0 }, { name := "hash", type := .int, accessFlags := 2, slot := 2, constantValue := 0 }, { name := "hashIsZero", type := .boolean, accessFlags := 2, slot := 3, constantValue := 0 }, { name := "serialVersionUID", type := .long, accessFlags := 26, slot := 0, constantValue := 0 }, { name := "COMPACT_STRINGS", type := .boolean, accessFlags := 24, slot := 1, constantValue := 0 }, { name := "serialPersistentFields", type := (.array (.object "java/io/ObjectStreamField")), accessFlags := 26, slot := 2, constantValue := 0 }, { name := "REPL", type := .char, accessFlags := 26, slot := 3, constantValue := 0 }, { name := "CASE_INSENSITIVE_ORDER", type := (.object "java/util/Comparator"), accessFlags := 25, slot := 4, constantValue := 0 }, { name := "LATIN1", type := .byte, accessFlags := 24, slot := 5, constantValue := 0 }, { name := "UTF16", type := .byte, accessFlags := 24, slot := 6, constantValue := 0 }]
  methods := #[k9m0]
  instanceTypes := #[(.array .byte), .byte, .int, .boolean]
  staticTypes := #[.long, .boolean, (.array (.object "java/io/ObjectStreamField")), .char, (.object "java/util/Comparator"), .byte, .byte]
  resolved := Array.replicate 1451 none
  statics := none }

def pool10 : Array CpInfo := pool [(1, u "java/lang/Cloneable"), (0, .class_ 1), (0, u "java/lang/Object"), (0, .class_ 3)] 3

/-- java/lang/Cloneable -/
def k10 : Class := { plain "java/lang/Cloneable" (some 0) with
  accessFlags := 1537
  interfaces := #[]
  cf := some (fileOf pool10 2 #[] #[] 1537 4 #[] #[])
  fields := #[]
  methods := #[]
  instanceTypes := #[]
  staticTypes := #[]
  resolved := Array.replicate 8 none
  statics := none }

/-- the primitive byte -/
def k11 : Class := { plain "byte" none with kind := .primitive 'B', accessFlags := 0x411 }
/-- [B -/
def k12 : Class := { plain "[B" (some 0) with kind := .array 11 .byte, interfaces := #[10, 4], accessFlags := 1041 }

/-- the primitive double -/
def k13 : Class := { plain "double" none with kind := .primitive 'D', accessFlags := 0x411 }
/-- [D -/
def k14 : Class := { plain "[D" (some 0) with kind := .array 13 .double, interfaces := #[10, 4], accessFlags := 1041 }

/-- the primitive int -/
def k15 : Class := { plain "int" none with kind := .primitive 'I', accessFlags := 0x411 }
/-- [I -/
def k16 : Class := { plain "[I" (some 0) with kind := .array 15 .int, interfaces := #[10, 4], accessFlags := 1041 }

def heap : Heap := #[]
def classes : Array Class := #[k0, k1, k2, k3, k4, k5, k6, k7, k8, k9, k10, k11, k12, k13, k14, k15, k16]
def interned : List (Array UInt16 × Addr) := []
def slotsUsed : Nat := 0
def theMethod : MethodId := ⟨1, 1⟩
def args0 : Array Value := #[.int 3, .int 7, .int (-2), .int 4]
def aboutOver (below : List Frame) : State where
  vm := { classes := classes, interned := interned.toArray }
  heap := heap
  slotsUsed := slotsUsed
  threads := #[{ frames := .invoking theMethod args0 :: below }]
def below0 : List Frame := [.native { method := ⟨0, 0⟩, args := #[] }]
def about1 : State := aboutOver below0
def p0 : Program := .bare "" "" ""
def e0 : Env := launch0.env 0 0 0
theorem w_frames : about1.frames = Frame.invoking theMethod args0 :: below0 := rfl
set_option maxRecDepth 65536 in
theorem w_args : argsFit about1.vm theMethod args0 = true := by decide +kernel
set_option maxRecDepth 65536 in
theorem w_heap : heapFits about1 = true := by decide +kernel
set_option maxRecDepth 65536 in
theorem w_runnable : about1.curStatus? = some .runnable := by decide +kernel
set_option maxRecDepth 65536 in
theorem w_alone : about1.alone = true := by decide +kernel
set_option maxRecDepth 65536 in
theorem w_named : about1.methodNamed? x = some theMethod := by decide +kernel
set_option maxRecDepth 65536 in
theorem w_hears : about1.hears theMethod below0 = true := by decide +kernel
set_option maxRecDepth 65536 in
theorem w_ripe : about1.ripe theMethod args0 below0 = true := by decide +kernel
theorem w_running : about1.status = .running := rfl
set_option maxRecDepth 65536 in
theorem w_room : about1.hasRoom e0.platform room_1 = true :=
  launch0.hasRoom_least _ room_1 (by decide +kernel) (by decide +kernel) (by decide +kernel) (by decide +kernel) (by decide +kernel) (by decide +kernel)
theorem allAtoms_all (ts : List Jvm.Cond) (a : Array Jvm.Value) (st : Jvm.State) : (allAtoms ts).before a st = ts.all (fun c => c.before a st) := by
  induction ts with
  | nil => rfl
  | cons c t ih =>
    show (Jvm.Cond.and c (allAtoms t)).before a st = _
    rw [Jvm.Cond.before_and, ih, List.all_cons]
def words1 : List Jvm.Cond := Jvm.Cond.code x code maxLocals ret :: tables_1
/-- a 'code' word, met by the world's own term for the bytes: nothing is compared byte by byte -/
theorem code_word {y : MethodName} {bytes : ByteArray} {mx : Nat} {rt : Option FieldType} {a : Array Value} {s : State} {m : MethodId} {meth : Method} {c : Code} (h1 : s.methodNamed? y = some m) (h2 : s.vm.method? m = some meth) (h3 : meth.code = some c) (h4 : c.code = bytes)
    (h5 : (c.maxLocals == mx && c.exceptionTable.isEmpty && decide (c.maxStack ≤ mostOperands) && decide (meth.sig.returnType = rt) && !meth.locks && decide (parseMethodDescriptor y.desc = some meth.sig)) = true) : (Jvm.Cond.code y bytes mx rt).before a s = true := by
  simp only [Bool.and_eq_true, beq_iff_eq, Bool.not_eq_true', decide_eq_true_eq] at h5
  obtain ⟨⟨⟨⟨⟨g1, g2⟩, g3⟩, g4⟩, g5⟩, g6⟩ := h5
  simp [Cond.before, Cond.holds, Cond.value, h1, h2, h3, h4, g1, g2, g3, g4, g5, g6]
def isCode : Jvm.Cond → Bool
  | .code _ _ _ _ => true
  | _ => false
theorem all_split {L : List Jvm.Cond} {P : Jvm.Cond → Bool} (h1 : L.all (fun c => isCode c || P c) = true) (h2 : ∀ c ∈ L.filter isCode, P c = true) : L.all P = true := by
  refine List.all_eq_true.mpr fun c hc => ?_
  have h := List.all_eq_true.mp h1 c hc
  rcases Bool.eq_false_or_eq_true (isCode c) with hi | hi
  · exact h2 c (List.mem_filter.mpr ⟨hc, hi⟩)
  · simpa [hi] using h
set_option maxRecDepth 65536 in
theorem w_c0 : (Jvm.Cond.code x code maxLocals ret).before args0 about1 = true := code_word (m := ⟨1, 1⟩) (meth := k1m1) (c := k1c1) (by decide +kernel) rfl rfl rfl (by decide +kernel)
set_option maxRecDepth 65536 in
theorem w_c1 : (Jvm.Cond.code ({ cls := "com/example/lotparley/lotparley/Item", name := "<init>", desc := "(Ljava/lang/String;[D[I[DDDI)V" } : Jvm.MethodName) prog_8_method_1_code (10 : Nat) (Option.none : Option Jvm.ClassFile.FieldType)).before args0 about1 = true := code_word (m := ⟨3, 0⟩) (meth := k3m0) (c := k3c0) (by decide +kernel) rfl rfl rfl (by decide +kernel)
set_option maxRecDepth 65536 in
theorem w_c2 : (Jvm.Cond.code ({ cls := "java/lang/Record", name := "<init>", desc := "()V" } : Jvm.MethodName) jdk_30_method_1_code (1 : Nat) (Option.none : Option Jvm.ClassFile.FieldType)).before args0 about1 = true := code_word (m := ⟨2, 0⟩) (meth := k2m0) (c := k2c0) (by decide +kernel) rfl rfl rfl (by decide +kernel)
set_option maxRecDepth 65536 in
theorem w_c3 : (Jvm.Cond.code ({ cls := "java/lang/Object", name := "<init>", desc := "()V" } : Jvm.MethodName) object_method_1_code (1 : Nat) (Option.none : Option Jvm.ClassFile.FieldType)).before args0 about1 = true := code_word (m := ⟨0, 0⟩) (meth := k0m0) (c := k0c0) (by decide +kernel) rfl rfl rfl (by decide +kernel)
set_option maxRecDepth 65536 in
theorem w_c4 : (Jvm.Cond.code ({ cls := "com/example/lotparley/lotparley/Item", name := "hasDemand", desc := "()Z" } : Jvm.MethodName) prog_8_method_2_code (6 : Nat) (Option.some Jvm.ClassFile.FieldType.boolean)).before args0 about1 = true := code_word (m := ⟨3, 1⟩) (meth := k3m1) (c := k3c1) (by decide +kernel) rfl rfl rfl (by decide +kernel)
def codes1 : List Jvm.Cond := [Jvm.Cond.code x code maxLocals ret, Jvm.Cond.code ({ cls := "com/example/lotparley/lotparley/Item", name := "<init>", desc := "(Ljava/lang/String;[D[I[DDDI)V" } : Jvm.MethodName) prog_8_method_1_code (10 : Nat) (Option.none : Option Jvm.ClassFile.FieldType), Jvm.Cond.code ({ cls := "java/lang/Record", name := "<init>", desc := "()V" } : Jvm.MethodName) jdk_30_method_1_code (1 : Nat) (Option.none : Option Jvm.ClassFile.FieldType), Jvm.Cond.code ({ cls := "java/lang/Object", name := "<init>", desc := "()V" } : Jvm.MethodName) object_method_1_code (1 : Nat) (Option.none : Option Jvm.ClassFile.FieldType), Jvm.Cond.code ({ cls := "com/example/lotparley/lotparley/Item", name := "hasDemand", desc := "()Z" } : Jvm.MethodName) prog_8_method_2_code (6 : Nat) (Option.some Jvm.ClassFile.FieldType.boolean)]
set_option maxRecDepth 65536 in
theorem codes_eq : words1.filter isCode = codes1 := rfl
theorem w_codes : ∀ c ∈ words1.filter isCode, c.before args0 about1 = true := by
  rw [codes_eq]
  intro c hc
  simp only [codes1, List.mem_cons, List.not_mem_nil, or_false] at hc
  rcases hc with rfl | rfl | rfl | rfl | rfl
  · exact w_c0
  · exact w_c1
  · exact w_c2
  · exact w_c3
  · exact w_c4
set_option maxRecDepth 65536 in
theorem w_t1 : (words1.take 24).all (fun c => isCode c || c.before args0 about1) = true := by decide +kernel
set_option maxRecDepth 65536 in
theorem w_t2 : (words1.drop 24).all (fun c => isCode c || c.before args0 about1) = true := by decide +kernel
theorem w_tables : (allAtoms (Jvm.Cond.code x code maxLocals ret :: tables_1)).before args0 about1 = true := by
  rw [allAtoms_all]
  show words1.all (fun c => c.before args0 about1) = true
  refine all_split ?_ w_codes
  rw [← List.take_append_drop 24 words1, List.all_append, w_t1, w_t2]
  rfl
set_option maxRecDepth 65536 in
theorem w_case : (Jvm.Cond.and given_1 narrow_1).before args0 about1 = true := by decide +kernel
theorem w_applies : (headSpec (Jvm.Cond.code x code maxLocals ret :: tables_1) room_1).applies x e0.platform about1 = true :=
  (Spec.applies_iff w_frames).mpr ⟨w_running, w_runnable, w_alone, w_named, w_hears, w_ripe, w_room, w_tables⟩
theorem atStart : AtStart classFile x code maxLocals ret World_1 tables_1 room_1 Calls_1 rest_1 Pre_1 launch0 p0 e0 about1 theMethod args0 below0 :=
  ⟨lists_1, trivial, launch0.admits_env _ _ _, launch0.least_env, fairChoices_fair.cas, fairChoices_fair.clock, w_frames, w_args, w_heap, w_applies, trivial, trivial, w_case⟩
end start1
theorem witness_1 : WitnessClaimed_1 := ⟨start1.p0, start1.e0, start1.about1, start1.theMethod, start1.args0, start1.below0, start1.atStart⟩
end Jvm.Pilot.@@N@@
