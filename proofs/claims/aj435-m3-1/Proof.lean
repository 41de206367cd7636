import JvmDerived
import JvmDerived.Pilot.@@N@@Statement
import JvmDerived.Pilot.@@N@@Code
set_option linter.unusedVariables false
set_option linter.unusedSimpArgs false
namespace Jvm.Pilot.@@N@@
open Jvm Jvm.ClassFile Sem Op Lib Jvm.Free Jvm.Stand Jvm.LawKit Jvm.RoadKit Bundle Jvm.Pilot.@@N@@.Jvm.D
section OwnBase
variable {p : Program} {l : Launch} {e : Env} {R : Room} {s : State} {m : MethodId} {args : Array Value} {below : List Frame} {meth : Method} {c : Code} {T : State} {locs : List Loc} {cells slots : Nat} {Z : State} {a0 : Array Value} {h h' : Heap} {n0 : Nat}
theorem own_q (hw : ∀ d ∈ tables_1, d.before a0 Z = true) (i : Nat) {d : Jvm.Cond} (h : tables_1[i]? = some d) : d.before a0 Z = true := hw d (List.mem_of_getElem? h)
/-- from A the run comes to B -/
def OGo (tb : Tables) (e : Env) (below : List Frame) (A B : State) : Prop := ∀ t, Steps tb e below B t → Steps tb e below A t
theorem own_body {y : MethodName} {bytes : ByteArray} {maxL : Nat} {ret : Option FieldType} {rm : Room} {as' : Array Value} {h0 : Heap} {r : Option Value} {P : Heap → Prop} (hpl : plainFor y = true) (hv : ret = none → r = none) (ws : List Jvm.Cond)
    (K : ∀ (p : Program) (e : Env) (s : State) (m : MethodId) (below : List Frame) (meth : Method) (c : Code) (s₁ S0 : State), p.tables.exec = Jvm.exec → c.code = bytes → c.maxLocals = maxL → s.vm.findClass y.cls = some m.cls → meth.name = y.name → meth.sig.returnType = ret → Z.Warmed39 s.vm → Stand p l e rm s m as' below meth c s₁ [] 0 0 → s₁.heap = h0 → OGo p.tables e below S0 (s₁.setTop (entryFrame m as' maxL)) →
      ∃ (T : State) (locs : List Loc) (cells slots : Nat), Stand p l e rm s m as' below meth c T locs cells slots ∧ cells ≤ rm.cells ∧ slots ≤ rm.slots ∧ Fr n0 locs ∧ P T.heap ∧ ∀ fs, (∀ (f : JFrame) (acts : List Action), f.method = m → f.locked = none → f.entered = [] → (doReturn e (T.setTop f) acts r).1 = T.setFrames fs) → Steps p.tables e below S0 (T.setFrames fs)) :
    MetFree l y (head1 (Jvm.Cond.code y bytes maxL ret :: ws) rm) (fun a U => a = as' ∧ Z.Warmed39 U.vm ∧ U.heap = h0) (fun _ _ _ _ _ => True) (fun _ U o U' => ∃ v L, o = .returned v ∧ (v = r ∧ Fr n0 L ∧ P U'.heap) ∧ FrameEnd U o U' L rm.cells rm.slots) := by
  refine MetFree.of_bodySF hpl hisR ?_
  intro p e s m args below meth c s₁ Bd hml0 hP hK
  obtain ⟨rfl, hZ, hh⟩ := hP
  obtain ⟨T, locs, cells, slots, X, hc, hs, N, hP, hgo⟩ := K p e s m below meth c s₁ _ Bd.exec Bd.bytes hml0 (findClass_of_methodNamed Bd.named) (name_of_methodNamed Bd.named Bd.method).1 Bd.returns hZ (Stand.of_body Bd) (by rw [← hh, Bd.state]; rfl) (fun t k => k)
  obtain ⟨fs, hr, hrun, hended, hW, hsame⟩ := X.leave (v := r) (fun h => hv (Bd.returns.symm.trans h))
  exact ⟨_, _, hgo fs hr, hrun, hended, _, _, rfl, ⟨rfl, N, hP⟩, ⟨_, rfl⟩, hW, hsame.mono hc hs⟩
/-- what a callee's theorem says -/
abbrev OMet (l : Launch) (Z : State) (n0 : Nat) (y : MethodName) (bytes : ByteArray) (maxL : Nat) (ret : Option FieldType) (rm : Room) (as' : Array Value) (h0 : Heap) (r : Option Value) (P : Heap → Prop) : Prop :=
  MetFree l y (head1 [Jvm.Cond.code y bytes maxL ret] rm) (fun a U => a = as' ∧ Z.Warmed39 U.vm ∧ U.heap = h0) (fun _ _ _ _ _ => True) (fun _ U o U' => ∃ v L, o = .returned v ∧ (v = r ∧ Fr n0 L ∧ P U'.heap) ∧ FrameEnd U o U' L rm.cells rm.slots)
theorem own_bodyM {y : MethodName} {bytes : ByteArray} {maxL : Nat} {ret : Option FieldType} {rm : Room} {as' : Array Value} {h0 : Heap} {r : Option Value} {P : Heap → Prop} (hpl : plainFor y = true) (hv : ret = none → r = none)
    (K : ∀ (p : Program) (e : Env) (s : State) (m : MethodId) (below : List Frame) (meth : Method) (c : Code) (s₁ S0 : State), p.tables.exec = Jvm.exec → c.code = bytes → c.maxLocals = maxL → s.vm.findClass y.cls = some m.cls → meth.name = y.name → meth.sig.returnType = ret → Z.Warmed39 s.vm → Stand p l e rm s m as' below meth c s₁ [] 0 0 → s₁.heap = h0 → OGo p.tables e below S0 (s₁.setTop (entryFrame m as' maxL)) →
      ∃ (T : State) (locs : List Loc) (cells slots : Nat), Stand p l e rm s m as' below meth c T locs cells slots ∧ cells ≤ rm.cells ∧ slots ≤ rm.slots ∧ Fr n0 locs ∧ P T.heap ∧ ∀ fs, (∀ (f : JFrame) (acts : List Action), f.method = m → f.locked = none → f.entered = [] → (doReturn e (T.setTop f) acts r).1 = T.setFrames fs) → Steps p.tables e below S0 (T.setFrames fs)) : OMet l Z n0 y bytes maxL ret rm as' h0 r P := own_body hpl hv [] K
theorem own_callV (X : Stand p l e R s m args below meth c T locs cells slots) (hx : p.tables.exec = Jvm.exec) (hZ : Z.Warmed39 s.vm) {own C : String} {index : Nat} {y : MethodName} (hown : s.vm.findClass own = some m.cls) {bytes : ByteArray} {maxL : Nat} {ret : Option FieldType}
    (w1 : (Jvm.Cond.methodLink own index y).before a0 Z = true) (w2 : (Jvm.Cond.declares y).before a0 Z = true) (w3 : (Jvm.Cond.selects C y y).before a0 Z = true) (w4 : (Jvm.Cond.instanceMethod y).before a0 Z = true) (w5 : (Jvm.Cond.code y bytes maxL ret).before a0 Z = true) (w6 : (Jvm.Cond.initialized y.cls).before a0 Z = true)
    (hy : y.cls ≠ "java/lang/invoke/MethodHandle" ∧ y.cls ≠ "java/lang/invoke/VarHandle") {rm : Room} {W : Nat} {as' : Array Value} {r : Option Value} {P : Heap → Prop} (hM : OMet l Z n0 y bytes maxL ret rm as' h r P) (eT : T.heap = h) {b : Addr} (E : Exa Z h b C) (N : Fr n0 locs)
    (hf : rm.frames + 1 ≤ R.frames) (hl : W + (maxL + 11) + rm.locals ≤ R.locals) (hcl : cells + rm.cells ≤ R.cells) (hsl : slots + rm.slots ≤ R.slots) {g : JFrame} (hg : g.method = m) (hsize : g.locals.size = c.maxLocals) {argsL rest : List Value}
    (hlen : ∀ sig, parseMethodDescriptor y.desc = some sig → argsL.length = sig.parameters.length) (hstack : g.stack = argsL.reverse ++ .ref b :: rest) (has : (.ref b :: argsL).toArray = as') (hW : 2 * g.monitorRoom + (rest.map fun v => v.category).sum ≤ W) (hdg : decode c.code g.pc = .ok (.invokevirtual index, 3)) :
    ∃ (T' : State) (locs' : List Loc), Stand p l e R s m args below meth c T' locs' (cells + rm.cells) (slots + rm.slots) ∧ Fr n0 locs' ∧ P T'.heap ∧ ∀ target, Steps p.tables e below (T'.setTop { g with pc := g.pc + 3, stack := r.toList ++ rest }) target → Steps p.tables e below (T.setTop g) target := by
  obtain ⟨cq, kq, q1, q2, q3⟩ := isOf hZ eT E
  obtain ⟨_, _, ⟨T', L, k, n⟩, -, X', ⟨Lc, ⟨rfl, N', hP⟩, l1, y1, z1⟩, st⟩ := X.virtualBack hx (y := y) (z := y) hown (mvT hZ w1) (mvT hZ w2) (notFace_of_selects (args := #[]) (mvT hZ w3)) (mvT hZ w3) (mvT hZ w4) hy (backOf (W := W) (Q := fun v h L => v = r ∧ Fr n0 L ∧ P h) hM hZ w5 w6 hf hl) q1 q3 (g := g) hg hsize (Steps.refl _) (argsL := argsL) (rest := rest) hlen hstack hW hdg (fun _ _ => ⟨has, eT, hcl, hsl⟩)
  dsimp only [Pt.U, Pt.locs, Pt.cells, Pt.slots] at X' l1 y1 z1 st N' hP
  subst l1 y1 z1
  exact ⟨T', _, X', N.app N', hP, fun t k => st.trans k⟩
theorem own_callS (X : Stand p l e R s m args below meth c T locs cells slots) (hx : p.tables.exec = Jvm.exec) (hZ : Z.Warmed39 s.vm) {own : String} {index : Nat} {y : MethodName} (hown : s.vm.findClass own = some m.cls) {bytes : ByteArray} {maxL : Nat} {ret : Option FieldType}
    (w1 : (Jvm.Cond.methodLink own index y).before a0 Z = true) (w2 : (Jvm.Cond.static y).before a0 Z = true) (w5 : (Jvm.Cond.code y bytes maxL ret).before a0 Z = true) (w6 : (Jvm.Cond.initialized y.cls).before a0 Z = true)
    (hy : y.cls ≠ "java/lang/invoke/MethodHandle" ∧ y.cls ≠ "java/lang/invoke/VarHandle") {rm : Room} {W : Nat} {as' : Array Value} {r : Option Value} {P : Heap → Prop} (hM : OMet l Z n0 y bytes maxL ret rm as' h r P) (eT : T.heap = h) (N : Fr n0 locs)
    (hf : rm.frames + 1 ≤ R.frames) (hl : W + (maxL + 11) + rm.locals ≤ R.locals) (hcl : cells + rm.cells ≤ R.cells) (hsl : slots + rm.slots ≤ R.slots) {g : JFrame} (hg : g.method = m) (hsize : g.locals.size = c.maxLocals) {argsL rest : List Value}
    (hlen : ∀ sig, parseMethodDescriptor y.desc = some sig → argsL.length = sig.parameters.length) (hstack : g.stack = argsL.reverse ++ rest) (has : argsL.toArray = as') (hW : 2 * g.monitorRoom + (rest.map fun v => v.category).sum ≤ W) (hdg : decode c.code g.pc = .ok (.invokestatic index, 3)) :
    ∃ (T' : State) (locs' : List Loc), Stand p l e R s m args below meth c T' locs' (cells + rm.cells) (slots + rm.slots) ∧ Fr n0 locs' ∧ P T'.heap ∧ ∀ target, Steps p.tables e below (T'.setTop { g with pc := g.pc + 3, stack := r.toList ++ rest }) target → Steps p.tables e below (T.setTop g) target := by
  obtain ⟨_, _, ⟨T', L, k, n⟩, -, X', ⟨Lc, ⟨rfl, N', hP⟩, l1, y1, z1⟩, st⟩ := Jvm.LawKit.callS X hx (y := y) hown (mvT hZ w1) (mvT hZ w2) (mvT hZ w6) (mvT hZ w5) hy (backOf (W := W) (Q := fun v h L => v = r ∧ Fr n0 L ∧ P h) hM hZ w5 w6 hf hl) (g := g) hg hsize (argsL := argsL) (rest := rest) hlen hstack hW hdg (fun _ _ => ⟨has, eT, hcl, hsl⟩)
  dsimp only [Pt.U, Pt.locs, Pt.cells, Pt.slots] at X' l1 y1 z1 st N' hP
  subst l1 y1 z1
  exact ⟨T', _, X', N.app N', hP, st⟩
theorem own_callI (X : Stand p l e R s m args below meth c T locs cells slots) (hx : p.tables.exec = Jvm.exec) (hZ : Z.Warmed39 s.vm) {own : String} {index : Nat} {y : MethodName} (hy1 : y.name = "<init>") (hown : s.vm.findClass own = some m.cls) {bytes : ByteArray} {maxL : Nat}
    (w1 : (Jvm.Cond.methodLink own index y).before a0 Z = true) (w4 : (Jvm.Cond.instanceMethod y).before a0 Z = true) (w5 : (Jvm.Cond.code y bytes maxL none).before a0 Z = true) (w6 : (Jvm.Cond.initialized y.cls).before a0 Z = true)
    (hy : y.cls ≠ "java/lang/invoke/MethodHandle" ∧ y.cls ≠ "java/lang/invoke/VarHandle") {rm : Room} {W : Nat} {as' : Array Value} {r : Option Value} {P : Heap → Prop} (hM : OMet l Z n0 y bytes maxL none rm as' h r P) (eT : T.heap = h) {b : Addr} (N : Fr n0 locs)
    (hf : rm.frames + 1 ≤ R.frames) (hl : W + (maxL + 11) + rm.locals ≤ R.locals) (hcl : cells + rm.cells ≤ R.cells) (hsl : slots + rm.slots ≤ R.slots) {g : JFrame} (hg : g.method = m) (hsize : g.locals.size = c.maxLocals) {argsL rest : List Value}
    (hlen : ∀ sig, parseMethodDescriptor y.desc = some sig → argsL.length = sig.parameters.length) (hstack : g.stack = argsL.reverse ++ .ref b :: rest) (has : (.ref b :: argsL).toArray = as') (hW : 2 * g.monitorRoom + (rest.map fun v => v.category).sum ≤ W) (hdg : decode c.code g.pc = .ok (.invokespecial index, 3)) :
    ∃ (T' : State) (locs' : List Loc), Stand p l e R s m args below meth c T' locs' (cells + rm.cells) (slots + rm.slots) ∧ Fr n0 locs' ∧ P T'.heap ∧ ∀ target, Steps p.tables e below (T'.setTop { g with pc := g.pc + 3, stack := r.toList ++ rest }) target → Steps p.tables e below (T.setTop g) target := by
  obtain ⟨_, _, ⟨T', L, k, n⟩, -, X', ⟨Lc, ⟨rfl, N', hP⟩, l1, y1, z1⟩, st⟩ := X.specialBack hx (y := y) hy1 hown (mvT hZ w1) (mvT hZ w4) (mvT hZ w5) hy (backOf (W := W) (Q := fun v h L => v = r ∧ Fr n0 L ∧ P h) hM hZ w5 w6 hf hl) (g := g) hg hsize (Steps.refl _) (a := b) (argsL := argsL) (rest := rest) hlen hstack hW hdg (fun _ _ => ⟨has, eT, hcl, hsl⟩)
  dsimp only [Pt.U, Pt.locs, Pt.cells, Pt.slots] at X' l1 y1 z1 st N' hP
  subst l1 y1 z1
  exact ⟨T', _, X', N.app N', hP, fun t k => st.trans k⟩
theorem own_callP (X : Stand p l e R s m args below meth c T locs cells slots) (hx : p.tables.exec = Jvm.exec) (hZ : Z.Warmed39 s.vm) {own : String} {index kk : Nat} {y : MethodName} (hown : s.vm.findClass own = some m.cls) {bytes : ByteArray} {maxL : Nat} {ret : Option FieldType}
    (w1 : (Jvm.Cond.methodLink own index y).before a0 Z = true) (w2 : (Jvm.Cond.privateMethod y).before a0 Z = true) (w3 : (Jvm.Cond.instantiable y.cls kk).before a0 Z = true) (w4 : (Jvm.Cond.instanceMethod y).before a0 Z = true) (w5 : (Jvm.Cond.code y bytes maxL ret).before a0 Z = true) (w6 : (Jvm.Cond.initialized y.cls).before a0 Z = true)
    (hy : y.cls ≠ "java/lang/invoke/MethodHandle" ∧ y.cls ≠ "java/lang/invoke/VarHandle") {rm : Room} {W : Nat} {as' : Array Value} {r : Option Value} {P : Heap → Prop} (hM : OMet l Z n0 y bytes maxL ret rm as' h r P) (eT : T.heap = h) {b : Addr} {C : String} (E : Exa Z h b C) (N : Fr n0 locs)
    (hf : rm.frames + 1 ≤ R.frames) (hl : W + (maxL + 11) + rm.locals ≤ R.locals) (hcl : cells + rm.cells ≤ R.cells) (hsl : slots + rm.slots ≤ R.slots) {g : JFrame} (hg : g.method = m) (hsize : g.locals.size = c.maxLocals) {argsL rest : List Value}
    (hlen : ∀ sig, parseMethodDescriptor y.desc = some sig → argsL.length = sig.parameters.length) (hstack : g.stack = argsL.reverse ++ .ref b :: rest) (has : (.ref b :: argsL).toArray = as') (hW : 2 * g.monitorRoom + (rest.map fun v => v.category).sum ≤ W) (hdg : decode c.code g.pc = .ok (.invokevirtual index, 3)) :
    ∃ (T' : State) (locs' : List Loc), Stand p l e R s m args below meth c T' locs' (cells + rm.cells) (slots + rm.slots) ∧ Fr n0 locs' ∧ P T'.heap ∧ ∀ target, Steps p.tables e below (T'.setTop { g with pc := g.pc + 3, stack := r.toList ++ rest }) target → Steps p.tables e below (T.setTop g) target := by
  obtain ⟨cq, q, q'⟩ := E.cell
  have hpr : s.PrivateAt y := Cond.privateMethod_at (mvP hZ w2 (args := #[]))
  obtain ⟨ci, ki, i1, i2, -, i4, -⟩ := Cond.instantiable_spec (mvT (args := #[]) hZ w3)
  have hsel : (Jvm.Cond.selects y.cls y y).before args s = true := selects_self_of_private i1 i2 (by simp only [Bool.or_eq_false_iff] at i4; exact i4.1) hpr (mvT hZ w4) hy
  obtain ⟨_, _, ⟨T', L, k, n⟩, -, X', ⟨Lc, ⟨rfl, N', hP⟩, l1, y1, z1⟩, st⟩ := X.privateBack hx (y := y) hown (mvT hZ w1) (mvT hZ w4) hsel hpr (mvT hZ w5) hy (backOf (W := W) (Q := fun v h L => v = r ∧ Fr n0 L ∧ P h) hM hZ w5 w6 hf hl) (g := g) hg hsize (Steps.refl _) (a := b) (by rw [eT]; exact q) q' (argsL := argsL) (rest := rest) hlen hstack hW hdg (fun _ _ => ⟨has, eT, hcl, hsl⟩)
  dsimp only [Pt.U, Pt.locs, Pt.cells, Pt.slots] at X' l1 y1 z1 st N' hP
  subst l1 y1 z1
  exact ⟨T', _, X', N.app N', hP, fun t k => st.trans k⟩
/-- the fields of one object, by their places in the list of names -/
def OFl (Z : State) (h : Heap) (C : String) (FN : List (String × String)) (b : Addr) (vs : List Value) : Prop := ∀ (k : Nat) (n d : String) (v : Value), FN[k]? = some (n, d) → vs[k]? = some v → Fld Z h b C n d v
def ODist (Z : State) (C : String) (FN : List (String × String)) : Prop := ∀ (j k : Nat) (x y : String × String), FN[j]? = some x → FN[k]? = some y → j ≠ k → Jvm.RoadKit.slotOf Z C x.1 x.2 ≠ Jvm.RoadKit.slotOf Z C y.1 y.2
/-- an array: her length, her first components, the others at the first value -/
def OAry (Z : State) (h : Heap) (n0 : Nat) (x : Addr × FieldType × Nat × List Value) : Prop := n0 ≤ x.1 ∧ ∃ c : Cell, Arr Z h x.1 c x.2.1 ∧ c.slots.size = x.2.2.1 ∧ ∀ k, k < x.2.2.1 → c.slots[k]? = some (x.2.2.2.getD k (defaultValue x.2.1))
def OArs (Z : State) (h : Heap) (n0 : Nat) (as : List (Addr × FieldType × Nat × List Value)) : Prop := (∀ (k : Nat) x, as[k]? = some x → OAry Z h n0 x) ∧ ∀ (j k : Nat) x y, as[j]? = some x → as[k]? = some y → j ≠ k → x.1 ≠ y.1
def OHp (Z : State) (h : Heap) (n0 : Nat) (C : String) (FN : List (String × String)) (b : Addr) (vs : List Value) (as : List (Addr × FieldType × Nat × List Value)) : Prop := n0 ≤ b ∧ Exa Z h b C ∧ OFl Z h C FN b vs ∧ OArs Z h n0 as
variable {C : String} {FN : List (String × String)} {b : Addr} {vs : List Value} {as : List (Addr × FieldType × Nat × List Value)}
theorem OAry.ext {x : Addr × FieldType × Nat × List Value} (E : Ext h h') (A : OAry Z h n0 x) : OAry Z h' n0 x := by
  obtain ⟨q, c, A, r⟩ := A; exact ⟨q, c, A.ext E, r⟩
theorem OAry.other {x : Addr × FieldType × Nat × List Value} {a : Addr} {sl : Nat} {v : Value} (W : Wr h h' a sl v) (A : OAry Z h n0 x) (ne : x.1 ≠ a) : OAry Z h' n0 x := by
  obtain ⟨q, c, A, r⟩ := A; exact ⟨q, c, A.other W ne, r⟩
theorem OAry.lt {x : Addr × FieldType × Nat × List Value} (A : OAry Z h n0 x) : x.1 < h.size := by obtain ⟨q, c, A, r⟩ := A; exact A.lt
theorem OArs.nil (Z : State) (h : Heap) (n0 : Nat) : OArs Z h n0 [] := ⟨fun k x q => by simp at q, fun j k x y q => by simp at q⟩
theorem OArs.ext (E : Ext h h') (A : OArs Z h n0 as) : OArs Z h' n0 as := ⟨fun k x q => (A.1 k x q).ext E, A.2⟩
theorem OFl.ext (E : Ext h h') (F : OFl Z h C FN b vs) : OFl Z h' C FN b vs := fun k n d v q r => (F k n d v q r).ext E
theorem OHp.ext (E : Ext h h') (H : OHp Z h n0 C FN b vs as) : OHp Z h' n0 C FN b vs as := ⟨H.1, H.2.1.ext E, H.2.2.1.ext E, H.2.2.2.ext E⟩
theorem OArs.snoc (A : OArs Z h n0 as) (E : Ext h h') {x : Addr × FieldType × Nat × List Value} (hx : OAry Z h' n0 x) (hn : h.size ≤ x.1) : OArs Z h' n0 (as ++ [x]) := by
  have key : ∀ (k : Nat) y, (as ++ [x])[k]? = some y → (as[k]? = some y ∧ k < as.length) ∨ (y = x ∧ k = as.length) := fun k y q => by
    by_cases hk : k < as.length
    · rw [List.getElem?_append_left hk] at q; exact Or.inl ⟨q, hk⟩
    · rw [List.getElem?_append_right (Nat.le_of_not_lt hk)] at q
      have h0 : k - as.length = 0 := by
        cases hq : k - as.length with
        | zero => rfl
        | succ j => rw [hq] at q; simp at q
      rw [h0] at q
      exact Or.inr ⟨by simpa using q.symm, by omega⟩
  refine ⟨fun k y q => ?_, fun j k y z qj qk ne => ?_⟩
  · rcases key k y q with ⟨q, -⟩ | ⟨rfl, -⟩
    · exact (A.1 k y q).ext E
    · exact hx
  · rcases key j y qj with ⟨qj, hj⟩ | ⟨ey, hj⟩ <;> rcases key k z qk with ⟨qk, hk⟩ | ⟨ez, hk⟩
    · exact A.2 j k y z qj qk ne
    · have := (A.1 j y qj).lt; rw [ez]; exact fun q => absurd (q ▸ this) (Nat.not_lt.mpr hn)
    · have := (A.1 k z qk).lt; rw [ey]; exact fun q => absurd (q.symm ▸ this) (Nat.not_lt.mpr hn)
    · omega
theorem OFl.other {a : Addr} {sl : Nat} {v : Value} (W : Wr h h' a sl v) (F : OFl Z h C FN b vs) (ne : b ≠ a) : OFl Z h' C FN b vs := fun k n d w q r => (F k n d w q r).other W (Or.inl ne)
theorem OFl.put {n d : String} {k : Nat} {v old : Value} (D : ODist Z C FN) (F : OFl Z h C FN b vs) (hk : FN[k]? = some (n, d)) (ho : vs[k]? = some old) (W : Wr h h' b (Jvm.RoadKit.slotOf Z C n d) v) : OFl Z h' C FN b (vs.set k v) := fun j n' d' w q r => by
  by_cases e : k = j
  · subst e
    cases q.symm.trans hk
    have hlt := (List.getElem?_eq_some_iff.mp ho).1
    rw [List.getElem?_set_self hlt] at r
    cases r
    exact (F k _ _ _ hk ho).same W
  · rw [List.getElem?_set_ne e] at r
    have hne := D j k (n', d') (n, d) q hk (Ne.symm e)
    exact (F j n' d' w q r).other W (Or.inr hne)
theorem OArs.put (A : OArs Z h n0 as) {a : Addr} {sl : Nat} {v : Value} (W : Wr h h' a sl v) (ne : ∀ (k : Nat) x, as[k]? = some x → x.1 ≠ a) : OArs Z h' n0 as := ⟨fun k x q => (A.1 k x q).other W (ne k x q), A.2⟩
theorem OAry.set {a : Addr} {ty : FieldType} {n j : Nat} {ws : List Value} {v : Value} (A : OAry Z h n0 (a, ty, n, ws)) (W : Wr h h' a j v) (hj : j < ws.length) : OAry Z h' n0 (a, ty, n, ws.set j v) := by
  obtain ⟨q, c, A, S, H⟩ := A
  refine ⟨q, _, A.same W, by rw [sz_set]; exact S, fun k hk => ?_⟩
  have hc : k < c.slots.size := S ▸ hk
  by_cases e : j = k
  · subst e; simp [Cell.setSlot, hc, hj]
  · have := H k hk; simp only [Cell.setSlot, List.getD_eq_getElem?_getD] at this ⊢
    rw [Array.getElem?_setIfInBounds_ne e, List.getElem?_set_ne e]; exact this
theorem OArs.set {a : Addr} {ty : FieldType} {n j k : Nat} {ws : List Value} {v : Value} (A : OArs Z h n0 as) (hk : as[k]? = some (a, ty, n, ws)) (W : Wr h h' a j v) (hj : j < ws.length) : OArs Z h' n0 (as.set k (a, ty, n, ws.set j v)) := by
  have hlt := (List.getElem?_eq_some_iff.mp hk).1
  have key : ∀ (i : Nat) y, (as.set k (a, ty, n, ws.set j v))[i]? = some y → (i = k ∧ y = (a, ty, n, ws.set j v)) ∨ (i ≠ k ∧ as[i]? = some y) := fun i y q => by
    by_cases e : k = i
    · subst e; rw [List.getElem?_set_self hlt] at q; exact Or.inl ⟨rfl, (Option.some.inj q).symm⟩
    · rw [List.getElem?_set_ne e] at q; exact Or.inr ⟨Ne.symm e, q⟩
  refine ⟨fun i y q => ?_, fun i i' y z qi qi' ne => ?_⟩
  · rcases key i y q with ⟨rfl, rfl⟩ | ⟨e, q⟩
    · exact (A.1 _ _ hk).set W hj
    · exact (A.1 i y q).other W (A.2 i k y _ q hk e)
  · rcases key i y qi with ⟨e, ey⟩ | ⟨e, q⟩ <;> rcases key i' z qi' with ⟨e', ez⟩ | ⟨e', q'⟩
    · exact absurd (e.trans e'.symm) ne
    · rw [ey]; exact A.2 k i' (a, ty, n, ws) z hk q' (Ne.symm e')
    · rw [ez]; exact A.2 i k y (a, ty, n, ws) q hk e
    · exact A.2 _ _ _ _ q q' ne
theorem own_getF (X : Stand p l e R s m args below meth c T locs cells slots) (hx : p.tables.exec = Jvm.exec) (hZ : Z.Warmed39 s.vm) {own n d : String} {index k : Nat} (hown : s.vm.findClass own = some m.cls) (w : (Jvm.Cond.fieldLink own index C n d).before a0 Z = true) (eT : T.heap = h)
    (H : OHp Z h n0 C FN b vs as) (hk : FN[k]? = some (n, d)) {v : Value} (hv : vs[k]? = some v) {g : JFrame} (hg : g.method = m) {rest : List Value} (hs : g.stack = .ref b :: rest) (hd : decode c.code g.pc = .ok (.getfield index, 3)) :
    ∃ T', Stand p l e R s m args below meth c T' locs cells slots ∧ T'.heap = h ∧ ∀ target, Steps p.tables e below (T'.setTop { g with pc := g.pc + 3, stack := v :: rest }) target → Steps p.tables e below (T.setTop g) target :=
  getF X hx hZ hown (host := "") (Or.inl w) Via.refl eT (H.2.2.1 k n d v hk hv) hg hs hd
theorem own_putF (X : Stand p l e R s m args below meth c T locs cells slots) (hx : p.tables.exec = Jvm.exec) (hZ : Z.Warmed39 s.vm) {own n d : String} {index k kk : Nat} (hown : s.vm.findClass own = some m.cls) (w : (Jvm.Cond.fieldLink own index C n d).before a0 Z = true) (eT : T.heap = h)
    (H : OHp Z h n0 C FN b vs as) (D : ODist Z C FN) (wi : (Jvm.Cond.instantiable C kk).before a0 Z = true) (hk : FN[k]? = some (n, d)) {v old : Value} (ho : vs[k]? = some old) (L : (Jvm.Cond.lays C C n d).before a0 Z = true ∨ ((Jvm.Cond.laysFinal C C n d).before a0 Z = true ∧ own = C ∧ meth.name = "<init>"))
    {ty : FieldType} (hty : parseFieldDescriptor d = some ty) (hn : narrow ty v = v) (hf : fits ty v = true) (N : Fr n0 locs) {vs' : List Value} (hvs : vs.set k v = vs') {g : JFrame} (hg : g.method = m) {rest : List Value} (hs : g.stack = v :: .ref b :: rest) (hd : decode c.code g.pc = .ok (.putfield index, 3)) :
    ∃ (T' : State) (h' : Heap) (locs' : List Loc), Stand p l e R s m args below meth c T' locs' cells slots ∧ T'.heap = h' ∧ Fr n0 locs' ∧ OHp Z h' n0 C FN b vs' as ∧ ∀ target, Steps p.tables e below (T'.setTop { g with pc := g.pc + 3, stack := rest }) target → Steps p.tables e below (T.setTop g) target := by
  obtain ⟨T', h', X', e', W, st⟩ := putF X hx hZ hown (host := "") (Or.inl w) Via.refl eT (H.2.2.1 k n d old hk ho) H.2.1 L wi hty hn hf hg hs hd
  subst hvs
  refine ⟨T', h', _, X', e', Fr.snoc X' N H.1, ⟨H.1, H.2.1.wr W, H.2.2.1.put D hk ho W, H.2.2.2.put W fun j x q => ?_⟩, st⟩
  obtain ⟨-, cx, A, -⟩ := H.2.2.2.1 j x q
  exact Ne.symm (ne_arr H.2.1 wi A)
theorem own_newA (X : Stand p l e R s m args below meth c T locs cells slots) (hx : p.tables.exec = Jvm.exec) (hZ : Z.Warmed39 s.vm) {aty : ArrayType} (w : (Jvm.Cond.arrayClass (newarray.typeOf aty)).before a0 Z = true) (eT : T.heap = h) (hz : n0 ≤ h.size)
    {g : JFrame} (hg : g.method = m) (hd : decode c.code g.pc = .ok (.newarray aty, 2)) {n : Int32} {rest : List Value} (hs : g.stack = .int n :: rest) (hn : ¬ n < 0) {cap : Nat} (hcap : n.toNatClampNeg = cap) (hb : cap * 8 ≤ 536870912) (hc : cells + 1 ≤ R.cells) (hl : slots + cap ≤ R.slots) (ws : List Value) (hws : ws = List.replicate ws.length (defaultValue (newarray.typeOf aty))) :
    ∃ (T' : State) (h' : Heap) (a : Addr), Stand p l e R s m args below meth c T' locs (cells + 1) (slots + cap) ∧ T'.heap = h' ∧ Ext h h' ∧ h.size ≤ a ∧ n0 ≤ h'.size ∧ OAry Z h' n0 (a, newarray.typeOf aty, cap, ws) ∧ ∀ target, Steps p.tables e below (T'.setTop { g with pc := g.pc + 2, stack := .ref a :: rest }) target → Steps p.tables e below (T.setTop g) target := by
  obtain ⟨T', h', cA, X', e', E, A, st⟩ := newP X hx hZ w eT hg hd hs hn (cap := cap) (Nat.le_of_eq hcap) hb hc hl
  refine ⟨T', h', _, X', e', E, Nat.le_refl _, Nat.le_trans hz E.1, ⟨hz, _, A, by rw [sz_new]; exact hcap, fun k hk => ?_⟩, st⟩
  have hk' : k < n.toNatClampNeg := hcap ▸ hk
  have : (newA cA (newarray.typeOf aty) n).slots[k]? = some (defaultValue (newarray.typeOf aty)) := by simp [newA, hk']
  rw [this]
  show _ = some (ws.getD k _)
  rw [hws, List.getD_eq_getElem?_getD, List.getElem?_replicate]
  split <;> rfl
theorem OHp.snoc (H : OHp Z h n0 C FN b vs as) (E : Ext h h') {x : Addr × FieldType × Nat × List Value} (hx : OAry Z h' n0 x) (hn : h.size ≤ x.1) : OHp Z h' n0 C FN b vs (as ++ [x]) := ⟨H.1, H.2.1.ext E, H.2.2.1.ext E, H.2.2.2.snoc E hx hn⟩
theorem own_stI (X : Stand p l e R s m args below meth c T locs cells slots) (hx : p.tables.exec = Jvm.exec) (hZ : Z.Warmed39 s.vm) (eT : T.heap = h) (A : OArs Z h n0 as) {k n i : Nat} {a : Addr} {ws : List Value} (hk : as[k]? = some (a, .int, n, ws)) {j x : Int32} (hj : ¬ j < 0) (hi : j.toNatClampNeg = i) (hl : i < ws.length) (hl' : i < n) (N : Fr n0 locs)
    {g : JFrame} (hg : g.method = m) {rest : List Value} (hs : g.stack = .int x :: .int j :: .ref a :: rest) (hd : decode c.code g.pc = .ok (.iastore, 1)) :
    ∃ (T' : State) (h' : Heap) (locs' : List Loc), Stand p l e R s m args below meth c T' locs' cells slots ∧ T'.heap = h' ∧ Fr n0 locs' ∧ Wr h h' a i (.int x) ∧ ∀ target, Steps p.tables e below (T'.setTop { g with pc := g.pc + 1, stack := rest }) target → Steps p.tables e below (T.setTop g) target := by
  obtain ⟨q, cl, Ar, S, -⟩ := A.1 k _ hk
  subst hi
  obtain ⟨T', h', X', e', W, st⟩ := stI X hx hZ eT Ar (j := j) (x := x) (fun z => z.elim hj (fun z => absurd z (Nat.not_le.mpr (S ▸ hl')))) hg hs hd
  exact ⟨T', h', _, X', e', Fr.snoc X' N q, W, st⟩
theorem own_stD (X : Stand p l e R s m args below meth c T locs cells slots) (hx : p.tables.exec = Jvm.exec) (hZ : Z.Warmed39 s.vm) (eT : T.heap = h) (A : OArs Z h n0 as) {k n i : Nat} {a : Addr} {ws : List Value} (hk : as[k]? = some (a, .double, n, ws)) {j : Int32} {x : UInt64} (hj : ¬ j < 0) (hi : j.toNatClampNeg = i) (hl : i < ws.length) (hl' : i < n) (N : Fr n0 locs)
    {g : JFrame} (hg : g.method = m) {rest : List Value} (hs : g.stack = .double x :: .int j :: .ref a :: rest) (hd : decode c.code g.pc = .ok (.dastore, 1)) :
    ∃ (T' : State) (h' : Heap) (locs' : List Loc), Stand p l e R s m args below meth c T' locs' cells slots ∧ T'.heap = h' ∧ Fr n0 locs' ∧ Wr h h' a i (.double x) ∧ ∀ target, Steps p.tables e below (T'.setTop { g with pc := g.pc + 1, stack := rest }) target → Steps p.tables e below (T.setTop g) target := by
  obtain ⟨q, cl, Ar, S, -⟩ := A.1 k _ hk
  subst hi
  obtain ⟨T', h', X', e', W, st⟩ := stD X hx hZ eT Ar (j := j) (x := x) (fun z => z.elim hj (fun z => absurd z (Nat.not_le.mpr (S ▸ hl')))) hg hs hd
  exact ⟨T', h', _, X', e', Fr.snoc X' N q, W, st⟩
theorem OHp.set {a : Addr} {ty : FieldType} {n j k kk : Nat} {ws : List Value} {v : Value} (H : OHp Z h n0 C FN b vs as) (wi : (Jvm.Cond.instantiable C kk).before a0 Z = true) (hk : as[k]? = some (a, ty, n, ws)) (W : Wr h h' a j v) (hj : j < ws.length) {as' : List (Addr × FieldType × Nat × List Value)} (has : as.set k (a, ty, n, ws.set j v) = as') : OHp Z h' n0 C FN b vs as' := by
  obtain ⟨-, cx, A, -⟩ := H.2.2.2.1 k _ hk
  subst has
  exact ⟨H.1, H.2.1.wr W, H.2.2.1.other W (ne_arr H.2.1 wi A), H.2.2.2.set hk W hj⟩
theorem own_dald (X : Stand p l e R s m args below meth c T locs cells slots) (hx : p.tables.exec = Jvm.exec) (hZ : Z.Warmed39 s.vm) (eT : T.heap = h) (A : OArs Z h n0 as) {k n i : Nat} {a : Addr} {ws : List Value} (hk : as[k]? = some (a, .double, n, ws)) {j : Int32} {v : Value} (hj : ¬ j < 0) (hi : j.toNatClampNeg = i) (hl' : i < n) (hv : ws.getD i (.double 0) = v)
    {g : JFrame} (hg : g.method = m) {rest : List Value} (hs : g.stack = .int j :: .ref a :: rest) (hd : decode c.code g.pc = .ok (.daload, 1)) (t : State) (hr : Steps p.tables e below (T.setTop { g with pc := g.pc + 1, stack := v :: rest }) t) : Steps p.tables e below (T.setTop g) t := by
  obtain ⟨q, cl, Ar, S, H⟩ := A.1 k _ hk
  subst hi hv
  exact X.daload hx (by rw [eT]; exact Ar.1) (State.isArrayOf_alike hZ.alike Ar.2.1) Ar.2.2 (fun z => z.elim hj (fun z => absurd z (Nat.not_le.mpr (S ▸ hl')))) (H _ hl') hg hs hd t hr
theorem own_iald (X : Stand p l e R s m args below meth c T locs cells slots) (hx : p.tables.exec = Jvm.exec) (hZ : Z.Warmed39 s.vm) (eT : T.heap = h) (A : OArs Z h n0 as) {k n i : Nat} {a : Addr} {ws : List Value} (hk : as[k]? = some (a, .int, n, ws)) {j : Int32} {v : Value} (hj : ¬ j < 0) (hi : j.toNatClampNeg = i) (hl' : i < n) (hv : ws.getD i (.int 0) = v)
    {g : JFrame} (hg : g.method = m) {rest : List Value} (hs : g.stack = .int j :: .ref a :: rest) (hd : decode c.code g.pc = .ok (.iaload, 1)) (t : State) (hr : Steps p.tables e below (T.setTop { g with pc := g.pc + 1, stack := v :: rest }) t) : Steps p.tables e below (T.setTop g) t := by
  obtain ⟨q, cl, Ar, S, H⟩ := A.1 k _ hk
  subst hi hv
  exact X.iaload hx (by rw [eT]; exact Ar.1) (State.isArrayOf_alike hZ.alike Ar.2.1) Ar.2.2 (fun z => z.elim hj (fun z => absurd z (Nat.not_le.mpr (S ▸ hl')))) (H _ hl') hg hs hd t hr
theorem own_alen (X : Stand p l e R s m args below meth c T locs cells slots) (hx : p.tables.exec = Jvm.exec) (hZ : Z.Warmed39 s.vm) (eT : T.heap = h) (A : OArs Z h n0 as) {k n : Nat} {a : Addr} {ty : FieldType} {ws : List Value} (hk : as[k]? = some (a, ty, n, ws)) {v : Int32} (hv : n.toInt32 = v)
    {g : JFrame} (hg : g.method = m) {rest : List Value} (hs : g.stack = .ref a :: rest) (hd : decode c.code g.pc = .ok (.arraylength, 1)) (t : State) (hr : Steps p.tables e below (T.setTop { g with pc := g.pc + 1, stack := .int v :: rest }) t) : Steps p.tables e below (T.setTop g) t := by
  obtain ⟨q, cl, Ar, S, H⟩ := A.1 k _ hk
  subst hv
  exact X.arraylength hx (by rw [eT]; exact Ar.1) (State.isArrayOf_alike hZ.alike Ar.2.1) hg hs hd t (by rw [show cl.slots.size = n from S]; exact hr)
theorem own_retD (X : Stand p l e R s m args below meth c T locs cells slots) (hx : p.tables.exec = Jvm.exec) {pc : Nat} {Ls : Array Slot} {z : UInt64} {rest : List Value} (hret : meth.sig.returnType = some .double) (hd : decode c.code pc = .ok (.dreturn, 1)) {fs : List Frame}
    (hl : ∀ (f : JFrame) (acts : List Action), f.method = m → f.locked = none → f.entered = [] → (doReturn e (T.setTop f) acts (some (.double z))).1 = T.setFrames fs) : Steps p.tables e below (T.setTop (mkF m pc Ls (.double z :: rest))) (T.setFrames fs) :=
  retOut X hx hret rfl (Or.inr (Or.inr (Or.inl ⟨rfl, rfl, _, rfl⟩))) hd hl
theorem own_retI (X : Stand p l e R s m args below meth c T locs cells slots) (hx : p.tables.exec = Jvm.exec) {pc : Nat} {Ls : Array Slot} {z : Int32} {rest : List Value} (hret : meth.sig.returnType = some .int) (hd : decode c.code pc = .ok (.ireturn, 1)) {fs : List Frame}
    (hl : ∀ (f : JFrame) (acts : List Action), f.method = m → f.locked = none → f.entered = [] → (doReturn e (T.setTop f) acts (some (.int z))).1 = T.setFrames fs) : Steps p.tables e below (T.setTop (mkF m pc Ls (.int z :: rest))) (T.setFrames fs) :=
  retOut X hx hret rfl (Or.inl ⟨rfl, Or.inl rfl, _, rfl⟩) hd hl
theorem own_iadd {tb : Tables} [Ours tb] {target : State} {g : JFrame} (h : At T m c below) (hx : tb.exec = Jvm.exec) (hg : g.method = m) {x y v : Int32} {rest : List Value} (hd : decode c.code g.pc = .ok (.iadd, 1)) (hs : g.stack = .int y :: .int x :: rest) (hv : x + y = v)
    (hr : Steps tb e below (T.setTop { g with pc := g.pc + 1, stack := .int v :: rest }) target) : Steps tb e below (T.setTop g) target := by
  subst hv; exact XS.iadd h hx hg hd hs hr
def own_dv (d : String) : Value := match parseFieldDescriptor d with | some ty => defaultValue ty | none => .int 0
theorem own_dist_of (hL : ∀ x ∈ FN, Laid Z a0 C C x.1 x.2 ∧ (parseFieldDescriptor x.2).isSome = true) (n : Nat) (hn : FN.length = n) (hd : ∀ j, j < n → ∀ k, k < n → j ≠ k → FN[j]?.map Prod.fst ≠ FN[k]?.map Prod.fst) : ODist Z C FN := fun j k x y qj qk ne => by
  obtain ⟨lj, pj⟩ := hL x (List.mem_of_getElem? qj)
  obtain ⟨lk, pk⟩ := hL y (List.mem_of_getElem? qk)
  obtain ⟨tj, ej⟩ := Option.isSome_iff_exists.mp pj
  obtain ⟨tk, ek⟩ := Option.isSome_iff_exists.mp pk
  have hj := (List.getElem?_eq_some_iff.mp qj).1
  have hk := (List.getElem?_eq_some_iff.mp qk).1
  have := hd j (hn ▸ hj) k (hn ▸ hk) ne
  rw [qj, qk] at this
  exact slot_ne lj lk (fun q => this (by simp [q])) ej ek
theorem own_newO (X : Stand p l e R s m args below meth c T locs cells slots) (hx : p.tables.exec = Jvm.exec) (hZ : Z.Warmed39 s.vm) {own : String} {index n : Nat} (hown : s.vm.findClass own = some m.cls) (w : (Jvm.Cond.classLink own index C).before a0 Z = true) (wi : (Jvm.Cond.instantiable C n).before a0 Z = true) (wz : (Jvm.Cond.initialized C).before a0 Z = true) (eT : T.heap = h) (hz : n0 ≤ h.size)
    (A : OArs Z h n0 as) (hL : ∀ x ∈ FN, Laid Z a0 C C x.1 x.2 ∧ (parseFieldDescriptor x.2).isSome = true) (hvs : FN.map (fun x => own_dv x.2) = vs) {g : JFrame} (hg : g.method = m) (hd : decode c.code g.pc = .ok (.new index, 3)) (hc : cells + 1 ≤ R.cells) (hl : slots + n ≤ R.slots) :
    ∃ (T' : State) (h' : Heap) (b : Addr), Stand p l e R s m args below meth c T' locs (cells + 1) (slots + n) ∧ T'.heap = h' ∧ OHp Z h' n0 C FN b vs as ∧ ∀ target, Steps p.tables e below (T'.setTop { g with pc := g.pc + 3, stack := .ref b :: g.stack }) target → Steps p.tables e below (T.setTop g) target := by
  obtain ⟨T', h', X', e', E, Ex, D, -, st⟩ := newO X hx hZ hown w wi wz eT hg hd hc hl
  refine ⟨T', h', _, X', e', ⟨hz, Ex, fun k nm d v q r => ?_, A.ext E⟩, st⟩
  obtain ⟨lj, pj⟩ := hL _ (List.mem_of_getElem? q)
  obtain ⟨tj, ej⟩ := Option.isSome_iff_exists.mp pj
  subst hvs
  rw [List.getElem?_map, q] at r
  have : v = defaultValue tj := by
    have r' : own_dv d = v := by simpa using r
    rw [← r']; show own_dv d = _; unfold own_dv; rw [ej]
  rw [this]
  exact D lj ej
theorem own_bodyW {y : MethodName} {bytes : ByteArray} {maxL : Nat} {ret : Option FieldType} {rm : Room} {as' : Array Value} {h0 : Heap} {r : Option Value} (hpl : plainFor y = true) (hv : ret = none → r = none) (ws : List Jvm.Cond)
    (K : ∀ (p : Program) (e : Env) (s : State) (m : MethodId) (below : List Frame) (meth : Method) (c : Code) (s₁ S0 : State), p.tables.exec = Jvm.exec → c.code = bytes → c.maxLocals = maxL → s.vm.findClass y.cls = some m.cls → meth.name = y.name → meth.sig.returnType = ret → Z.Warmed39 s.vm → Stand p l e rm s m as' below meth c s₁ [] 0 0 → s₁.heap = h0 → OGo p.tables e below S0 (s₁.setTop (entryFrame m as' maxL)) →
      ∃ (T : State) (locs : List Loc) (cells slots : Nat) (vm₁ : Vm) (k : Nat), Stand p l e rm (s.setVm vm₁) m as' below meth c T locs cells slots ∧ s.Since vm₁ k ∧ k ≤ T.heap.size ∧ cells ≤ rm.cells ∧ slots ≤ rm.slots ∧ Fr n0 locs ∧ ∀ fs, (∀ (f : JFrame) (acts : List Action), f.method = m → f.locked = none → f.entered = [] → (doReturn e (T.setTop f) acts r).1 = T.setFrames fs) → Steps p.tables e below S0 (T.setFrames fs)) :
    MetFree l y (head1 (Jvm.Cond.code y bytes maxL ret :: ws) rm) (fun a U => a = as' ∧ Z.Warmed39 U.vm ∧ U.heap = h0) (fun _ _ _ _ _ => True) (fun _ U o U' => ∃ v L, o = .returned v ∧ (v = r ∧ Fr n0 L) ∧ ReturnedEndW U o U' L rm.cells rm.slots) := by
  refine MetFree.of_bodySF hpl hisR ?_
  intro p e s m args below meth c s₁ Bd hml0 hP hK
  obtain ⟨rfl, hZ, hh⟩ := hP
  obtain ⟨T, locs, cells, slots, vm₁, k, X, hS, hk, hc, hs, N, hgo⟩ := K p e s m below meth c s₁ _ Bd.exec Bd.bytes hml0 (findClass_of_methodNamed Bd.named) (name_of_methodNamed Bd.named Bd.method).1 Bd.returns hZ (Stand.of_body Bd) (by rw [← hh, Bd.state]; rfl) (fun t k => k)
  obtain ⟨fs, hr, hrun, hended, h1, h2, h3, hsame⟩ := X.leaveW hS hk (v := r) (fun h => hv (Bd.returns.symm.trans h))
  exact ⟨_, _, hgo fs hr, hrun, hended, _, _, rfl, ⟨rfl, N⟩, h1, h2, h3, hsame.mono hc hs⟩
theorem own_grow {T₀ : State} (X0 : Stand p l e R s m args below meth c T₀ [] 0 0) (X : Stand p l e R s m args below meth c T locs cells slots) : T₀.heap.size ≤ T.heap.size := Nat.le_trans (show T₀.heap.size ≤ s.heap.size + 0 from X0.same.2.2.1) X.same.2.1
end OwnBase
def own_FN : List (String × String) := [("trees", "I"), ("goldBrackets", "I"), ("testBrackets", "I"), ("matched", "I"), ("words", "I"), ("correctTags", "I")]
theorem own_laid (Z : State) (a0 : Array Value) (hw : ∀ d ∈ tables_1, d.before a0 Z = true) : ∀ x ∈ own_FN, Laid Z a0 "com/example/boughsplit/boughsplit/service/BracketScorer$Counts" "com/example/boughsplit/boughsplit/service/BracketScorer$Counts" x.1 x.2 ∧ (parseFieldDescriptor x.2).isSome = true := by
  intro x hx
  simp only [own_FN, List.mem_cons, List.not_mem_nil, or_false] at hx
  rcases hx with rfl | rfl | rfl | rfl | rfl | rfl
  · exact ⟨Or.inr (own_q hw 21 rfl), by decide⟩
  · exact ⟨Or.inr (own_q hw 23 rfl), by decide⟩
  · exact ⟨Or.inr (own_q hw 25 rfl), by decide⟩
  · exact ⟨Or.inr (own_q hw 27 rfl), by decide⟩
  · exact ⟨Or.inr (own_q hw 29 rfl), by decide⟩
  · exact ⟨Or.inr (own_q hw 31 rfl), by decide⟩
theorem own_dist (Z : State) (a0 : Array Value) (hw : ∀ d ∈ tables_1, d.before a0 Z = true) : ODist Z "com/example/boughsplit/boughsplit/service/BracketScorer$Counts" own_FN := own_dist_of (own_laid Z a0 hw) 6 rfl (by decide +kernel)
theorem d1_0 : decode jdk_29_method_69_code 0 = .ok (.iload_n 0, 1) := by decide +kernel
theorem d1_1 : decode jdk_29_method_69_code 1 = .ok (.iload_n 1, 1) := by decide +kernel
theorem d1_2 : decode jdk_29_method_69_code 2 = .ok (.if_icmp .gt 7, 3) := by decide +kernel
theorem d1_5 : decode jdk_29_method_69_code 5 = .ok (.iload_n 0, 1) := by decide +kernel
theorem d1_6 : decode jdk_29_method_69_code 6 = .ok (.goto 4, 3) := by decide +kernel
theorem d1_9 : decode jdk_29_method_69_code 9 = .ok (.iload_n 1, 1) := by decide +kernel
theorem d1_10 : decode jdk_29_method_69_code 10 = .ok (.ireturn, 1) := by decide +kernel
theorem d2_0 : decode prog_33_method_1_code 0 = .ok (.aload_n 0, 1) := by decide +kernel
theorem d2_1 : decode prog_33_method_1_code 1 = .ok (.invokespecial 1, 3) := by decide +kernel
theorem d2_4 : decode prog_33_method_1_code 4 = .ok (.aload_n 0, 1) := by decide +kernel
theorem d2_5 : decode prog_33_method_1_code 5 = .ok (.iload_n 1, 1) := by decide +kernel
theorem d2_6 : decode prog_33_method_1_code 6 = .ok (.putfield 7, 3) := by decide +kernel
theorem d2_9 : decode prog_33_method_1_code 9 = .ok (.aload_n 0, 1) := by decide +kernel
theorem d2_10 : decode prog_33_method_1_code 10 = .ok (.iload_n 2, 1) := by decide +kernel
theorem d2_11 : decode prog_33_method_1_code 11 = .ok (.putfield 13, 3) := by decide +kernel
theorem d2_14 : decode prog_33_method_1_code 14 = .ok (.aload_n 0, 1) := by decide +kernel
theorem d2_15 : decode prog_33_method_1_code 15 = .ok (.iload_n 3, 1) := by decide +kernel
theorem d2_16 : decode prog_33_method_1_code 16 = .ok (.putfield 16, 3) := by decide +kernel
theorem d2_19 : decode prog_33_method_1_code 19 = .ok (.aload_n 0, 1) := by decide +kernel
theorem d2_20 : decode prog_33_method_1_code 20 = .ok (.iload 4, 2) := by decide +kernel
theorem d2_22 : decode prog_33_method_1_code 22 = .ok (.putfield 19, 3) := by decide +kernel
theorem d2_25 : decode prog_33_method_1_code 25 = .ok (.aload_n 0, 1) := by decide +kernel
theorem d2_26 : decode prog_33_method_1_code 26 = .ok (.iload 5, 2) := by decide +kernel
theorem d2_28 : decode prog_33_method_1_code 28 = .ok (.putfield 22, 3) := by decide +kernel
theorem d2_31 : decode prog_33_method_1_code 31 = .ok (.aload_n 0, 1) := by decide +kernel
theorem d2_32 : decode prog_33_method_1_code 32 = .ok (.iload 6, 2) := by decide +kernel
theorem d2_34 : decode prog_33_method_1_code 34 = .ok (.putfield 25, 3) := by decide +kernel
theorem d2_37 : decode prog_33_method_1_code 37 = .ok (.return_, 1) := by decide +kernel
theorem d3_0 : decode jdk_30_method_1_code 0 = .ok (.aload_n 0, 1) := by decide +kernel
theorem d3_1 : decode jdk_30_method_1_code 1 = .ok (.invokespecial 1, 3) := by decide +kernel
theorem d3_4 : decode jdk_30_method_1_code 4 = .ok (.return_, 1) := by decide +kernel
theorem d5_0 : decode prog_33_method_5_code 0 = .ok (.iconst 2, 1) := by decide +kernel
theorem d5_1 : decode prog_33_method_5_code 1 = .ok (.aload_n 0, 1) := by decide +kernel
theorem d5_2 : decode prog_33_method_5_code 2 = .ok (.getfield 19, 3) := by decide +kernel
theorem d5_5 : decode prog_33_method_5_code 5 = .ok (.imul, 1) := by decide +kernel
theorem d5_6 : decode prog_33_method_5_code 6 = .ok (.aload_n 0, 1) := by decide +kernel
theorem d5_7 : decode prog_33_method_5_code 7 = .ok (.getfield 13, 3) := by decide +kernel
theorem d5_10 : decode prog_33_method_5_code 10 = .ok (.aload_n 0, 1) := by decide +kernel
theorem d5_11 : decode prog_33_method_5_code 11 = .ok (.getfield 16, 3) := by decide +kernel
theorem d5_14 : decode prog_33_method_5_code 14 = .ok (.iadd, 1) := by decide +kernel
theorem d5_15 : decode prog_33_method_5_code 15 = .ok (.invokestatic 31, 3) := by decide +kernel
theorem d5_18 : decode prog_33_method_5_code 18 = .ok (.dreturn, 1) := by decide +kernel
theorem d6_0 : decode prog_33_method_7_code 0 = .ok (.iload_n 1, 1) := by decide +kernel
theorem d6_1 : decode prog_33_method_7_code 1 = .ok (.ifCond .ne 7, 3) := by decide +kernel
theorem d6_4 : decode prog_33_method_7_code 4 = .ok (.dconst 0, 1) := by decide +kernel
theorem d6_5 : decode prog_33_method_7_code 5 = .ok (.goto 12, 3) := by decide +kernel
theorem d6_8 : decode prog_33_method_7_code 8 = .ok (.ldc2_w 35, 3) := by decide +kernel
theorem d6_11 : decode prog_33_method_7_code 11 = .ok (.iload_n 0, 1) := by decide +kernel
theorem d6_12 : decode prog_33_method_7_code 12 = .ok (.i2d, 1) := by decide +kernel
theorem d6_13 : decode prog_33_method_7_code 13 = .ok (.dmul, 1) := by decide +kernel
theorem d6_14 : decode prog_33_method_7_code 14 = .ok (.iload_n 1, 1) := by decide +kernel
theorem d6_15 : decode prog_33_method_7_code 15 = .ok (.i2d, 1) := by decide +kernel
theorem d6_16 : decode prog_33_method_7_code 16 = .ok (.ddiv, 1) := by decide +kernel
theorem d6_17 : decode prog_33_method_7_code 17 = .ok (.dreturn, 1) := by decide +kernel
theorem d7_0 : decode prog_33_method_3_code 0 = .ok (.aload_n 0, 1) := by decide +kernel
theorem d7_1 : decode prog_33_method_3_code 1 = .ok (.getfield 19, 3) := by decide +kernel
theorem d7_4 : decode prog_33_method_3_code 4 = .ok (.aload_n 0, 1) := by decide +kernel
theorem d7_5 : decode prog_33_method_3_code 5 = .ok (.getfield 16, 3) := by decide +kernel
theorem d7_8 : decode prog_33_method_3_code 8 = .ok (.invokestatic 31, 3) := by decide +kernel
theorem d7_11 : decode prog_33_method_3_code 11 = .ok (.dreturn, 1) := by decide +kernel
theorem d8_0 : decode prog_33_method_4_code 0 = .ok (.aload_n 0, 1) := by decide +kernel
theorem d8_1 : decode prog_33_method_4_code 1 = .ok (.getfield 19, 3) := by decide +kernel
theorem d8_4 : decode prog_33_method_4_code 4 = .ok (.aload_n 0, 1) := by decide +kernel
theorem d8_5 : decode prog_33_method_4_code 5 = .ok (.getfield 13, 3) := by decide +kernel
theorem d8_8 : decode prog_33_method_4_code 8 = .ok (.invokestatic 31, 3) := by decide +kernel
theorem d8_11 : decode prog_33_method_4_code 11 = .ok (.dreturn, 1) := by decide +kernel
theorem ef_min (m : MethodId) (x0 : Int32) (x1 : Int32) : entryFrame m #[(.int x0), (.int x1)] 2 = mkF m 0 #[.val (.int x0), .val (.int x1)] [] := by first | (simp [entryFrame, mkF, argsToLocals, Value.category]; done) | rfl
theorem ef_rec (m : MethodId) (x0 : Addr) : entryFrame m #[(.ref x0)] 1 = mkF m 0 #[.val (.ref x0)] [] := by first | (simp [entryFrame, mkF, argsToLocals, Value.category]; done) | rfl
theorem ef_init (m : MethodId) (x0 : Addr) (x1 : Int32) (x2 : Int32) (x3 : Int32) (x4 : Int32) (x5 : Int32) (x6 : Int32) : entryFrame m #[(.ref x0), (.int x1), (.int x2), (.int x3), (.int x4), (.int x5), (.int x6)] 7 = mkF m 0 #[.val (.ref x0), .val (.int x1), .val (.int x2), .val (.int x3), .val (.int x4), .val (.int x5), .val (.int x6)] [] := by first | (simp [entryFrame, mkF, argsToLocals, Value.category]; done) | rfl
theorem ef_pct (m : MethodId) (x0 : Int32) (x1 : Int32) : entryFrame m #[(.int x0), (.int x1)] 2 = mkF m 0 #[.val (.int x0), .val (.int x1)] [] := by first | (simp [entryFrame, mkF, argsToLocals, Value.category]; done) | rfl
theorem ef_1 (m : MethodId) (x0 : Addr) : entryFrame m #[(.ref x0)] 1 = mkF m 0 #[.val (.ref x0)] [] := by first | (simp [entryFrame, mkF, argsToLocals, Value.category]; done) | rfl
theorem ef_law (m : MethodId) (x0 : Int32) (x1 : Int32) (x2 : Int32) (x3 : Int32) (x4 : Int32) (x5 : Int32) : entryFrame m #[(.int x0), (.int x1), (.int x2), (.int x3), (.int x4), (.int x5)] maxLocals = mkF m 0 #[.val (.int x0), .val (.int x1), .val (.int x2), .val (.int x3), .val (.int x4), .val (.int x5), .unset, .unset, .unset, .unset, .unset, .unset, .unset, .unset, .unset, .unset, .unset] [] := by first | (simp [entryFrame, mkF, argsToLocals, Value.category, maxLocals]; done) | rfl
theorem pn_rec : plainName "java/lang/Record" = true := by first | (simp [plainName, overriddenIn]; done) | decide +kernel
theorem pn_counts : plainName "com/example/boughsplit/boughsplit/service/BracketScorer$Counts" = true := by first | (simp [plainName, overriddenIn]; done) | decide +kernel
theorem pn_law : plainName "com/example/boughsplit/boughsplit/service/CountsF1PinLaw" = true := by first | (simp [plainName, overriddenIn]; done) | decide +kernel
theorem pd___D : parseMethodDescriptor "()D" = some ⟨[], some (.double)⟩ := by decide +kernel
theorem pd___V : parseMethodDescriptor "()V" = some ⟨[], none⟩ := by decide +kernel
theorem pd__II_D : parseMethodDescriptor "(II)D" = some ⟨[.int, .int], some (.double)⟩ := by decide +kernel
theorem pd__II_I : parseMethodDescriptor "(II)I" = some ⟨[.int, .int], some (.int)⟩ := by decide +kernel
theorem pd__IIIIII_V : parseMethodDescriptor "(IIIIII)V" = some ⟨[.int, .int, .int, .int, .int, .int], none⟩ := by decide +kernel
section OwnPlain
open Jvm.FP Jvm.Free.Fl
def own_pct (x y : Int32) : UInt64 := if y = 0 then 0 else FP.ddiv (FP.dmul 4636737291354636288 (FP.i2d x)) (FP.i2d y)
theorem own_pct_z {x y : Int32} (h : y = 0) : own_pct x y = 0 := by unfold own_pct; rw [if_pos h]
theorem own_pct_n {x y : Int32} (h : ¬ y = 0) : own_pct x y = FP.ddiv (FP.dmul 4636737291354636288 (FP.i2d x)) (FP.i2d y) := by unfold own_pct; rw [if_neg h]
theorem own_pct_n1 (x : Int32) : NoNaN64 (FP.dmul 4636737291354636288 (FP.i2d x)) := Jvm.Free.Fl.dmul_out (by unfold Fin64; decide) (Jvm.Free.Fl.i2d_fin x)
theorem own_pct_n2 (x : Int32) {y : Int32} (h : ¬ y = 0) : NoNaN64 (FP.ddiv (FP.dmul 4636737291354636288 (FP.i2d x)) (FP.i2d y)) := Jvm.Free.Fl.ddiv_out (own_pct_n1 x) (Jvm.Free.Fl.i2d_fin y) (i2d_nz h)
theorem own_bd (v : Int32) {g : Int32} (h : g = v &&& (1073741823 : Int32)) : 0 ≤ g.toInt ∧ g.toInt < 1073741824 := by
  have := c_and v 1073741823 (by decide)
  have e : (1073741823 : Int32).toInt = 1073741823 := by decide
  rw [h]; omega
theorem own_add32 {a b : Int32} (h1 : -2147483648 ≤ a.toInt + b.toInt) (h2 : a.toInt + b.toInt < 2147483648) : (a + b).toInt = a.toInt + b.toInt := by
  rw [Int32.toInt_add]; exact Int.bmod_eq_of_le (by omega) (by omega)
theorem own_mul32 {a b : Int32} (h1 : -2147483648 ≤ a.toInt * b.toInt) (h2 : a.toInt * b.toInt < 2147483648) : (a * b).toInt = a.toInt * b.toInt := by
  rw [Int32.toInt_mul]; exact Int.bmod_eq_of_le (by omega) (by omega)
theorem own_min1 {g t d : Int32} (bg : 0 ≤ g.toInt ∧ g.toInt < 1073741824) (bt : 0 ≤ t.toInt ∧ t.toInt < 1073741824) (h : d = (if t < g then t else g) + (1 : Int32)) : d ≠ 0 ∧ 0 < d.toInt ∧ d.toInt ≤ g.toInt + 1 ∧ d.toInt ≤ t.toInt + 1 := by
  have e1 : (1 : Int32).toInt = 1 := by decide
  have e0 : (0 : Int32).toInt = 0 := by decide
  have key : 0 < d.toInt ∧ d.toInt ≤ g.toInt + 1 ∧ d.toInt ≤ t.toInt + 1 := by
    by_cases q : t < g
    · rw [if_pos q] at h
      have q' := Int32.lt_iff_toInt_lt.mp q
      rw [h, own_add32 (by omega) (by omega)]; omega
    · rw [if_neg q] at h
      rw [Int32.lt_iff_toInt_lt] at q
      rw [h, own_add32 (by omega) (by omega)]; omega
  exact ⟨fun z => by rw [z] at key; omega, key⟩
theorem own_rem (v : Int32) {g t d m : Int32} (bg : 0 ≤ g.toInt ∧ g.toInt < 1073741824) (bt : 0 ≤ t.toInt ∧ t.toInt < 1073741824) (h : d = (if t < g then t else g) + (1 : Int32)) (hm : m = (v &&& (2147483647 : Int32)) % d) : 0 ≤ m.toInt ∧ m.toInt ≤ g.toInt ∧ m.toInt ≤ t.toInt := by
  obtain ⟨-, k1, k2, k3⟩ := own_min1 bg bt h
  have hx := c_and v 2147483647 (by decide)
  have e := (c_irem (v &&& (2147483647 : Int32)) d d.toInt rfl).1 hx.1
  rw [hm, e]
  have p1 := Int.emod_nonneg (v &&& (2147483647 : Int32)).toInt (show d.toInt ≠ 0 by omega)
  have p2 := Int.emod_lt_of_pos (v &&& (2147483647 : Int32)).toInt k1
  omega
theorem own_lc0 {s : Int64} (h : s = 0) : lcmpW s (0 : Int64) = 0 := by subst h; decide
theorem own_lcn {s : Int64} (h : ¬ s = 0) : ¬ lcmpW s (0 : Int64) = 0 := fun q => h ((lc_eq _ _).mp ((lcW _ _).symm.trans q))
theorem own_val {A S : Int64} (a1 : 0 ≤ A.toInt) (a2 : A.toInt < 9007199254740992) (s1 : 0 < S.toInt) (s2 : S.toInt < 9007199254740992) :
    Core.val64 (FP.ddiv (FP.l2d A) (FP.l2d S)) = Core.roundRatio Core.b64 false A.toInt.toNat S.toInt.toNat 0 := by
  have wa := Core.l2d_whole (a := A) ⟨by omega, a2⟩
  have wb := Core.l2d_whole (a := S) ⟨by omega, s2⟩
  obtain ⟨c, q, ea⟩ := Core.l2d_shape A
  obtain ⟨d, r, eb⟩ := Core.l2d_shape S
  rw [decide_eq_false (show ¬ A.toInt < 0 by omega)] at ea
  rw [decide_eq_false (show ¬ S.toInt < 0 by omega)] at eb
  rw [ea] at wa
  rw [eb] at wb
  have hd : d ≠ 0 := fun z => by have := (Core.whole_zero wb).mp z; omega
  show Core.val64 (Core.ddiv (Core.l2d A) (Core.l2d S)) = _
  rw [Core.val64_ddiv, ea, eb]
  show (if d = 0 then _ else Core.roundRatio Core.b64 (false != false) c d (q - r)) = _
  rw [if_neg hd]
  show Core.roundRatio Core.b64 false c d (q - r) = _
  refine Core.roundRatio_congr (Nat.pos_of_ne_zero hd) (by omega) ?_
  have wa' : c * 2 ^ q.toNat = A.toInt.toNat * 2 ^ (-q).toNat := by
    have w : ((c * 2 ^ q.toNat : Nat) : Int) = A.toInt * ((2 ^ (-q).toNat : Nat) : Int) := wa
    have e : A.toInt = (A.toInt.toNat : Int) := by omega
    rw [e, ← Int.natCast_mul] at w
    exact Int.ofNat.inj w
  have wb' : d * 2 ^ r.toNat = S.toInt.toNat * 2 ^ (-r).toNat := by
    have w : ((d * 2 ^ r.toNat : Nat) : Int) = S.toInt * ((2 ^ (-r).toNat : Nat) : Int) := wb
    have e : S.toInt = (S.toInt.toNat : Int) := by omega
    rw [e, ← Int.natCast_mul] at w
    exact Int.ofNat.inj w
  have k : q.toNat + (-r).toNat + (0 - (q - r)).toNat = (q - r - 0).toNat + ((-q).toNat + r.toNat) := by omega
  refine Nat.eq_of_mul_eq_mul_right (Nat.two_pow_pos ((-q).toNat + r.toNat)) ?_
  generalize A.toInt.toNat = a at *
  generalize S.toInt.toNat = b at *
  generalize q.toNat = x1 at *
  generalize (-q).toNat = x2 at *
  generalize r.toNat = x3 at *
  generalize (-r).toNat = x4 at *
  generalize (q - r - 0).toNat = x5 at *
  generalize (0 - (q - r)).toNat = x6 at *
  calc c * b * 2 ^ x5 * 2 ^ (x2 + x3) = c * b * 2 ^ (x5 + (x2 + x3)) := by rw [Nat.pow_add 2 x5, Nat.mul_assoc (c * b)]
    _ = c * b * 2 ^ (x1 + x4 + x6) := by rw [k]
    _ = (c * 2 ^ x1) * (b * 2 ^ x4) * 2 ^ x6 := by rw [Nat.pow_add, Nat.pow_add]; ac_rfl
    _ = (a * 2 ^ x2) * (d * 2 ^ x3) * 2 ^ x6 := by rw [wa', ← wb']
    _ = a * d * 2 ^ x6 * 2 ^ (x2 + x3) := by rw [Nat.pow_add]; ac_rfl
theorem own_val100 : Core.val64 4636737291354636288 = .fin false 7036874417766400 (-46) := by decide +kernel
theorem own_val0 : Core.val64 0 = .fin false 0 (-1074) := by decide +kernel
theorem own_le100 {A S c : Nat} {q : Int} (hS : 0 < S) (hA : A ≤ 100 * S) (h : Core.roundRatio Core.b64 false A S 0 = .fin false c q) : Core.order (.fin false c q) (.fin false 7036874417766400 (-46)) ≠ some .gt := by
  have qm : Core.b64.qmin = -1074 := by decide
  have hq : -1074 ≤ q := by have := Core.roundRatio_fits Core.good_b64 false A hS 0; rw [h] at this; rw [← qm]; exact this.2.1
  have D := Core.roundRatio_nearest Core.good_b64 hS h (c' := 7036874417766400) (q' := -46) (e0 := -1074) (by decide) (by decide) (by decide) (by decide)
  have k1 : Core.inUnits c q (-1074) * S ≤ Core.inUnits 7036874417766400 (-46) (-1074) * S := by
    unfold Core.distance at D
    have e1 : Core.inUnits A 0 (-1074) = A * 70368744177664 * 2 ^ 1028 := by
      have z : ((0 : Int) - (-1074)).toNat = 1074 := by decide
      unfold Core.inUnits; rw [z]
      rw [show (70368744177664 : Nat) = 2 ^ 46 by decide, Nat.mul_assoc, ← Nat.pow_add]
    have e2 : Core.inUnits 7036874417766400 (-46) (-1074) = 7036874417766400 * 2 ^ 1028 := by
      have z : ((-46 : Int) - (-1074)).toNat = 1028 := by decide
      unfold Core.inUnits; rw [z]
    have e3 : A * 70368744177664 * 2 ^ 1028 ≤ 7036874417766400 * 2 ^ 1028 * S := by
      rw [Nat.mul_right_comm 7036874417766400]
      refine Nat.mul_le_mul_right _ ?_
      omega
    rw [e1, e2, ← Int.natCast_mul, ← Int.natCast_mul] at D
    rw [e2]
    generalize Core.inUnits c q (-1074) * S = u at *
    generalize 7036874417766400 * 2 ^ 1028 * S = v at *
    generalize A * 70368744177664 * 2 ^ 1028 = w at *
    omega
  have r1 : -1074 ≤ min q (-46) := by omega
  have m1 := Core.inUnits_move c (q := q) (r := min q (-46)) (e := -1074) r1 (by omega)
  have m2 := Core.inUnits_move 7036874417766400 (q := -46) (r := min q (-46)) (e := -1074) r1 (by omega)
  have k2 := Nat.le_of_mul_le_mul_right k1 hS
  rw [m1, m2] at k2
  have k3 := Nat.le_of_mul_le_mul_right k2 (Nat.two_pow_pos _)
  show some (compare ((Core.inUnits c q (min q (-46)) : Nat) : Int) ((Core.inUnits 7036874417766400 (-46) (min q (-46)) : Nat) : Int)) ≠ some .gt
  rw [Core.compare_ite]
  generalize Core.inUnits c q (min q (-46)) = u at *
  generalize Core.inUnits 7036874417766400 (-46) (min q (-46)) = v at *
  by_cases h1 : (u : Int) < v
  · rw [if_pos h1]; simp
  · rw [if_neg h1, if_pos (by omega)]; simp
theorem own_ge0 (c : Nat) (q : Int) : Core.order (.fin false 0 (-1074)) (.fin false c q) ≠ some .gt := by
  show some (compare ((Core.inUnits 0 (-1074) (min (-1074) q) : Nat) : Int) ((Core.inUnits c q (min (-1074) q) : Nat) : Int)) ≠ some .gt
  rw [Core.compare_ite]
  have e : Core.inUnits 0 (-1074) (min (-1074) q) = 0 := Nat.zero_mul _
  rw [e]
  generalize Core.inUnits c q (min (-1074) q) = v
  by_cases h1 : ((0 : Nat) : Int) < v
  · rw [if_pos h1]; simp
  · rw [if_neg h1, if_pos (by omega)]; simp
theorem own_ng {o : Option Ordering} (h1 : o ≠ none) (h2 : o ≠ some .gt) : ¬ (0 : Int32) < cmpValue o .g := by
  rw [cmpV_g]
  rcases o with _ | (_ | _ | _)
  · exact absurd rfl h1
  · decide
  · decide
  · exact absurd rfl h2
theorem own_num {x : Int32} (h0 : 0 ≤ x.toInt) : FP.dmul 4636737291354636288 (FP.i2d x) = FP.l2d (100 * x.toInt64) := by
  have hx := Int32.toInt_lt x
  rw [show (4636737291354636288 : UInt64) = FP.l2d 100 by decide +kernel, i2d_w]
  exact dmul_k (A := 100) (B := 2147483648) (by decide) (by decide) (by rw [c_i2l]; omega) (by rw [c_i2l]; omega) (by decide) (by decide) (by decide) (fun z => absurd z.1 (by decide)) (fun z => absurd z.2 (by decide))
theorem own_m100 {x : Int32} (h0 : 0 ≤ x.toInt) : ((100 : Int64) * x.toInt64).toInt = 100 * x.toInt := by
  have hx := Int32.toInt_lt x
  have e : (100 : Int64).toInt = 100 := by decide
  rw [Core.int64_mul (by rw [e, c_i2l]; omega) (by rw [e, c_i2l]; omega), e, c_i2l]
theorem own_m200 {x : Int32} (h0 : 0 ≤ x.toInt) : ((200 : Int64) * x.toInt64).toInt = 200 * x.toInt := by
  have hx := Int32.toInt_lt x
  have e : (200 : Int64).toInt = 200 := by decide
  rw [Core.int64_mul (by rw [e, c_i2l]; omega) (by rw [e, c_i2l]; omega), e, c_i2l]
/-- the percentage as a rounded ratio -/
theorem own_pct_val {x y : Int32} (hx : 0 ≤ x.toInt) (hy : 0 < y.toInt) : Core.val64 (own_pct x y) = Core.roundRatio Core.b64 false (100 * x.toInt).toNat y.toInt.toNat 0 := by
  have ny : ¬ y = 0 := fun z => by rw [z] at hy; exact absurd hy (by decide)
  have bx := Int32.toInt_lt x
  have bY := Int32.toInt_lt y
  rw [own_pct_n ny, own_num hx, i2d_w, own_val (by rw [own_m100 hx]; omega) (by rw [own_m100 hx]; omega) (by rw [c_i2l]; omega) (by rw [c_i2l]; omega), own_m100 hx, c_i2l]
theorem own_pct_fin {x y : Int32} (hx : 0 ≤ x.toInt) (hy : 0 < y.toInt) : ∃ c q, Core.val64 (own_pct x y) = .fin false c q := by
  have ny : ¬ y = 0 := fun z => by rw [z] at hy; exact absurd hy (by decide)
  have h0 : Fin64 (own_pct x y) := by
    rw [own_pct_n ny, own_num hx, i2d_w]
    have nz : y.toInt64 ≠ 0 := fun z => by
      have := congrArg Int64.toInt z
      rw [c_i2l] at this
      have e : (0 : Int64).toInt = 0 := by decide
      omega
    exact (Jvm.RoadKit.ddiv_mag (Jvm.Free.Fl.l2d_mag _) (l2d_big nz) (by decide) (by decide)).fin (by decide)
  obtain ⟨s, c, q, h⟩ := fin64_core.mp h0
  have hs : s = false := by
    have := congrArg Core.sgn (own_pct_val hx hy)
    rw [Core.sgn_roundRatio, h] at this
    exact this
  exact ⟨c, q, hs ▸ h⟩
theorem own_law435 (g t m : Int32) (bg : 0 ≤ g.toInt ∧ g.toInt < 1073741824) (bt : 0 ≤ t.toInt ∧ t.toInt < 1073741824) (bm : 0 ≤ m.toInt ∧ m.toInt ≤ g.toInt ∧ m.toInt ≤ t.toInt) :
    (g.toInt64 + t.toInt64 = 0 → own_pct ((2 : Int32) * m) (g + t) = 0) ∧
    (¬ g.toInt64 + t.toInt64 = 0 → own_pct ((2 : Int32) * m) (g + t) = FP.ddiv (FP.l2d ((200 : Int64) * m.toInt64)) (FP.l2d (g.toInt64 + t.toInt64)) ∧ NoNaN64 (FP.ddiv (FP.l2d ((200 : Int64) * m.toInt64)) (FP.l2d (g.toInt64 + t.toInt64)))) ∧
    NoNaN64 (own_pct ((2 : Int32) * m) (g + t)) ∧ ¬ (0 : Int32) < cmpValue (FP.dcmp (0 : UInt64) (own_pct ((2 : Int32) * m) (g + t))) .g ∧ ¬ (0 : Int32) < cmpValue (FP.dcmp (own_pct ((2 : Int32) * m) (g + t)) (4636737291354636288 : UInt64)) .g ∧
    (g = t → own_pct ((2 : Int32) * m) (g + t) = own_pct m t) := by
  have two : (2 : Int32).toInt = 2 := by decide
  have z32 : (0 : Int32).toInt = 0 := by decide
  have z64 : (0 : Int64).toInt = 0 := by decide
  have e1 : ((2 : Int32) * m).toInt = 2 * m.toInt := by rw [own_mul32 (by rw [two]; omega) (by rw [two]; omega), two]
  have e2 : (g + t).toInt = g.toInt + t.toInt := own_add32 (by omega) (by omega)
  have e3 : (g.toInt64 + t.toInt64).toInt = g.toInt + t.toInt := by rw [Core.int64_add (by rw [c_i2l, c_i2l]; omega) (by rw [c_i2l, c_i2l]; omega), c_i2l, c_i2l]
  have es : (g + t).toInt64 = g.toInt64 + t.toInt64 := Int64.toInt_inj.mp (by rw [c_i2l, e2, e3])
  have en : (100 : Int64) * ((2 : Int32) * m).toInt64 = (200 : Int64) * m.toInt64 := Int64.toInt_inj.mp (by rw [own_m100 (by omega), own_m200 (by omega), e1]; omega)
  have hz : g.toInt64 + t.toInt64 = 0 ↔ g + t = 0 := by
    constructor
    · intro q; have := congrArg Int64.toInt q; exact Int32.toInt_inj.mp (by omega)
    · intro q; have := congrArg Int32.toInt q; exact Int64.toInt_inj.mp (by omega)
  have hpos : ¬ g + t = 0 → 0 < (g + t).toInt := fun q => by
    have : (g + t).toInt ≠ 0 := fun z => q (Int32.toInt_inj.mp (by omega))
    omega
  have hnan : NoNaN64 (own_pct ((2 : Int32) * m) (g + t)) := by
    by_cases q : g + t = 0
    · rw [own_pct_z q]; unfold NoNaN64; decide
    · rw [own_pct_n q]; exact own_pct_n2 _ q
  refine ⟨fun q => own_pct_z (hz.mp q), fun q => ?_, hnan, ?_, ?_, fun q => ?_⟩
  · have q' : ¬ g + t = 0 := fun z => q (hz.mpr z)
    have e : own_pct ((2 : Int32) * m) (g + t) = FP.ddiv (FP.l2d ((200 : Int64) * m.toInt64)) (FP.l2d (g.toInt64 + t.toInt64)) := by
      rw [own_pct_n q', own_num (by omega), i2d_w, es, en]
    exact ⟨e, e ▸ hnan⟩
  · by_cases q : g + t = 0
    · rw [own_pct_z q]; decide +kernel
    · obtain ⟨c, r, h⟩ := own_pct_fin (x := (2 : Int32) * m) (y := g + t) (by omega) (hpos q)
      have e : FP.dcmp (0 : UInt64) (own_pct ((2 : Int32) * m) (g + t)) = Core.order (.fin false 0 (-1074)) (.fin false c r) := by
        show Core.order (Core.val64 0) (Core.val64 (own_pct ((2 : Int32) * m) (g + t))) = _
        rw [h, own_val0]
      rw [e]
      exact own_ng (by intro z; cases z) (own_ge0 c r)
  · by_cases q : g + t = 0
    · rw [own_pct_z q]; decide +kernel
    · obtain ⟨c, r, h⟩ := own_pct_fin (x := (2 : Int32) * m) (y := g + t) (by omega) (hpos q)
      have e : FP.dcmp (own_pct ((2 : Int32) * m) (g + t)) (4636737291354636288 : UInt64) = Core.order (.fin false c r) (.fin false 7036874417766400 (-46)) := by
        show Core.order (Core.val64 (own_pct ((2 : Int32) * m) (g + t))) (Core.val64 4636737291354636288) = _
        rw [h, own_val100]
      rw [e]
      have hv := own_pct_val (x := (2 : Int32) * m) (y := g + t) (by omega) (hpos q)
      rw [h] at hv
      exact own_ng (by intro z; cases z) (own_le100 (by have := hpos q; omega) (by omega) hv.symm)
  · subst q
    by_cases q : g = 0
    · rw [own_pct_z (y := g) q, own_pct_z]; rw [q]; decide
    · have hg : 0 < g.toInt := by
        have : g.toInt ≠ 0 := fun z => q (Int32.toInt_inj.mp (by omega))
        omega
      refine Core.val64_inj (val64_no.mp hnan) ?_
      rw [own_pct_val (by omega) (by omega), own_pct_val (by omega) hg]
      refine Core.roundRatio_congr (by omega) (by omega) ?_
      show (100 * ((2 : Int32) * m).toInt).toNat * g.toInt.toNat * 2 ^ 0 = (100 * m.toInt).toNat * (g + g).toInt.toNat * 2 ^ 0
      have a1 : (100 * ((2 : Int32) * m).toInt).toNat = 2 * (100 * m.toInt).toNat := by omega
      have a2 : (g + g).toInt.toNat = 2 * g.toInt.toNat := by omega
      rw [a1, a2, Nat.mul_left_comm (100 * m.toInt).toNat, Nat.mul_assoc 2]
end OwnPlain
set_option maxRecDepth 65536 in
set_option maxHeartbeats 40000000 in
theorem own_rmMin (l : Launch) (Z : State) (a0 : Array Value) (hw : ∀ d ∈ tables_1, d.before a0 Z = true) (n0 : Nat) (h0 : Heap) (p q : Int32) : OMet l Z n0 (⟨"java/lang/Math", "min", "(II)I"⟩ : MethodName) jdk_29_method_69_code 2 (some .int) ({ frames := 0, cells := 0, slots := 0, locals := 0 } : Room) #[(.int p), (.int q)] h0 (some (.int (if q < p then q else p))) (fun h => h = h0) := by
  refine own_bodyM (y := ⟨"java/lang/Math", "min", "(II)I"⟩) (Jvm.Free.JP.mathPlain rfl (by decide +kernel)) (fun h => by cases h) ?_
  intro pr e s m below meth c s₁ S0 hx hby hml hown hnm hret hZ X0 e0 Rs
  have N0 := Fr.nil n0
  have R0 : OGo pr.tables e below S0 (s₁.setTop (mkF m 0 #[.val (.int p), .val (.int q)] [])) := fun t k => Rs t (castTop (ef_min m p q) k)
  have R1 : OGo pr.tables e below S0 (s₁.setTop (mkF m 2 #[.val (.int p), .val (.int q)] [(.int q), (.int p)])) := fun t k => R0 t (XS.iloadN X0.here hx rfl (hb hby d1_0) rfl (XS.iloadN X0.here hx rfl (hb hby d1_1) rfl k))
  by_cases hc : q < p
  · rw [if_pos hc]
    have R2 : OGo pr.tables e below S0 (s₁.setTop (mkF m 10 #[.val (.int p), .val (.int q)] [(.int q)])) := fun t k => R1 t (XS.icmpYes X0.here hx rfl (pc0 := 2) (pc' := 9) rfl (hb hby d1_2) rfl (tlt hc).2.2.1 (by decide) (by decide) (XS.iloadN X0.here hx rfl (hb hby d1_9) rfl k))
    exact ⟨_, _, _, _, X0, by decide, by decide, N0, e0, fun fs hr => R2 _ (own_retI X0 hx hret (hb hby d1_10) hr)⟩
  · rw [if_neg hc]
    have R3 : OGo pr.tables e below S0 (s₁.setTop (mkF m 10 #[.val (.int p), .val (.int q)] [(.int p)])) := fun t k => R1 t (XS.icmpNo X0.here hx rfl (hb hby d1_2) rfl (flt hc).2.2.1 (XS.iloadN X0.here hx rfl (hb hby d1_5) rfl (XS.goto X0.here hx rfl (pc0 := 6) (pc' := 10) rfl (hb hby d1_6) (by decide) (by decide) k)))
    exact ⟨_, _, _, _, X0, by decide, by decide, N0, e0, fun fs hr => R3 _ (own_retI X0 hx hret (hb hby d1_10) hr)⟩
set_option maxRecDepth 65536 in
set_option maxHeartbeats 40000000 in
theorem own_rmRec (l : Launch) (Z : State) (a0 : Array Value) (hw : ∀ d ∈ tables_1, d.before a0 Z = true) (n0 : Nat) (h0 : Heap) (b : Addr) : OMet l Z n0 (⟨"java/lang/Record", "<init>", "()V"⟩ : MethodName) jdk_30_method_1_code 1 none ({ frames := 1, cells := 0, slots := 0, locals := 12 } : Room) #[(.ref b)] h0 none (fun h => h = h0) := by
  refine own_bodyM (y := (⟨"java/lang/Record", "<init>", "()V"⟩ : MethodName)) (plainFor_of_name pn_rec) (fun _ => rfl) ?_
  intro p e s m below meth c s₁ S0 hx hby hml hown hnm hret hZ X0 e0 Rs
  have N0 := Fr.nil n0
  have R0 : OGo p.tables e below S0 (s₁.setTop (mkF m 0 #[.val (.ref b)] [])) := fun t k => Rs t (castTop (ef_rec m b) k)
  have R1 : OGo p.tables e below S0 (s₁.setTop (mkF m 1 #[.val (.ref b)] [(.ref b)])) := fun t k => R0 t (XS.aloadN X0.here hx rfl (hb hby d3_0) rfl rfl k)
  obtain ⟨T2, X2, e2, st2⟩ := initO X0 hx hZ hown (own_q hw 17 rfl) (own_q hw 18 rfl) (own_q hw 19 rfl) e0 (g := (mkF m 1 #[.val (.ref b)] [(.ref b)])) rfl (by rw [hml]; rfl) rfl (hb hby d3_1) (by decide) (W := 0) (Nat.le_of_eq rfl) (by decide)
  have R2 : OGo p.tables e below S0 (T2.setTop (mkF m 4 #[.val (.ref b)] [])) := fun t k => R1 t (st2 t k)
  exact ⟨_, _, _, _, X2, by decide, by decide, N0, e2, fun fs hr => R2 _ (X2.returnOut hx hret (hb hby d3_4) hr)⟩
set_option maxRecDepth 65536 in
set_option maxHeartbeats 40000000 in
theorem own_rmInit (l : Launch) (Z : State) (a0 : Array Value) (hw : ∀ d ∈ tables_1, d.before a0 Z = true) (n0 : Nat) (h0 : Heap) (b : Addr) (q1 q2 q3 q4 q5 q6 : Int32) (H0 : OHp Z h0 n0 "com/example/boughsplit/boughsplit/service/BracketScorer$Counts" own_FN b [(.int (0 : Int32)), (.int (0 : Int32)), (.int (0 : Int32)), (.int (0 : Int32)), (.int (0 : Int32)), (.int (0 : Int32))] []) : OMet l Z n0 (⟨"com/example/boughsplit/boughsplit/service/BracketScorer$Counts", "<init>", "(IIIIII)V"⟩ : MethodName) prog_33_method_1_code 7 none ({ frames := 2, cells := 0, slots := 0, locals := 24 } : Room) #[(.ref b), (.int q1), (.int q2), (.int q3), (.int q4), (.int q5), (.int q6)] h0 none (fun h => OHp Z h n0 "com/example/boughsplit/boughsplit/service/BracketScorer$Counts" own_FN b [(.int q1), (.int q2), (.int q3), (.int q4), (.int q5), (.int q6)] []) := by
  refine own_bodyM (y := (⟨"com/example/boughsplit/boughsplit/service/BracketScorer$Counts", "<init>", "(IIIIII)V"⟩ : MethodName)) (plainFor_of_name pn_counts) (fun _ => rfl) ?_
  intro p e s m below meth c s₁ S0 hx hby hml hown hnm hret hZ X0 e0 Rs
  have N0 := Fr.nil n0
  have R0 : OGo p.tables e below S0 (s₁.setTop (mkF m 0 #[.val (.ref b), .val (.int q1), .val (.int q2), .val (.int q3), .val (.int q4), .val (.int q5), .val (.int q6)] [])) := fun t k => Rs t (castTop (ef_init m b q1 q2 q3 q4 q5 q6) k)
  have R1 : OGo p.tables e below S0 (s₁.setTop (mkF m 1 #[.val (.ref b), .val (.int q1), .val (.int q2), .val (.int q3), .val (.int q4), .val (.int q5), .val (.int q6)] [(.ref b)])) := fun t k => R0 t (XS.aloadN X0.here hx rfl (hb hby d2_0) rfl rfl k)
  obtain ⟨T2, lc2, X2, N2, P2, st2⟩ := own_callI X0 hx hZ (y := (⟨"java/lang/Record", "<init>", "()V"⟩ : MethodName)) rfl hown (own_q hw 12 rfl) (own_q hw 13 rfl) (own_q hw 16 rfl) (own_q hw 15 rfl) (by decide) (W := 0) (own_rmRec l Z a0 hw n0 _ b) e0 N0 (by decide) (by decide) (by decide) (by decide) (g := (mkF m 1 #[.val (.ref b), .val (.int q1), .val (.int q2), .val (.int q3), .val (.int q4), .val (.int q5), .val (.int q6)] [(.ref b)])) rfl (by rw [hml]; rfl) (argsL := []) (rest := []) (lenOf pd___V rfl) rfl rfl (Nat.le_of_eq rfl) (hb hby d2_1)
  obtain ⟨T3, h3, lc3, X3, e3, N3, H3, st3⟩ := own_putF X2 hx hZ hown (own_q hw 20 rfl) P2 H0 (own_dist Z a0 hw) (own_q hw 7 rfl) (k := 0) rfl rfl (Or.inr ⟨(own_q hw 21 rfl), rfl, hnm⟩) (ty := .int) (by decide) rfl rfl N2 (vs' := [(.int q1), (.int (0 : Int32)), (.int (0 : Int32)), (.int (0 : Int32)), (.int (0 : Int32)), (.int (0 : Int32))]) rfl (g := (mkF m 6 #[.val (.ref b), .val (.int q1), .val (.int q2), .val (.int q3), .val (.int q4), .val (.int q5), .val (.int q6)] [(.int q1), (.ref b)])) rfl rfl (hb hby d2_6)
  have R4 : OGo p.tables e below S0 (T3.setTop (mkF m 11 #[.val (.ref b), .val (.int q1), .val (.int q2), .val (.int q3), .val (.int q4), .val (.int q5), .val (.int q6)] [(.int q2), (.ref b)])) := fun t k => R1 t (st2 t (XS.aloadN X2.here hx rfl (hb hby d2_4) rfl rfl (XS.iloadN X2.here hx rfl (hb hby d2_5) rfl (st3 t (XS.aloadN X3.here hx rfl (hb hby d2_9) rfl rfl (XS.iloadN X3.here hx rfl (hb hby d2_10) rfl k))))))
  obtain ⟨T5, h5, lc5, X5, e5, N5, H5, st5⟩ := own_putF X3 hx hZ hown (own_q hw 22 rfl) e3 H3 (own_dist Z a0 hw) (own_q hw 7 rfl) (k := 1) rfl rfl (Or.inr ⟨(own_q hw 23 rfl), rfl, hnm⟩) (ty := .int) (by decide) rfl rfl N3 (vs' := [(.int q1), (.int q2), (.int (0 : Int32)), (.int (0 : Int32)), (.int (0 : Int32)), (.int (0 : Int32))]) rfl (g := (mkF m 11 #[.val (.ref b), .val (.int q1), .val (.int q2), .val (.int q3), .val (.int q4), .val (.int q5), .val (.int q6)] [(.int q2), (.ref b)])) rfl rfl (hb hby d2_11)
  obtain ⟨T6, h6, lc6, X6, e6, N6, H6, st6⟩ := own_putF X5 hx hZ hown (own_q hw 24 rfl) e5 H5 (own_dist Z a0 hw) (own_q hw 7 rfl) (k := 2) rfl rfl (Or.inr ⟨(own_q hw 25 rfl), rfl, hnm⟩) (ty := .int) (by decide) rfl rfl N5 (vs' := [(.int q1), (.int q2), (.int q3), (.int (0 : Int32)), (.int (0 : Int32)), (.int (0 : Int32))]) rfl (g := (mkF m 16 #[.val (.ref b), .val (.int q1), .val (.int q2), .val (.int q3), .val (.int q4), .val (.int q5), .val (.int q6)] [(.int q3), (.ref b)])) rfl rfl (hb hby d2_16)
  have R7 : OGo p.tables e below S0 (T6.setTop (mkF m 22 #[.val (.ref b), .val (.int q1), .val (.int q2), .val (.int q3), .val (.int q4), .val (.int q5), .val (.int q6)] [(.int q4), (.ref b)])) := fun t k => R4 t (st5 t (XS.aloadN X5.here hx rfl (hb hby d2_14) rfl rfl (XS.iloadN X5.here hx rfl (hb hby d2_15) rfl (st6 t (XS.aloadN X6.here hx rfl (hb hby d2_19) rfl rfl (XS.iload X6.here hx rfl (hb hby d2_20) rfl k))))))
  obtain ⟨T8, h8, lc8, X8, e8, N8, H8, st8⟩ := own_putF X6 hx hZ hown (own_q hw 26 rfl) e6 H6 (own_dist Z a0 hw) (own_q hw 7 rfl) (k := 3) rfl rfl (Or.inr ⟨(own_q hw 27 rfl), rfl, hnm⟩) (ty := .int) (by decide) rfl rfl N6 (vs' := [(.int q1), (.int q2), (.int q3), (.int q4), (.int (0 : Int32)), (.int (0 : Int32))]) rfl (g := (mkF m 22 #[.val (.ref b), .val (.int q1), .val (.int q2), .val (.int q3), .val (.int q4), .val (.int q5), .val (.int q6)] [(.int q4), (.ref b)])) rfl rfl (hb hby d2_22)
  obtain ⟨T9, h9, lc9, X9, e9, N9, H9, st9⟩ := own_putF X8 hx hZ hown (own_q hw 28 rfl) e8 H8 (own_dist Z a0 hw) (own_q hw 7 rfl) (k := 4) rfl rfl (Or.inr ⟨(own_q hw 29 rfl), rfl, hnm⟩) (ty := .int) (by decide) rfl rfl N8 (vs' := [(.int q1), (.int q2), (.int q3), (.int q4), (.int q5), (.int (0 : Int32))]) rfl (g := (mkF m 28 #[.val (.ref b), .val (.int q1), .val (.int q2), .val (.int q3), .val (.int q4), .val (.int q5), .val (.int q6)] [(.int q5), (.ref b)])) rfl rfl (hb hby d2_28)
  have R10 : OGo p.tables e below S0 (T9.setTop (mkF m 34 #[.val (.ref b), .val (.int q1), .val (.int q2), .val (.int q3), .val (.int q4), .val (.int q5), .val (.int q6)] [(.int q6), (.ref b)])) := fun t k => R7 t (st8 t (XS.aloadN X8.here hx rfl (hb hby d2_25) rfl rfl (XS.iload X8.here hx rfl (hb hby d2_26) rfl (st9 t (XS.aloadN X9.here hx rfl (hb hby d2_31) rfl rfl (XS.iload X9.here hx rfl (hb hby d2_32) rfl k))))))
  obtain ⟨T11, h11, lc11, X11, e11, N11, H11, st11⟩ := own_putF X9 hx hZ hown (own_q hw 30 rfl) e9 H9 (own_dist Z a0 hw) (own_q hw 7 rfl) (k := 5) rfl rfl (Or.inr ⟨(own_q hw 31 rfl), rfl, hnm⟩) (ty := .int) (by decide) rfl rfl N9 (vs' := [(.int q1), (.int q2), (.int q3), (.int q4), (.int q5), (.int q6)]) rfl (g := (mkF m 34 #[.val (.ref b), .val (.int q1), .val (.int q2), .val (.int q3), .val (.int q4), .val (.int q5), .val (.int q6)] [(.int q6), (.ref b)])) rfl rfl (hb hby d2_34)
  have R12 : OGo p.tables e below S0 (T11.setTop (mkF m 37 #[.val (.ref b), .val (.int q1), .val (.int q2), .val (.int q3), .val (.int q4), .val (.int q5), .val (.int q6)] [])) := fun t k => R10 t (st11 t k)
  exact ⟨_, _, _, _, X11, by decide, by decide, N11, by rw [e11]; exact H11, fun fs hr => R12 _ (X11.returnOut hx hret (hb hby d2_37) hr)⟩
set_option maxRecDepth 65536 in
set_option maxHeartbeats 40000000 in
theorem own_rmPct (l : Launch) (Z : State) (a0 : Array Value) (hw : ∀ d ∈ tables_1, d.before a0 Z = true) (n0 : Nat) (h0 : Heap) (x y : Int32) : OMet l Z n0 (⟨"com/example/boughsplit/boughsplit/service/BracketScorer$Counts", "percentage", "(II)D"⟩ : MethodName) prog_33_method_7_code 2 (some .double) ({ frames := 0, cells := 0, slots := 0, locals := 0 } : Room) #[(.int x), (.int y)] h0 (some (.double (own_pct x y))) (fun h => h = h0) := by
  refine own_bodyM (y := (⟨"com/example/boughsplit/boughsplit/service/BracketScorer$Counts", "percentage", "(II)D"⟩ : MethodName)) (plainFor_of_name pn_counts) (fun h => by cases h) ?_
  intro p e s m below meth c s₁ S0 hx hby hml hown hnm hret hZ X0 e0 Rs
  have N0 := Fr.nil n0
  have R0 : OGo p.tables e below S0 (s₁.setTop (mkF m 0 #[.val (.int x), .val (.int y)] [])) := fun t k => Rs t (castTop (ef_pct m x y) k)
  have R1 : OGo p.tables e below S0 (s₁.setTop (mkF m 1 #[.val (.int x), .val (.int y)] [(.int y)])) := fun t k => R0 t (XS.iloadN X0.here hx rfl (hb hby d6_0) rfl k)
  by_cases hc : y = 0
  · rw [own_pct_z hc]
    have R2 : OGo p.tables e below S0 (s₁.setTop (mkF m 17 #[.val (.int x), .val (.int y)] [(.double (0 : UInt64))])) := fun t k => R1 t (XS.ifNo X0.here hx rfl (hb hby d6_1) rfl ((if0 _ _).trans (teq hc).2) (XS.dconst0 X0.here hx rfl (hb hby d6_4) rfl (XS.goto X0.here hx rfl (pc0 := 5) (pc' := 17) rfl (hb hby d6_5) (by decide) (by decide) k)))
    exact ⟨_, _, _, _, X0, by decide, by decide, N0, e0, fun fs hr => R2 _ (own_retD X0 hx hret (hb hby d6_17) hr)⟩
  · rw [own_pct_n hc]
    have R3 : OGo p.tables e below S0 (s₁.setTop (mkF m 15 #[.val (.int x), .val (.int y)] [(.int y), (.double (FP.dmul (4636737291354636288 : UInt64) (FP.i2d x)))])) := fun t k => R1 t (XS.ifYes X0.here hx rfl (pc0 := 1) (pc' := 8) rfl (hb hby d6_1) rfl ((if0 _ _).trans (feq hc).2) (by decide) (by decide) (X0.ldc2DoubleC hx hown (mvT hZ (own_q hw 40 rfl)) (g := (mkF m 8 #[.val (.int x), .val (.int y)] [])) rfl (hb hby d6_8) t (XS.iloadN X0.here hx rfl (hb hby d6_11) rfl (XS.i2dS X0.here hx rfl (hb hby d6_12) rfl rfl (XS.dmulS X0.here hx rfl (hb hby d6_13) rfl (own_pct_n1 x) rfl (XS.iloadN X0.here hx rfl (hb hby d6_14) rfl k))))))
    have R4 : OGo p.tables e below S0 (s₁.setTop (mkF m 17 #[.val (.int x), .val (.int y)] [(.double (FP.ddiv (FP.dmul (4636737291354636288 : UInt64) (FP.i2d x)) (FP.i2d y)))])) := fun t k => R3 t (XS.i2dS X0.here hx rfl (hb hby d6_15) rfl rfl (XS.ddivS X0.here hx rfl (hb hby d6_16) rfl (own_pct_n2 x hc) rfl k))
    exact ⟨_, _, _, _, X0, by decide, by decide, N0, e0, fun fs hr => R4 _ (own_retD X0 hx hret (hb hby d6_17) hr)⟩
set_option maxRecDepth 65536 in
set_option maxHeartbeats 40000000 in
theorem own_rmF1 (l : Launch) (Z : State) (a0 : Array Value) (hw : ∀ d ∈ tables_1, d.before a0 Z = true) (n0 : Nat) (h0 : Heap) (b : Addr) (q1 q2 q3 q4 q5 q6 : Int32) (H0 : OHp Z h0 n0 "com/example/boughsplit/boughsplit/service/BracketScorer$Counts" own_FN b [(.int q1), (.int q2), (.int q3), (.int q4), (.int q5), (.int q6)] []) : OMet l Z n0 (⟨"com/example/boughsplit/boughsplit/service/BracketScorer$Counts", "f1", "()D"⟩ : MethodName) prog_33_method_5_code 1 (some .double) ({ frames := 1, cells := 0, slots := 0, locals := 13 } : Room) #[(.ref b)] h0 (some (.double (own_pct ((2 : Int32) * q4) (q2 + q3)))) (fun h => h = h0) := by
  refine own_bodyM (y := (⟨"com/example/boughsplit/boughsplit/service/BracketScorer$Counts", "f1", "()D"⟩ : MethodName)) (plainFor_of_name pn_counts) (fun h => by cases h) ?_
  intro p e s m below meth c s₁ S0 hx hby hml hown hnm hret hZ X0 e0 Rs
  have N0 := Fr.nil n0
  have R0 : OGo p.tables e below S0 (s₁.setTop (mkF m 0 #[.val (.ref b)] [])) := fun t k => Rs t (castTop (ef_1 m b) k)
  obtain ⟨T1, X1, e1, st1⟩ := own_getF X0 hx hZ hown (own_q hw 26 rfl) e0 H0 (k := 3) rfl rfl (g := (mkF m 2 #[.val (.ref b)] [(.ref b), (.int (2 : Int32))])) rfl rfl (hb hby d5_2)
  obtain ⟨T2, X2, e2, st2⟩ := own_getF X1 hx hZ hown (own_q hw 22 rfl) e1 H0 (k := 1) rfl rfl (g := (mkF m 7 #[.val (.ref b)] [(.ref b), (.int ((2 : Int32) * q4))])) rfl rfl (hb hby d5_7)
  have R3 : OGo p.tables e below S0 (T2.setTop (mkF m 10 #[.val (.ref b)] [(.int q2), (.int ((2 : Int32) * q4))])) := fun t k => R0 t (XS.iconst X0.here hx rfl (hb hby d5_0) (XS.aloadN X0.here hx rfl (hb hby d5_1) rfl rfl (st1 t (XS.imul X1.here hx rfl (hb hby d5_5) rfl (XS.aloadN X1.here hx rfl (hb hby d5_6) rfl rfl (st2 t k))))))
  obtain ⟨T4, X4, e4, st4⟩ := own_getF X2 hx hZ hown (own_q hw 24 rfl) e2 H0 (k := 2) rfl rfl (g := (mkF m 11 #[.val (.ref b)] [(.ref b), (.int q2), (.int ((2 : Int32) * q4))])) rfl rfl (hb hby d5_11)
  have R5 : OGo p.tables e below S0 (T4.setTop (mkF m 15 #[.val (.ref b)] [(.int (q2 + q3)), (.int ((2 : Int32) * q4))])) := fun t k => R3 t (XS.aloadN X2.here hx rfl (hb hby d5_10) rfl rfl (st4 t (XS.iadd X4.here hx rfl (hb hby d5_14) rfl k)))
  obtain ⟨T6, lc6, X6, N6, P6, st6⟩ := own_callS X4 hx hZ (y := (⟨"com/example/boughsplit/boughsplit/service/BracketScorer$Counts", "percentage", "(II)D"⟩ : MethodName)) hown (own_q hw 37 rfl) (own_q hw 38 rfl) (own_q hw 39 rfl) (own_q hw 8 rfl) (by decide) (W := 0) (own_rmPct l Z a0 hw n0 _ ((2 : Int32) * q4) (q2 + q3)) e4 N0 (by decide) (by decide) (by decide) (by decide) (g := (mkF m 15 #[.val (.ref b)] [(.int (q2 + q3)), (.int ((2 : Int32) * q4))])) rfl (by rw [hml]; rfl) (argsL := [(.int ((2 : Int32) * q4)), (.int (q2 + q3))]) (rest := []) (lenOf pd__II_D rfl) rfl rfl (Nat.le_of_eq rfl) (hb hby d5_15)
  have R7 : OGo p.tables e below S0 (T6.setTop (mkF m 18 #[.val (.ref b)] [(.double (own_pct ((2 : Int32) * q4) (q2 + q3)))])) := fun t k => R5 t (st6 t k)
  exact ⟨_, _, _, _, X6, by decide, by decide, N6, P6, fun fs hr => R7 _ (own_retD X6 hx hret (hb hby d5_18) hr)⟩
set_option maxRecDepth 65536 in
set_option maxHeartbeats 40000000 in
theorem own_rmPrec (l : Launch) (Z : State) (a0 : Array Value) (hw : ∀ d ∈ tables_1, d.before a0 Z = true) (n0 : Nat) (h0 : Heap) (b : Addr) (q1 q2 q3 q4 q5 q6 : Int32) (H0 : OHp Z h0 n0 "com/example/boughsplit/boughsplit/service/BracketScorer$Counts" own_FN b [(.int q1), (.int q2), (.int q3), (.int q4), (.int q5), (.int q6)] []) : OMet l Z n0 (⟨"com/example/boughsplit/boughsplit/service/BracketScorer$Counts", "precision", "()D"⟩ : MethodName) prog_33_method_3_code 1 (some .double) ({ frames := 1, cells := 0, slots := 0, locals := 13 } : Room) #[(.ref b)] h0 (some (.double (own_pct q4 q3))) (fun h => h = h0) := by
  refine own_bodyM (y := (⟨"com/example/boughsplit/boughsplit/service/BracketScorer$Counts", "precision", "()D"⟩ : MethodName)) (plainFor_of_name pn_counts) (fun h => by cases h) ?_
  intro p e s m below meth c s₁ S0 hx hby hml hown hnm hret hZ X0 e0 Rs
  have N0 := Fr.nil n0
  have R0 : OGo p.tables e below S0 (s₁.setTop (mkF m 0 #[.val (.ref b)] [])) := fun t k => Rs t (castTop (ef_1 m b) k)
  obtain ⟨T1, X1, e1, st1⟩ := own_getF X0 hx hZ hown (own_q hw 26 rfl) e0 H0 (k := 3) rfl rfl (g := (mkF m 1 #[.val (.ref b)] [(.ref b)])) rfl rfl (hb hby d7_1)
  obtain ⟨T2, X2, e2, st2⟩ := own_getF X1 hx hZ hown (own_q hw 24 rfl) e1 H0 (k := 2) rfl rfl (g := (mkF m 5 #[.val (.ref b)] [(.ref b), (.int q4)])) rfl rfl (hb hby d7_5)
  have R3 : OGo p.tables e below S0 (T2.setTop (mkF m 8 #[.val (.ref b)] [(.int q3), (.int q4)])) := fun t k => R0 t (XS.aloadN X0.here hx rfl (hb hby d7_0) rfl rfl (st1 t (XS.aloadN X1.here hx rfl (hb hby d7_4) rfl rfl (st2 t k))))
  obtain ⟨T4, lc4, X4, N4, P4, st4⟩ := own_callS X2 hx hZ (y := (⟨"com/example/boughsplit/boughsplit/service/BracketScorer$Counts", "percentage", "(II)D"⟩ : MethodName)) hown (own_q hw 37 rfl) (own_q hw 38 rfl) (own_q hw 39 rfl) (own_q hw 8 rfl) (by decide) (W := 0) (own_rmPct l Z a0 hw n0 _ q4 q3) e2 N0 (by decide) (by decide) (by decide) (by decide) (g := (mkF m 8 #[.val (.ref b)] [(.int q3), (.int q4)])) rfl (by rw [hml]; rfl) (argsL := [(.int q4), (.int q3)]) (rest := []) (lenOf pd__II_D rfl) rfl rfl (Nat.le_of_eq rfl) (hb hby d7_8)
  have R5 : OGo p.tables e below S0 (T4.setTop (mkF m 11 #[.val (.ref b)] [(.double (own_pct q4 q3))])) := fun t k => R3 t (st4 t k)
  exact ⟨_, _, _, _, X4, by decide, by decide, N4, P4, fun fs hr => R5 _ (own_retD X4 hx hret (hb hby d7_11) hr)⟩
set_option maxRecDepth 65536 in
set_option maxHeartbeats 40000000 in
theorem own_rmRcl (l : Launch) (Z : State) (a0 : Array Value) (hw : ∀ d ∈ tables_1, d.before a0 Z = true) (n0 : Nat) (h0 : Heap) (b : Addr) (q1 q2 q3 q4 q5 q6 : Int32) (H0 : OHp Z h0 n0 "com/example/boughsplit/boughsplit/service/BracketScorer$Counts" own_FN b [(.int q1), (.int q2), (.int q3), (.int q4), (.int q5), (.int q6)] []) : OMet l Z n0 (⟨"com/example/boughsplit/boughsplit/service/BracketScorer$Counts", "recall", "()D"⟩ : MethodName) prog_33_method_4_code 1 (some .double) ({ frames := 1, cells := 0, slots := 0, locals := 13 } : Room) #[(.ref b)] h0 (some (.double (own_pct q4 q2))) (fun h => h = h0) := by
  refine own_bodyM (y := (⟨"com/example/boughsplit/boughsplit/service/BracketScorer$Counts", "recall", "()D"⟩ : MethodName)) (plainFor_of_name pn_counts) (fun h => by cases h) ?_
  intro p e s m below meth c s₁ S0 hx hby hml hown hnm hret hZ X0 e0 Rs
  have N0 := Fr.nil n0
  have R0 : OGo p.tables e below S0 (s₁.setTop (mkF m 0 #[.val (.ref b)] [])) := fun t k => Rs t (castTop (ef_1 m b) k)
  obtain ⟨T1, X1, e1, st1⟩ := own_getF X0 hx hZ hown (own_q hw 26 rfl) e0 H0 (k := 3) rfl rfl (g := (mkF m 1 #[.val (.ref b)] [(.ref b)])) rfl rfl (hb hby d8_1)
  obtain ⟨T2, X2, e2, st2⟩ := own_getF X1 hx hZ hown (own_q hw 22 rfl) e1 H0 (k := 1) rfl rfl (g := (mkF m 5 #[.val (.ref b)] [(.ref b), (.int q4)])) rfl rfl (hb hby d8_5)
  have R3 : OGo p.tables e below S0 (T2.setTop (mkF m 8 #[.val (.ref b)] [(.int q2), (.int q4)])) := fun t k => R0 t (XS.aloadN X0.here hx rfl (hb hby d8_0) rfl rfl (st1 t (XS.aloadN X1.here hx rfl (hb hby d8_4) rfl rfl (st2 t k))))
  obtain ⟨T4, lc4, X4, N4, P4, st4⟩ := own_callS X2 hx hZ (y := (⟨"com/example/boughsplit/boughsplit/service/BracketScorer$Counts", "percentage", "(II)D"⟩ : MethodName)) hown (own_q hw 37 rfl) (own_q hw 38 rfl) (own_q hw 39 rfl) (own_q hw 8 rfl) (by decide) (W := 0) (own_rmPct l Z a0 hw n0 _ q4 q2) e2 N0 (by decide) (by decide) (by decide) (by decide) (g := (mkF m 8 #[.val (.ref b)] [(.int q2), (.int q4)])) rfl (by rw [hml]; rfl) (argsL := [(.int q4), (.int q2)]) (rest := []) (lenOf pd__II_D rfl) rfl rfl (Nat.le_of_eq rfl) (hb hby d8_8)
  have R5 : OGo p.tables e below S0 (T4.setTop (mkF m 11 #[.val (.ref b)] [(.double (own_pct q4 q2))])) := fun t k => R3 t (st4 t k)
  exact ⟨_, _, _, _, X4, by decide, by decide, N4, P4, fun fs hr => R5 _ (own_retD X4 hx hret (hb hby d8_11) hr)⟩
set_option maxRecDepth 65536 in
set_option maxHeartbeats 40000000 in
theorem own_rm0 (l : Launch) (Z : State) (a0 : Array Value) (hw : ∀ d ∈ tables_1, d.before a0 Z = true) (n0 : Nat) (h0 : Heap) (Z0 : n0 ≤ h0.size) (v0 v1 v2 v3 v4 v5 : Int32) :
    MetFree l x (head1 (Jvm.Cond.code x code maxLocals ret :: tables_1) room_1) (fun a U => a = #[(.int v0), (.int v1), (.int v2), (.int v3), (.int v4), (.int v5)] ∧ Z.Warmed39 U.vm ∧ U.heap = h0) (fun _ _ _ _ _ => True) (fun _ U o U' => ∃ v L, o = .returned v ∧ (v = some (.int 1) ∧ Fr n0 L ∧ True) ∧ FrameEnd U o U' L room_1.cells room_1.slots) := by
  refine own_body (y := x) (P := fun _ => True) (plainFor_of_name pn_law) (fun h => by cases h) tables_1 ?_
  intro p e s m below meth c s₁ S0 hx hby hml hown hnm hret hZ X0 e0 Rs
  have N0 := Fr.nil n0
  have R0 : OGo p.tables e below S0 (s₁.setTop (mkF m 0 #[.val (.int v0), .val (.int v1), .val (.int v2), .val (.int v3), .val (.int v4), .val (.int v5), .unset, .unset, .unset, .unset, .unset, .unset, .unset, .unset, .unset, .unset, .unset] [])) := fun t k => Rs t (castTop (ef_law m v0 v1 v2 v3 v4 v5) k)
  have R1 : OGo p.tables e below S0 (s₁.setTop (mkF m 4 #[.val (.int v0), .val (.int v1), .val (.int v2), .val (.int v3), .val (.int v4), .val (.int v5), .unset, .unset, .unset, .unset, .unset, .unset, .unset, .unset, .unset, .unset, .unset] [(.int (v1 &&& (1073741823 : Int32)))])) := fun t k => R0 t (XS.iloadN X0.here hx rfl (hb hby at_0) rfl (X0.ldcInt hx hown (mvT hZ (own_q hw 0 rfl)) (g := (mkF m 1 #[.val (.int v0), .val (.int v1), .val (.int v2), .val (.int v3), .val (.int v4), .val (.int v5), .unset, .unset, .unset, .unset, .unset, .unset, .unset, .unset, .unset, .unset, .unset] [(.int v1)])) rfl (hb hby at_1) t (XS.iand X0.here hx rfl (hb hby at_3) rfl k)))
  obtain ⟨gv, e_gv⟩ : ∃ z, z = (v1 &&& (1073741823 : Int32)) := ⟨_, rfl⟩
  have R2 : OGo p.tables e below S0 (s₁.setTop (mkF m 4 #[.val (.int v0), .val (.int v1), .val (.int v2), .val (.int v3), .val (.int v4), .val (.int v5), .unset, .unset, .unset, .unset, .unset, .unset, .unset, .unset, .unset, .unset, .unset] [(.int gv)])) := by rw [e_gv]; exact R1
  have R4 : OGo p.tables e below S0 (s₁.setTop (mkF m 9 #[.val (.int v0), .val (.int v1), .val (.int v2), .val (.int v3), .val (.int v4), .val (.int v5), .val (.int gv), .unset, .unset, .unset, .unset, .unset, .unset, .unset, .unset, .unset, .unset] [(.int (v0 &&& (1 : Int32)))])) := fun t k => R2 t (XS.istore X0.here hx rfl (hb hby at_4) rfl (l' := #[.val (.int v0), .val (.int v1), .val (.int v2), .val (.int v3), .val (.int v4), .val (.int v5), .val (.int gv), .unset, .unset, .unset, .unset, .unset, .unset, .unset, .unset, .unset, .unset]) rfl (XS.iloadN X0.here hx rfl (hb hby at_6) rfl (XS.iconst X0.here hx rfl (hb hby at_7) (XS.iand X0.here hx rfl (hb hby at_8) rfl k))))
  obtain ⟨tv, e_tv, R3⟩ : ∃ tv : Int32, (tv = gv ∨ tv = v2 &&& (1073741823 : Int32)) ∧ OGo p.tables e below S0 (s₁.setTop (mkF m 21 #[.val (.int v0), .val (.int v1), .val (.int v2), .val (.int v3), .val (.int v4), .val (.int v5), .val (.int gv), .unset, .unset, .unset, .unset, .unset, .unset, .unset, .unset, .unset, .unset] [(.int tv)])) := by
    by_cases hc : v0 &&& (1 : Int32) = 0
    · skip
      have R5 : OGo p.tables e below S0 (s₁.setTop (mkF m 21 #[.val (.int v0), .val (.int v1), .val (.int v2), .val (.int v3), .val (.int v4), .val (.int v5), .val (.int gv), .unset, .unset, .unset, .unset, .unset, .unset, .unset, .unset, .unset, .unset] [(.int (v2 &&& (1073741823 : Int32)))])) := fun t k => R4 t (XS.ifYes X0.here hx rfl (pc0 := 9) (pc' := 17) rfl (hb hby at_9) rfl ((if0 _ _).trans (teq hc).1) (by decide) (by decide) (XS.iloadN X0.here hx rfl (hb hby at_17) rfl (X0.ldcInt hx hown (mvT hZ (own_q hw 0 rfl)) (g := (mkF m 18 #[.val (.int v0), .val (.int v1), .val (.int v2), .val (.int v3), .val (.int v4), .val (.int v5), .val (.int gv), .unset, .unset, .unset, .unset, .unset, .unset, .unset, .unset, .unset, .unset] [(.int v2)])) rfl (hb hby at_18) t (XS.iand X0.here hx rfl (hb hby at_20) rfl k))))
      exact ⟨_, Or.inr rfl, R5⟩
    · skip
      have R6 : OGo p.tables e below S0 (s₁.setTop (mkF m 21 #[.val (.int v0), .val (.int v1), .val (.int v2), .val (.int v3), .val (.int v4), .val (.int v5), .val (.int gv), .unset, .unset, .unset, .unset, .unset, .unset, .unset, .unset, .unset, .unset] [(.int gv)])) := fun t k => R4 t (XS.ifNo X0.here hx rfl (hb hby at_9) rfl ((if0 _ _).trans (feq hc).1) (XS.iload X0.here hx rfl (hb hby at_12) rfl (XS.goto X0.here hx rfl (pc0 := 14) (pc' := 21) rfl (hb hby at_14) (by decide) (by decide) k)))
      exact ⟨_, Or.inl rfl, R6⟩
  have R7 : OGo p.tables e below S0 (s₁.setTop (mkF m 31 #[.val (.int v0), .val (.int v1), .val (.int v2), .val (.int v3), .val (.int v4), .val (.int v5), .val (.int gv), .val (.int tv), .unset, .unset, .unset, .unset, .unset, .unset, .unset, .unset, .unset] [(.int tv), (.int gv), (.int (v3 &&& (2147483647 : Int32)))])) := fun t k => R3 t (XS.istore X0.here hx rfl (hb hby at_21) rfl (l' := #[.val (.int v0), .val (.int v1), .val (.int v2), .val (.int v3), .val (.int v4), .val (.int v5), .val (.int gv), .val (.int tv), .unset, .unset, .unset, .unset, .unset, .unset, .unset, .unset, .unset]) rfl (XS.iloadN X0.here hx rfl (hb hby at_23) rfl (X0.ldcInt hx hown (mvT hZ (own_q hw 1 rfl)) (g := (mkF m 24 #[.val (.int v0), .val (.int v1), .val (.int v2), .val (.int v3), .val (.int v4), .val (.int v5), .val (.int gv), .val (.int tv), .unset, .unset, .unset, .unset, .unset, .unset, .unset, .unset, .unset] [(.int v3)])) rfl (hb hby at_24) t (XS.iand X0.here hx rfl (hb hby at_26) rfl (XS.iload X0.here hx rfl (hb hby at_27) rfl (XS.iload X0.here hx rfl (hb hby at_29) rfl k))))))
  obtain ⟨T8, lc8, X8, N8, P8, st8⟩ := own_callS X0 hx hZ (y := (⟨"java/lang/Math", "min", "(II)I"⟩ : MethodName)) hown (own_q hw 2 rfl) (own_q hw 3 rfl) (own_q hw 5 rfl) (own_q hw 4 rfl) (by decide) (W := 1) (own_rmMin l Z a0 hw n0 _ gv tv) e0 N0 (by decide) (by decide) (by decide) (by decide) (g := (mkF m 31 #[.val (.int v0), .val (.int v1), .val (.int v2), .val (.int v3), .val (.int v4), .val (.int v5), .val (.int gv), .val (.int tv), .unset, .unset, .unset, .unset, .unset, .unset, .unset, .unset, .unset] [(.int tv), (.int gv), (.int (v3 &&& (2147483647 : Int32)))])) rfl (by rw [hml]; rfl) (argsL := [(.int gv), (.int tv)]) (rest := [(.int (v3 &&& (2147483647 : Int32)))]) (lenOf pd__II_I rfl) rfl rfl (Nat.le_of_eq rfl) (hb hby at_31)
  have R9 : OGo p.tables e below S0 (T8.setTop (mkF m 36 #[.val (.int v0), .val (.int v1), .val (.int v2), .val (.int v3), .val (.int v4), .val (.int v5), .val (.int gv), .val (.int tv), .unset, .unset, .unset, .unset, .unset, .unset, .unset, .unset, .unset] [(.int ((if tv < gv then tv else gv) + (1 : Int32))), (.int (v3 &&& (2147483647 : Int32)))])) := fun t k => R7 t (st8 t (XS.iconst X8.here hx rfl (hb hby at_34) (XS.iadd X8.here hx rfl (hb hby at_35) rfl k)))
  obtain ⟨dv, e_dv⟩ : ∃ z, z = ((if tv < gv then tv else gv) + (1 : Int32)) := ⟨_, rfl⟩
  have R10 : OGo p.tables e below S0 (T8.setTop (mkF m 36 #[.val (.int v0), .val (.int v1), .val (.int v2), .val (.int v3), .val (.int v4), .val (.int v5), .val (.int gv), .val (.int tv), .unset, .unset, .unset, .unset, .unset, .unset, .unset, .unset, .unset] [(.int dv), (.int (v3 &&& (2147483647 : Int32)))])) := by rw [e_dv]; exact R9
  have bg := own_bd v1 e_gv
  have bt : 0 ≤ tv.toInt ∧ tv.toInt < 1073741824 := e_tv.elim (fun q => by rw [q]; exact bg) (fun q => own_bd v2 q)
  have bd := own_min1 bg bt e_dv
  have R11 : OGo p.tables e below S0 (T8.setTop (mkF m 37 #[.val (.int v0), .val (.int v1), .val (.int v2), .val (.int v3), .val (.int v4), .val (.int v5), .val (.int gv), .val (.int tv), .unset, .unset, .unset, .unset, .unset, .unset, .unset, .unset, .unset] [(.int ((v3 &&& (2147483647 : Int32)) % dv))])) := fun t k => R10 t (iremM X8 hx rfl (hb hby at_36) rfl bd.1 k)
  obtain ⟨mv, e_mv⟩ : ∃ z, z = ((v3 &&& (2147483647 : Int32)) % dv) := ⟨_, rfl⟩
  have R12 : OGo p.tables e below S0 (T8.setTop (mkF m 37 #[.val (.int v0), .val (.int v1), .val (.int v2), .val (.int v3), .val (.int v4), .val (.int v5), .val (.int gv), .val (.int tv), .unset, .unset, .unset, .unset, .unset, .unset, .unset, .unset, .unset] [(.int mv)])) := by rw [e_mv]; exact R11
  have bm := own_rem v3 bg bt e_dv e_mv
  obtain ⟨F1, F2, F3, F4, F5, F6⟩ := own_law435 gv tv mv bg bt bm
  have R14 : OGo p.tables e below S0 (T8.setTop (mkF m 39 #[.val (.int v0), .val (.int v1), .val (.int v2), .val (.int v3), .val (.int v4), .val (.int v5), .val (.int gv), .val (.int tv), .val (.int mv), .unset, .unset, .unset, .unset, .unset, .unset, .unset, .unset] [])) := fun t k => R12 t (XS.istore X8.here hx rfl (hb hby at_37) rfl (l' := #[.val (.int v0), .val (.int v1), .val (.int v2), .val (.int v3), .val (.int v4), .val (.int v5), .val (.int gv), .val (.int tv), .val (.int mv), .unset, .unset, .unset, .unset, .unset, .unset, .unset, .unset]) rfl k)
  obtain ⟨T13, h13, b, X13, e13, H13, st13⟩ := own_newO X8 hx hZ hown (own_q hw 6 rfl) (own_q hw 7 rfl) (own_q hw 8 rfl) P8 (n0 := n0) Z0 (OArs.nil Z _ n0) (own_laid Z a0 hw) (vs := [(.int (0 : Int32)), (.int (0 : Int32)), (.int (0 : Int32)), (.int (0 : Int32)), (.int (0 : Int32)), (.int (0 : Int32))]) rfl (g := (mkF m 39 #[.val (.int v0), .val (.int v1), .val (.int v2), .val (.int v3), .val (.int v4), .val (.int v5), .val (.int gv), .val (.int tv), .val (.int mv), .unset, .unset, .unset, .unset, .unset, .unset, .unset, .unset] [])) rfl (hb hby at_39) (by decide) (by decide)
  have R15 : OGo p.tables e below S0 (T13.setTop (mkF m 50 #[.val (.int v0), .val (.int v1), .val (.int v2), .val (.int v3), .val (.int v4), .val (.int v5), .val (.int gv), .val (.int tv), .val (.int mv), .unset, .unset, .unset, .unset, .unset, .unset, .unset, .unset] [(.int mv), (.int tv), (.int gv), (.int v0), (.ref b), (.ref b)])) := fun t k => R14 t (st13 t (XS.dup X13.here hx rfl (hb hby at_42) rfl rfl (XS.iloadN X13.here hx rfl (hb hby at_43) rfl (XS.iload X13.here hx rfl (hb hby at_44) rfl (XS.iload X13.here hx rfl (hb hby at_46) rfl (XS.iload X13.here hx rfl (hb hby at_48) rfl k))))))
  have R16 : OGo p.tables e below S0 (T13.setTop (mkF m 54 #[.val (.int v0), .val (.int v1), .val (.int v2), .val (.int v3), .val (.int v4), .val (.int v5), .val (.int gv), .val (.int tv), .val (.int mv), .unset, .unset, .unset, .unset, .unset, .unset, .unset, .unset] [(.int v5), (.int v4), (.int mv), (.int tv), (.int gv), (.int v0), (.ref b), (.ref b)])) := fun t k => R15 t (XS.iload X13.here hx rfl (hb hby at_50) rfl (XS.iload X13.here hx rfl (hb hby at_52) rfl k))
  obtain ⟨T17, lc17, X17, N17, P17, st17⟩ := own_callI X13 hx hZ (y := (⟨"com/example/boughsplit/boughsplit/service/BracketScorer$Counts", "<init>", "(IIIIII)V"⟩ : MethodName)) rfl hown (own_q hw 9 rfl) (own_q hw 10 rfl) (own_q hw 11 rfl) (own_q hw 8 rfl) (by decide) (W := 1) (own_rmInit l Z a0 hw n0 _ b v0 gv tv mv v4 v5 H13) e13 N8 (by decide) (by decide) (by decide) (by decide) (g := (mkF m 54 #[.val (.int v0), .val (.int v1), .val (.int v2), .val (.int v3), .val (.int v4), .val (.int v5), .val (.int gv), .val (.int tv), .val (.int mv), .unset, .unset, .unset, .unset, .unset, .unset, .unset, .unset] [(.int v5), (.int v4), (.int mv), (.int tv), (.int gv), (.int v0), (.ref b), (.ref b)])) rfl (by rw [hml]; rfl) (argsL := [(.int v0), (.int gv), (.int tv), (.int mv), (.int v4), (.int v5)]) (rest := [(.ref b)]) (lenOf pd__IIIIII_V rfl) rfl rfl (Nat.le_of_eq rfl) (hb hby at_54)
  have H17 : OHp Z T17.heap n0 "com/example/boughsplit/boughsplit/service/BracketScorer$Counts" own_FN b [(.int v0), (.int gv), (.int tv), (.int mv), (.int v4), (.int v5)] [] := P17
  have R18 : OGo p.tables e below S0 (T17.setTop (mkF m 61 #[.val (.int v0), .val (.int v1), .val (.int v2), .val (.int v3), .val (.int v4), .val (.int v5), .val (.int gv), .val (.int tv), .val (.int mv), .val (.ref b), .unset, .unset, .unset, .unset, .unset, .unset, .unset] [(.ref b)])) := fun t k => R16 t (st17 t (XS.astore X17.here hx rfl (hb hby at_57) rfl rfl (l' := #[.val (.int v0), .val (.int v1), .val (.int v2), .val (.int v3), .val (.int v4), .val (.int v5), .val (.int gv), .val (.int tv), .val (.int mv), .val (.ref b), .unset, .unset, .unset, .unset, .unset, .unset, .unset]) rfl (XS.aload X17.here hx rfl (hb hby at_59) rfl rfl k)))
  obtain ⟨T19, lc19, X19, N19, P19, st19⟩ := own_callV X17 hx hZ (y := (⟨"com/example/boughsplit/boughsplit/service/BracketScorer$Counts", "f1", "()D"⟩ : MethodName)) hown (own_q hw 32 rfl) (own_q hw 33 rfl) (own_q hw 35 rfl) (own_q hw 34 rfl) (own_q hw 36 rfl) (own_q hw 8 rfl) (by decide) (W := 0) (own_rmF1 l Z a0 hw n0 _ b v0 gv tv mv v4 v5 H17) rfl H17.2.1 N17 (by decide) (by decide) (by decide) (by decide) (g := (mkF m 61 #[.val (.int v0), .val (.int v1), .val (.int v2), .val (.int v3), .val (.int v4), .val (.int v5), .val (.int gv), .val (.int tv), .val (.int mv), .val (.ref b), .unset, .unset, .unset, .unset, .unset, .unset, .unset] [(.ref b)])) rfl (by rw [hml]; rfl) (argsL := []) (rest := []) (lenOf pd___D rfl) rfl rfl (Nat.le_of_eq rfl) (hb hby at_61)
  have R20 : OGo p.tables e below S0 (T19.setTop (mkF m 64 #[.val (.int v0), .val (.int v1), .val (.int v2), .val (.int v3), .val (.int v4), .val (.int v5), .val (.int gv), .val (.int tv), .val (.int mv), .val (.ref b), .unset, .unset, .unset, .unset, .unset, .unset, .unset] [(.double (own_pct ((2 : Int32) * mv) (gv + tv)))])) := fun t k => R18 t (st19 t k)
  obtain ⟨f, e_f⟩ : ∃ z, z = (own_pct ((2 : Int32) * mv) (gv + tv)) := ⟨_, rfl⟩
  have R21 : OGo p.tables e below S0 (T19.setTop (mkF m 64 #[.val (.int v0), .val (.int v1), .val (.int v2), .val (.int v3), .val (.int v4), .val (.int v5), .val (.int gv), .val (.int tv), .val (.int mv), .val (.ref b), .unset, .unset, .unset, .unset, .unset, .unset, .unset] [(.double f)])) := by rw [e_f]; exact R20
  rw [← e_f] at F1 F2 F3 F4 F5 F6
  have R22 : OGo p.tables e below S0 (T19.setTop (mkF m 73 #[.val (.int v0), .val (.int v1), .val (.int v2), .val (.int v3), .val (.int v4), .val (.int v5), .val (.int gv), .val (.int tv), .val (.int mv), .val (.ref b), .val (.double f), .second, .unset, .unset, .unset, .unset, .unset] [(.long ((gv.toInt64) + (tv.toInt64)))])) := fun t k => R21 t (XS.dstore X19.here hx rfl (hb hby at_64) rfl (l' := #[.val (.int v0), .val (.int v1), .val (.int v2), .val (.int v3), .val (.int v4), .val (.int v5), .val (.int gv), .val (.int tv), .val (.int mv), .val (.ref b), .val (.double f), .second, .unset, .unset, .unset, .unset, .unset]) rfl (XS.iload X19.here hx rfl (hb hby at_66) rfl (XS.i2l X19.here hx rfl (hb hby at_68) rfl (XS.iload X19.here hx rfl (hb hby at_69) rfl (XS.i2l X19.here hx rfl (hb hby at_71) rfl (XS.ladd X19.here hx rfl (hb hby at_72) rfl k))))))
  have R23 : OGo p.tables e below S0 (T19.setTop (mkF m 79 #[.val (.int v0), .val (.int v1), .val (.int v2), .val (.int v3), .val (.int v4), .val (.int v5), .val (.int gv), .val (.int tv), .val (.int mv), .val (.ref b), .val (.double f), .second, .val (.long ((gv.toInt64) + (tv.toInt64))), .second, .unset, .unset, .unset] [(.int (lcmpW ((gv.toInt64) + (tv.toInt64)) (0 : Int64)))])) := fun t k => R22 t (XS.lstore X19.here hx rfl (hb hby at_73) rfl (l' := #[.val (.int v0), .val (.int v1), .val (.int v2), .val (.int v3), .val (.int v4), .val (.int v5), .val (.int gv), .val (.int tv), .val (.int mv), .val (.ref b), .val (.double f), .second, .val (.long ((gv.toInt64) + (tv.toInt64))), .second, .unset, .unset, .unset]) rfl (XS.lload X19.here hx rfl (hb hby at_75) rfl (XS.lconst X19.here hx rfl (hb hby at_77) (XS.lcmp X19.here hx rfl (hb hby at_78) rfl k))))
  have hfin : ∀ ex : UInt64, f = ex → OGo p.tables e below S0 (T19.setTop (mkF m 100 #[.val (.int v0), .val (.int v1), .val (.int v2), .val (.int v3), .val (.int v4), .val (.int v5), .val (.int gv), .val (.int tv), .val (.int mv), .val (.ref b), .val (.double f), .second, .val (.long ((gv.toInt64) + (tv.toInt64))), .second, .val (.double ex), .second, .unset] [])) → ∃ (T : State) (locs : List Loc) (cells slots : Nat), Stand p l e room_1 s m #[(.int v0), (.int v1), (.int v2), (.int v3), (.int v4), (.int v5)] below meth c T locs cells slots ∧ cells ≤ room_1.cells ∧ slots ≤ room_1.slots ∧ Fr n0 locs ∧ True ∧ ∀ fs, (∀ (f : JFrame) (acts : List Action), f.method = m → f.locked = none → f.entered = [] → (doReturn e (T.setTop f) acts (some (.int 1))).1 = T.setFrames fs) → Steps p.tables e below S0 (T.setFrames fs) := by
    intro ex hex Rq
    have R24 : OGo p.tables e below S0 (T19.setTop (mkF m 111 #[.val (.int v0), .val (.int v1), .val (.int v2), .val (.int v3), .val (.int v4), .val (.int v5), .val (.int gv), .val (.int tv), .val (.int mv), .val (.ref b), .val (.double f), .second, .val (.long ((gv.toInt64) + (tv.toInt64))), .second, .val (.double ex), .second, .unset] [(.double f), (.double (0 : UInt64))])) := fun t k => Rq t (XS.dload X19.here hx rfl (hb hby at_100) rfl (XS.dload X19.here hx rfl (hb hby at_102) rfl (XS.dcmpS X19.here hx rfl (hb hby at_104) rfl (dcmpV_eq hex F3 .l) (XS.ifNo X19.here hx rfl (hb hby at_105) rfl (by decide) (XS.dconst0 X19.here hx rfl (hb hby at_108) rfl (XS.dload X19.here hx rfl (hb hby at_109) rfl k))))))
    have R25 : OGo p.tables e below S0 (T19.setTop (mkF m 124 #[.val (.int v0), .val (.int v1), .val (.int v2), .val (.int v3), .val (.int v4), .val (.int v5), .val (.int gv), .val (.int tv), .val (.int mv), .val (.ref b), .val (.double f), .second, .val (.long ((gv.toInt64) + (tv.toInt64))), .second, .val (.double ex), .second, .unset] [])) := fun t k => R24 t (XS.dcmpS X19.here hx rfl (hb hby at_111) rfl rfl (XS.ifNo X19.here hx rfl (hb hby at_112) rfl ((if0 _ _).trans (flt F4).2.2.1) (XS.dload X19.here hx rfl (hb hby at_115) rfl (X19.ldc2DoubleC hx hown (mvT hZ (own_q hw 42 rfl)) (g := (mkF m 117 #[.val (.int v0), .val (.int v1), .val (.int v2), .val (.int v3), .val (.int v4), .val (.int v5), .val (.int gv), .val (.int tv), .val (.int mv), .val (.ref b), .val (.double f), .second, .val (.long ((gv.toInt64) + (tv.toInt64))), .second, .val (.double ex), .second, .unset] [(.double f)])) rfl (hb hby at_117) t (XS.dcmpS X19.here hx rfl (hb hby at_120) rfl rfl (XS.ifNo X19.here hx rfl (hb hby at_121) rfl ((if0 _ _).trans (flt F5).2.2.1) k))))))
    have R26 : OGo p.tables e below S0 (T19.setTop (mkF m 135 #[.val (.int v0), .val (.int v1), .val (.int v2), .val (.int v3), .val (.int v4), .val (.int v5), .val (.int gv), .val (.int tv), .val (.int mv), .val (.ref b), .val (.double f), .second, .val (.long ((gv.toInt64) + (tv.toInt64))), .second, .val (.double ex), .second, .val (.int (1 : Int32))] [(.int tv), (.int gv)])) := fun t k => R25 t (XS.iconst X19.here hx rfl (hb hby at_124) (XS.goto X19.here hx rfl (pc0 := 125) (pc' := 129) rfl (hb hby at_125) (by decide) (by decide) (XS.istore X19.here hx rfl (hb hby at_129) rfl (l' := #[.val (.int v0), .val (.int v1), .val (.int v2), .val (.int v3), .val (.int v4), .val (.int v5), .val (.int gv), .val (.int tv), .val (.int mv), .val (.ref b), .val (.double f), .second, .val (.long ((gv.toInt64) + (tv.toInt64))), .second, .val (.double ex), .second, .val (.int (1 : Int32))]) rfl (XS.iload X19.here hx rfl (hb hby at_131) rfl (XS.iload X19.here hx rfl (hb hby at_133) rfl k)))))
    by_cases hgt : gv = tv
    · skip
      have R27 : OGo p.tables e below S0 (T19.setTop (mkF m 147 #[.val (.int v0), .val (.int v1), .val (.int v2), .val (.int v3), .val (.int v4), .val (.int v5), .val (.int gv), .val (.int tv), .val (.int mv), .val (.ref b), .val (.double f), .second, .val (.long ((gv.toInt64) + (tv.toInt64))), .second, .val (.double ex), .second, .val (.int (1 : Int32))] [(.ref b), (.double f)])) := fun t k => R26 t (XS.icmpNo X19.here hx rfl (hb hby at_135) rfl ((teq hgt).2) (XS.iload X19.here hx rfl (hb hby at_138) rfl (XS.ifNo X19.here hx rfl (hb hby at_140) rfl (by decide) (XS.dload X19.here hx rfl (hb hby at_143) rfl (XS.aload X19.here hx rfl (hb hby at_145) rfl rfl k)))))
      obtain ⟨T28, lc28, X28, N28, P28, st28⟩ := own_callV X19 hx hZ (y := (⟨"com/example/boughsplit/boughsplit/service/BracketScorer$Counts", "precision", "()D"⟩ : MethodName)) hown (own_q hw 43 rfl) (own_q hw 44 rfl) (own_q hw 46 rfl) (own_q hw 45 rfl) (own_q hw 47 rfl) (own_q hw 8 rfl) (by decide) (W := 2) (own_rmPrec l Z a0 hw n0 _ b v0 gv tv mv v4 v5 H17) P19 H17.2.1 N19 (by decide) (by decide) (by decide) (by decide) (g := (mkF m 147 #[.val (.int v0), .val (.int v1), .val (.int v2), .val (.int v3), .val (.int v4), .val (.int v5), .val (.int gv), .val (.int tv), .val (.int mv), .val (.ref b), .val (.double f), .second, .val (.long ((gv.toInt64) + (tv.toInt64))), .second, .val (.double ex), .second, .val (.int (1 : Int32))] [(.ref b), (.double f)])) rfl (by rw [hml]; rfl) (argsL := []) (rest := [(.double f)]) (lenOf pd___D rfl) rfl rfl (Nat.le_of_eq rfl) (hb hby at_147)
      have R29 : OGo p.tables e below S0 (T28.setTop (mkF m 158 #[.val (.int v0), .val (.int v1), .val (.int v2), .val (.int v3), .val (.int v4), .val (.int v5), .val (.int gv), .val (.int tv), .val (.int mv), .val (.ref b), .val (.double f), .second, .val (.long ((gv.toInt64) + (tv.toInt64))), .second, .val (.double ex), .second, .val (.int (1 : Int32))] [(.ref b), (.double f)])) := fun t k => R27 t (st28 t (XS.dcmpS X28.here hx rfl (hb hby at_150) rfl (dcmpV_eq (F6 hgt) F3 .l) (XS.ifNo X28.here hx rfl (hb hby at_151) rfl (by decide) (XS.dload X28.here hx rfl (hb hby at_154) rfl (XS.aload X28.here hx rfl (hb hby at_156) rfl rfl k)))))
      obtain ⟨T30, lc30, X30, N30, P30, st30⟩ := own_callV X28 hx hZ (y := (⟨"com/example/boughsplit/boughsplit/service/BracketScorer$Counts", "recall", "()D"⟩ : MethodName)) hown (own_q hw 48 rfl) (own_q hw 49 rfl) (own_q hw 51 rfl) (own_q hw 50 rfl) (own_q hw 52 rfl) (own_q hw 8 rfl) (by decide) (W := 2) (own_rmRcl l Z a0 hw n0 _ b v0 gv tv mv v4 v5 H17) P28 H17.2.1 N28 (by decide) (by decide) (by decide) (by decide) (g := (mkF m 158 #[.val (.int v0), .val (.int v1), .val (.int v2), .val (.int v3), .val (.int v4), .val (.int v5), .val (.int gv), .val (.int tv), .val (.int mv), .val (.ref b), .val (.double f), .second, .val (.long ((gv.toInt64) + (tv.toInt64))), .second, .val (.double ex), .second, .val (.int (1 : Int32))] [(.ref b), (.double f)])) rfl (by rw [hml]; rfl) (argsL := []) (rest := [(.double f)]) (lenOf pd___D rfl) rfl rfl (Nat.le_of_eq rfl) (hb hby at_158)
      have R31 : OGo p.tables e below S0 (T30.setTop (mkF m 172 #[.val (.int v0), .val (.int v1), .val (.int v2), .val (.int v3), .val (.int v4), .val (.int v5), .val (.int gv), .val (.int tv), .val (.int mv), .val (.ref b), .val (.double f), .second, .val (.long ((gv.toInt64) + (tv.toInt64))), .second, .val (.double ex), .second, .val (.int (1 : Int32))] [])) := fun t k => R29 t (st30 t (XS.dcmpS X30.here hx rfl (hb hby at_161) rfl (dcmpV_eq (by rw [F6 hgt, hgt]) F3 .l) (XS.ifNo X30.here hx rfl (hb hby at_162) rfl (by decide) (XS.iconst X30.here hx rfl (hb hby at_165) (XS.goto X30.here hx rfl (pc0 := 166) (pc' := 170) rfl (hb hby at_166) (by decide) (by decide) (XS.istore X30.here hx rfl (hb hby at_170) rfl (l' := #[.val (.int v0), .val (.int v1), .val (.int v2), .val (.int v3), .val (.int v4), .val (.int v5), .val (.int gv), .val (.int tv), .val (.int mv), .val (.ref b), .val (.double f), .second, .val (.long ((gv.toInt64) + (tv.toInt64))), .second, .val (.double ex), .second, .val (.int (1 : Int32))]) rfl k))))))
      have R32 : OGo p.tables e below S0 (T30.setTop (mkF m 174 #[.val (.int v0), .val (.int v1), .val (.int v2), .val (.int v3), .val (.int v4), .val (.int v5), .val (.int gv), .val (.int tv), .val (.int mv), .val (.ref b), .val (.double f), .second, .val (.long ((gv.toInt64) + (tv.toInt64))), .second, .val (.double ex), .second, .val (.int (1 : Int32))] [(.int (1 : Int32))])) := fun t k => R31 t (XS.iload X30.here hx rfl (hb hby at_172) rfl k)
      exact ⟨_, _, _, _, X30, by decide, by decide, N30, trivial, fun fs hr => R32 _ (retN X30 hx (t := .boolean) hret (by simp) (hb hby at_174) hr)⟩
    · skip
      have R33 : OGo p.tables e below S0 (T19.setTop (mkF m 174 #[.val (.int v0), .val (.int v1), .val (.int v2), .val (.int v3), .val (.int v4), .val (.int v5), .val (.int gv), .val (.int tv), .val (.int mv), .val (.ref b), .val (.double f), .second, .val (.long ((gv.toInt64) + (tv.toInt64))), .second, .val (.double ex), .second, .val (.int (1 : Int32))] [(.int (1 : Int32))])) := fun t k => R26 t (XS.icmpYes X19.here hx rfl (pc0 := 135) (pc' := 172) rfl (hb hby at_135) rfl ((feq hgt).2) (by decide) (by decide) (XS.iload X19.here hx rfl (hb hby at_172) rfl k))
      exact ⟨_, _, _, _, X19, by decide, by decide, N19, trivial, fun fs hr => R33 _ (retN X19 hx (t := .boolean) hret (by simp) (hb hby at_174) hr)⟩
  by_cases hs : (gv.toInt64 + tv.toInt64) = 0
  · skip
    have R34 : OGo p.tables e below S0 (T19.setTop (mkF m 100 #[.val (.int v0), .val (.int v1), .val (.int v2), .val (.int v3), .val (.int v4), .val (.int v5), .val (.int gv), .val (.int tv), .val (.int mv), .val (.ref b), .val (.double f), .second, .val (.long ((gv.toInt64) + (tv.toInt64))), .second, .val (.double (0 : UInt64)), .second, .unset] [])) := fun t k => R23 t (XS.ifNo X19.here hx rfl (hb hby at_79) rfl ((if0 _ _).trans (teq (own_lc0 hs)).2) (XS.dconst0 X19.here hx rfl (hb hby at_82) rfl (XS.goto X19.here hx rfl (pc0 := 83) (pc' := 98) rfl (hb hby at_83) (by decide) (by decide) (XS.dstore X19.here hx rfl (hb hby at_98) rfl (l' := #[.val (.int v0), .val (.int v1), .val (.int v2), .val (.int v3), .val (.int v4), .val (.int v5), .val (.int gv), .val (.int tv), .val (.int mv), .val (.ref b), .val (.double f), .second, .val (.long ((gv.toInt64) + (tv.toInt64))), .second, .val (.double (0 : UInt64)), .second, .unset]) rfl k))))
    exact hfin _ (F1 hs) R34
  · skip
    have R35 : OGo p.tables e below S0 (T19.setTop (mkF m 94 #[.val (.int v0), .val (.int v1), .val (.int v2), .val (.int v3), .val (.int v4), .val (.int v5), .val (.int gv), .val (.int tv), .val (.int mv), .val (.ref b), .val (.double f), .second, .val (.long ((gv.toInt64) + (tv.toInt64))), .second, .unset, .unset, .unset] [(.double (FP.l2d ((200 : Int64) * (mv.toInt64))))])) := fun t k => R23 t (XS.ifYes X19.here hx rfl (pc0 := 79) (pc' := 86) rfl (hb hby at_79) rfl ((if0 _ _).trans (feq (own_lcn hs)).2) (by decide) (by decide) (X19.ldc2Long hx hown (mvT hZ (own_q hw 41 rfl)) (g := (mkF m 86 #[.val (.int v0), .val (.int v1), .val (.int v2), .val (.int v3), .val (.int v4), .val (.int v5), .val (.int gv), .val (.int tv), .val (.int mv), .val (.ref b), .val (.double f), .second, .val (.long ((gv.toInt64) + (tv.toInt64))), .second, .unset, .unset, .unset] [])) rfl (hb hby at_86) t (XS.iload X19.here hx rfl (hb hby at_89) rfl (XS.i2l X19.here hx rfl (hb hby at_91) rfl (XS.lmul X19.here hx rfl (hb hby at_92) rfl (XS.l2dS X19.here hx rfl (hb hby at_93) rfl rfl k))))))
    have R36 : OGo p.tables e below S0 (T19.setTop (mkF m 100 #[.val (.int v0), .val (.int v1), .val (.int v2), .val (.int v3), .val (.int v4), .val (.int v5), .val (.int gv), .val (.int tv), .val (.int mv), .val (.ref b), .val (.double f), .second, .val (.long ((gv.toInt64) + (tv.toInt64))), .second, .val (.double (FP.ddiv (FP.l2d ((200 : Int64) * (mv.toInt64))) (FP.l2d ((gv.toInt64) + (tv.toInt64))))), .second, .unset] [])) := fun t k => R35 t (XS.lload X19.here hx rfl (hb hby at_94) rfl (XS.l2dS X19.here hx rfl (hb hby at_96) rfl rfl (XS.ddivS X19.here hx rfl (hb hby at_97) rfl (F2 hs).2 rfl (XS.dstore X19.here hx rfl (hb hby at_98) rfl (l' := #[.val (.int v0), .val (.int v1), .val (.int v2), .val (.int v3), .val (.int v4), .val (.int v5), .val (.int gv), .val (.int tv), .val (.int mv), .val (.ref b), .val (.double f), .second, .val (.long ((gv.toInt64) + (tv.toInt64))), .second, .val (.double (FP.ddiv (FP.l2d ((200 : Int64) * (mv.toInt64))) (FP.l2d ((gv.toInt64) + (tv.toInt64))))), .second, .unset]) rfl k))))
    exact hfin _ (F2 hs).1 R36
set_option maxRecDepth 65536 in
set_option maxHeartbeats 40000000 in
theorem comes_1 {Post : Tables → Env → Array Value → State → Outcome → State → Prop} (hpost : ∀ tb e args s v u, (limb_1_1.after args s (.returned v) u = true ∧ limb_1_2.after args s (.returned v) u = true ∧ True) → FrameEnd s (.returned v) u (Jvm.fieldLocs frame_1_writes args s ++ Jvm.arrayLocs frame_1_arrays args s ++ Jvm.staticLocs frame_1_statics s) 16 128 → Post tb e args s (.returned v) u) :
    ArmFor flags0 classFile x code maxLocals ret World_1 tables_1 room_1 Calls_1 rest_1 Pre_1 Post := by
  intro l hfl _ _ p e ha hc hk s m args below hf hA hF happ hP
  obtain ⟨hcalls, hrest, hpre⟩ := hP
  obtain ⟨-, -, -, hnamed, -, -, -, hat⟩ := (Spec.applies_iff hf).mp happ
  obtain ⟨hg, hn⟩ := and_e (Cond.before_iff.mp (show (Jvm.Cond.and given_1 narrow_1).before args s = true from hpre))
  obtain ⟨h1, h2⟩ := and_e hg
  obtain ⟨w0, w1, w2, w3, w4, w5, rfl⟩ : ∃ w0 w1 w2 w3 w4 w5 : Value, args = #[w0, w1, w2, w3, w4, w5] := by
    have hs : args.size = 6 := by simpa [Cond.value, given_1] using h1
    obtain ⟨L⟩ := args
    match L, hs with
    | [w0, w1, w2, w3, w4, w5], _ => exact ⟨w0, w1, w2, w3, w4, w5, rfl⟩
  have hw := fun d (hd : d ∈ tables_1) => atoms_spec (ws := Jvm.Cond.code x code maxLocals ret :: tables_1) hat d (List.mem_cons_of_mem _ hd)
  obtain ⟨g0, h2⟩ := and_e h2
  obtain ⟨g1, h2⟩ := and_e h2
  obtain ⟨g2, h2⟩ := and_e h2
  obtain ⟨g3, h2⟩ := and_e h2
  obtain ⟨g4, g5⟩ := and_e h2
  obtain ⟨i0, e0⟩ := is_v g0
  obtain rfl : w0 = (.int i0) := Option.some.inj e0
  obtain ⟨i1, e1⟩ := is_v g1
  obtain rfl : w1 = (.int i1) := Option.some.inj e1
  obtain ⟨i2, e2⟩ := is_v g2
  obtain rfl : w2 = (.int i2) := Option.some.inj e2
  obtain ⟨i3, e3⟩ := is_v g3
  obtain rfl : w3 = (.int i3) := Option.some.inj e3
  obtain ⟨i4, e4⟩ := is_v g4
  obtain rfl : w4 = (.int i4) := Option.some.inj e4
  obtain ⟨i5, e5⟩ := is_v g5
  obtain rfl : w5 = (.int i5) := Option.some.inj e5
  obtain ⟨n, o, h1, h2, h3, _, L, rfl, ⟨rfl, N, -⟩, hq⟩ := own_rm0 l s _ hw s.heap.size s.heap (Nat.le_refl _) i0 i1 i2 i3 i4 i5 p e ha hc hk s m _ below hf ((Spec.applies_iff_loose hf).mp happ).1 ⟨rfl, State.Warmed39.refl s, rfl⟩ trivial
  refine ⟨n, _, h1, h2, h3, hpost _ _ _ _ _ _ ⟨Cond.after_iff.mpr rfl, Cond.after_iff.mpr (eq_i res_at (Term.int_eval (1)) rfl), trivial⟩ ⟨hq.1, hq.2.1, (hq.2.2.sift fun y hy => Or.inr (N y hy)).mono (by decide) (by decide)⟩⟩
theorem main_1_1 : Claimed_1_1 := comes_1 fun _ _ _ _ _ _ h hF => ⟨h.1, hF⟩
theorem main_1_2 : Claimed_1_2 := comes_1 fun _ _ _ _ _ _ h hF => ⟨h.2.1, hF⟩
end Jvm.Pilot.@@N@@
namespace Jvm.Pilot.@@N@@
open Jvm Jvm.ClassFile Sem Op Lib Jvm.Free Jvm.Stand Jvm.Pilot.@@N@@.Jvm.D
/-! MADE BY PROGRAM (witnessworld.py) out of the Statement's table words and the real class files: 11 classes; the members and pool entries that the words name. The judged class is class 1, her method 1. -/
namespace start1
open Jvm.ClassFile
def u (s : String) : CpInfo := .utf8 (stringToUtf16 s)
/-- a pool by its gaps: so many unusable entries, then the entry; so many at the end -/
def gap : Nat → List CpInfo → List CpInfo
  | 0, r => r
  | n + 1, r => .unusable :: gap n r
def poolList (es : List (Nat × CpInfo)) (last : Nat) : List CpInfo := es.foldr (fun e r => gap e.1 (e.2 :: r)) (gap last [])
def pool (es : List (Nat × CpInfo)) (last : Nat) : Array CpInfo := ⟨poolList es last⟩
def fileOf (pool : Array CpInfo) (this : Nat) (attrs : Array Attribute := #[]) (ms : Array MethodInfo := #[]) (fl : Nat := 33) (sup : Nat := 0) (ifs : Array Nat := #[]) (fds : Array FieldInfo := #[]) : ClassFile where
  minorVersion := 0
  majorVersion := 65
  constantPool := pool
  accessFlags := fl
  thisClass := this
  superClass := sup
  interfaces := ifs
  fields := fds
  methods := ms
  attributes := attrs
def plain (name : String) (sup : Option ClassId) : Class where
  name := name
  kind := .ordinary
  loader := none
  accessFlags := 33
  super := sup
  interfaces := #[]
  cf := none
  fields := #[]
  methods := #[]
  instanceTypes := #[]
  staticTypes := #[]
  resolved := #[]
  callSites := []
  init := .initialized
  statics := none
  mirror := none

def pool0 : Array CpInfo := pool [(5, u "<init>"), (0, u "()V"), (1, .class_ 10), (1, u "java/lang/Object")] 113

def k0c0 : Code := { maxStack := 0, maxLocals := 1, code := object_method_1_code, exceptionTable := #[], attributes := #[] }
def k0m0 : Method := { name := "<init>", desc := "()V", sig := { parameters := [], returnType := none }, accessFlags := 1, code := some k0c0 }
/-- java/lang/Object -/
def k0 : Class := { plain "java/lang/Object" none with
  accessFlags := 33
  interfaces := #[]
  cf := some (fileOf pool0 8 #[] #[{ accessFlags := 1, nameIndex := 5, descriptorIndex := 6, attributes := #[] }] 33 0 #[] #[])
  fields := #[]
  methods := #[k0m0]
  instanceTypes := #[]
  staticTypes := #[]
  resolved := Array.replicate 124 none
  statics := none }

def pool1 : Array CpInfo := pool [(2, .class_ 4), (1, u "java/lang/Object"), (0, u "<init>"), (0, u "()V"), (0, .integer 1073741823), (0, .integer 2147483647), (0, .methodref 10 11), (0, .class_ 12), (0, .nameAndType 13 14), (0, u "java/lang/Math"), (0, u "min"), (0, u "(II)I"), (0, .class_ 16), (0, u "com/example/boughsplit/boughsplit/service/BracketScorer$Counts"), (0, .methodref 15 18), (0, .nameAndType 5 19), (0, u "(IIIIII)V"), (0, .methodref 15 21), (0, .nameAndType 22 23), (0, u "f1"), (0, u "()D"), (0, .long 200), (1, .double 4636737291354636288), (1, .methodref 15 29), (0, .nameAndType 30 23), (0, u "precision"), (0, .methodref 15 32), (0, .nameAndType 33 23), (0, u "recall"), (0, .class_ 35), (0, u "com/example/boughsplit/boughsplit/service/CountsF1PinLaw"), (2, u "law"), (0, u "(IIIIII)Z")] 7

def k1m0 : Method := { name := "<init>", desc := "()V", sig := { parameters := [], returnType := none }, accessFlags := 1, code := none }
def k1c1 : Code := { maxStack := 8, maxLocals := 17, code := code, exceptionTable := #[], attributes := #[] }
def k1m1 : Method := { name := "law", desc := "(IIIIII)Z", sig := { parameters := [.int, .int, .int, .int, .int, .int], returnType := some .boolean }, accessFlags := 9, code := some k1c1 }
/-- com/example/boughsplit/boughsplit/service/CountsF1PinLaw -/
def k1 : Class := { plain "com/example/boughsplit/boughsplit/service/CountsF1PinLaw" (some 0) with
  accessFlags := 49
  interfaces := #[]
  cf := some (fileOf pool1 34 #[] #[{ accessFlags := 1, nameIndex := 5, descriptorIndex := 6, attributes := #[] }, { accessFlags := 9, nameIndex := 38, descriptorIndex := 39, attributes := #[] }] 49 2 #[] #[])
  fields := #[]
  methods := #[k1m0, k1m1]
  instanceTypes := #[]
  staticTypes := #[]
  resolved := Array.replicate 47 none
  statics := none }

def pool2 : Array CpInfo := pool [(1, .class_ 2), (0, u "java/lang/Math"), (1, .class_ 6), (1, u "java/lang/Object"), (0, u "<init>"), (0, u "()V"), (89, .class_ 100), (1, u "java/lang/Math$RandomNumberGeneratorHolder"), (71, u "negativeZeroFloatBits"), (0, u "J"), (2, u "negativeZeroDoubleBits"), (24, u "min"), (43, u "$assertionsDisabled"), (0, u "Z"), (88, u "(II)I"), (2, u "twoToTheDoubleScaleDown"), (0, u "D"), (4, u "twoToTheDoubleScaleUp"), (9, u "E"), (3, u "PI"), (2, u "TAU"), (2, u "DEGREES_TO_RADIANS"), (0, u "RADIANS_TO_DEGREES")] 94

def k2m0 : Method := { name := "<init>", desc := "()V", sig := { parameters := [], returnType := none }, accessFlags := 2, code := none }
def k2c1 : Code := { maxStack := 2, maxLocals := 2, code := jdk_29_method_69_code, exceptionTable := #[], attributes := #[] }
def k2m1 : Method := { name := "min", desc := "(II)I", sig := { parameters := [.int, .int], returnType := some .int }, accessFlags := 9, code := some k2c1 }
/-- java/lang/Math -/
def k2 : Class := { plain "java/lang/Math" (some 0) with
  accessFlags := 49
  interfaces := #[]
  cf := some (fileOf pool2 1 #[.nestMembers #[98]] #[{ accessFlags := 2, nameIndex := 7, descriptorIndex := 8, attributes := #[] }, { accessFlags := 9, nameIndex := 201, descriptorIndex := 335, attributes := #[] }] 49 4 #[] #[{ accessFlags := 25, nameIndex := 354, descriptorIndex := 339, attributes := #[] }, { accessFlags := 25, nameIndex := 358, descriptorIndex := 339, attributes := #[] }, { accessFlags := 25, nameIndex := 361, descriptorIndex := 339, attributes := #[] }, { accessFlags := 26, nameIndex := 364, descriptorIndex := 339, attributes := #[] }, { accessFlags := 26, nameIndex := 365, descriptorIndex := 339, attributes := #[] }, { accessFlags := 26, nameIndex := 172, descriptorIndex := 173, attributes := #[] }, { accessFlags := 26, nameIndex := 176, descriptorIndex := 173, attributes := #[] }, { accessFlags := 8, nameIndex := 344, descriptorIndex := 339, attributes := #[] }, { accessFlags := 8, nameIndex := 338, descriptorIndex := 339, attributes := #[] }, { accessFlags := 4120, nameIndex := 245, descriptorIndex := 246, attributes := #[] }])
  fields := #[{ name := "E", type := .double, accessFlags := 25, slot := 0, constantValue := 0 }, { name := "PI", type := .double, accessFlags := 25, slot := 1, constantValue := 0 }, { name := "TAU", type := .double, accessFlags := 25, slot := 2, constantValue := 0 }, { name := "DEGREES_TO_RADIANS", type := .double, accessFlags := 26, slot := 3, constantValue := 0 }, { name := "RADIANS_TO_DEGREES", type := .double, accessFlags := 26, slot := 4, constantValue := 0 }, { name := "negativeZeroFloatBits", type := .long, accessFlags := 26, slot := 5, constantValue := 0 }, { name := "negativeZeroDoubleBits", type := .long, accessFlags := 26, slot := 6, constantValue := 0 }, { name := "twoToTheDoubleScaleUp", type := .double, accessFlags := 8, slot := 7, constantValue := 0 }, { name := "twoToTheDoubleScaleDown", type := .double, accessFlags := 8, slot := 8, constantValue := 0 }, { name := "$assertionsDisabled", type := .boolean, accessFlags := 4120, slot := 9, constantValue := 0 }]
  methods := #[k2m0, k2m1]
  instanceTypes := #[]
  staticTypes := #[.double, .double, .double, .double, .double, .long, .long, .double, .double, .boolean]
  resolved := Array.replicate 460 none
  statics := none }

def pool3 : Array CpInfo := pool [(1, .methodref 2 3), (0, .class_ 4), (0, .nameAndType 5 6), (0, u "java/lang/Object"), (0, u "<init>"), (0, u "()V"), (0, .class_ 8), (0, u "java/lang/Record")] 13

def k3c0 : Code := { maxStack := 1, maxLocals := 1, code := jdk_30_method_1_code, exceptionTable := #[], attributes := #[] }
def k3m0 : Method := { name := "<init>", desc := "()V", sig := { parameters := [], returnType := none }, accessFlags := 4, code := some k3c0 }
/-- java/lang/Record -/
def k3 : Class := { plain "java/lang/Record" (some 0) with
  accessFlags := 1057
  interfaces := #[]
  cf := some (fileOf pool3 7 #[] #[{ accessFlags := 4, nameIndex := 5, descriptorIndex := 6, attributes := #[] }] 1057 2 #[] #[])
  fields := #[]
  methods := #[k3m0]
  instanceTypes := #[]
  staticTypes := #[]
  resolved := Array.replicate 22 none
  statics := none }

def pool4 : Array CpInfo := pool [(1, .methodref 2 3), (0, .class_ 4), (0, .nameAndType 5 6), (0, u "java/lang/Record"), (0, u "<init>"), (0, u "()V"), (0, .fieldref 8 9), (0, .class_ 10), (0, .nameAndType 11 12), (0, u "com/example/boughsplit/boughsplit/service/BracketScorer$Counts"), (0, u "trees"), (0, u "I"), (0, .fieldref 8 14), (0, .nameAndType 15 12), (0, u "goldBrackets"), (0, .fieldref 8 17), (0, .nameAndType 18 12), (0, u "testBrackets"), (0, .fieldref 8 20), (0, .nameAndType 21 12), (0, u "matched"), (0, .fieldref 8 23), (0, .nameAndType 24 12), (0, u "words"), (0, .fieldref 8 26), (0, .nameAndType 27 12), (0, u "correctTags"), (2, u "(IIIIII)V"), (0, .methodref 8 32), (0, .nameAndType 33 34), (0, u "percentage"), (0, u "(II)D"), (0, .double 4636737291354636288), (15, u "NONE"), (0, u "Lcom/example/boughsplit/boughsplit/service/BracketScorer$Counts;"), (5, u "precision"), (0, u "()D"), (0, u "recall"), (0, u "f1"), (9, .class_ 72), (0, u "com/example/boughsplit/boughsplit/service/BracketScorer")] 24

def k4c0 : Code := { maxStack := 2, maxLocals := 7, code := prog_33_method_1_code, exceptionTable := #[], attributes := #[] }
def k4m0 : Method := { name := "<init>", desc := "(IIIIII)V", sig := { parameters := [.int, .int, .int, .int, .int, .int], returnType := none }, accessFlags := 1, code := some k4c0 }
def k4c1 : Code := { maxStack := 2, maxLocals := 1, code := prog_33_method_3_code, exceptionTable := #[], attributes := #[] }
def k4m1 : Method := { name := "precision", desc := "()D", sig := { parameters := [], returnType := some .double }, accessFlags := 1, code := some k4c1 }
def k4c2 : Code := { maxStack := 2, maxLocals := 1, code := prog_33_method_4_code, exceptionTable := #[], attributes := #[] }
def k4m2 : Method := { name := "recall", desc := "()D", sig := { parameters := [], returnType := some .double }, accessFlags := 1, code := some k4c2 }
def k4c3 : Code := { maxStack := 3, maxLocals := 1, code := prog_33_method_5_code, exceptionTable := #[], attributes := #[] }
def k4m3 : Method := { name := "f1", desc := "()D", sig := { parameters := [], returnType := some .double }, accessFlags := 1, code := some k4c3 }
def k4c4 : Code := { maxStack := 4, maxLocals := 2, code := prog_33_method_7_code, exceptionTable := #[], attributes := #[] }
def k4m4 : Method := { name := "percentage", desc := "(II)D", sig := { parameters := [.int, .int], returnType := some .double }, accessFlags := 10, code := some k4c4 }
/-- com/example/boughsplit/boughsplit/service/BracketScorer$Counts -/
def k4 : Class := { plain "com/example/boughsplit/boughsplit/service/BracketScorer$Counts" (some 3) with
  accessFlags := 49
  interfaces := #[]
  cf := some (fileOf pool4 8 #[.nestHost 71] #[{ accessFlags := 1, nameIndex := 5, descriptorIndex := 30, attributes := #[] }, { accessFlags := 1, nameIndex := 58, descriptorIndex := 59, attributes := #[] }, { accessFlags := 1, nameIndex := 60, descriptorIndex := 59, attributes := #[] }, { accessFlags := 1, nameIndex := 61, descriptorIndex := 59, attributes := #[] }, { accessFlags := 10, nameIndex := 33, descriptorIndex := 34, attributes := #[] }] 49 2 #[] #[{ accessFlags := 18, nameIndex := 11, descriptorIndex := 12, attributes := #[] }, { accessFlags := 18, nameIndex := 15, descriptorIndex := 12, attributes := #[] }, { accessFlags := 18, nameIndex := 18, descriptorIndex := 12, attributes := #[] }, { accessFlags := 18, nameIndex := 21, descriptorIndex := 12, attributes := #[] }, { accessFlags := 18, nameIndex := 24, descriptorIndex := 12, attributes := #[] }, { accessFlags := 18, nameIndex := 27, descriptorIndex := 12, attributes := #[] }, { accessFlags := 25, nameIndex := 51, descriptorIndex := 52, attributes := #[] }])
  fields := #[{ name := "trees", type := .int, accessFlags := 18, slot := 0, constantValue := 0 }, { name := "goldBrackets", type := .int, accessFlags := 18, slot := 1, constantValue := 0 }, { name := "testBrackets", type := .int, accessFlags := 18, slot := 2, constantValue := 0 }, { name := "matched", type := .int, accessFlags := 18, slot := 3, constantValue := 0 }, { name := "words", type := .int, accessFlags := 18, slot := 4, constantValue := 0 }, { name := "correctTags", type := .int, accessFlags := 18, slot := 5, constantValue := 0 }, { name := "NONE", type := (.object "com/example/boughsplit/boughsplit/service/BracketScorer$Counts"), accessFlags := 25, slot := 0, constantValue := 0 }]
  methods := #[k4m0, k4m1, k4m2, k4m3, k4m4]
  instanceTypes := #[.int, .int, .int, .int, .int, .int]
  staticTypes := #[(.object "com/example/boughsplit/boughsplit/service/BracketScorer$Counts")]
  resolved := Array.replicate 97 none
  statics := none }

def pool5 : Array CpInfo := pool [(1, u "java/lang/Cloneable"), (0, .class_ 1), (0, u "java/lang/Object"), (0, .class_ 3)] 3

/-- java/lang/Cloneable -/
def k5 : Class := { plain "java/lang/Cloneable" (some 0) with
  accessFlags := 1537
  interfaces := #[]
  cf := some (fileOf pool5 2 #[] #[] 1537 4 #[] #[])
  fields := #[]
  methods := #[]
  instanceTypes := #[]
  staticTypes := #[]
  resolved := Array.replicate 8 none
  statics := none }

def pool6 : Array CpInfo := pool [(1, u "java/io/Serializable"), (0, .class_ 1), (0, u "java/lang/Object"), (0, .class_ 3)] 3

/-- java/io/Serializable -/
def k6 : Class := { plain "java/io/Serializable" (some 0) with
  accessFlags := 1537
  interfaces := #[]
  cf := some (fileOf pool6 2 #[] #[] 1537 4 #[] #[])
  fields := #[]
  methods := #[]
  instanceTypes := #[]
  staticTypes := #[]
  resolved := Array.replicate 8 none
  statics := none }

/-- the primitive byte -/
def k7 : Class := { plain "byte" none with kind := .primitive 'B', accessFlags := 0x411 }
/-- [B -/
def k8 : Class := { plain "[B" (some 0) with kind := .array 7 .byte, interfaces := #[5, 6], accessFlags := 1041 }

/-- the primitive int -/
def k9 : Class := { plain "int" none with kind := .primitive 'I', accessFlags := 0x411 }
/-- [I -/
def k10 : Class := { plain "[I" (some 0) with kind := .array 9 .int, interfaces := #[5, 6], accessFlags := 1041 }

def heap : Heap := #[]
def classes : Array Class := #[k0, k1, k2, k3, k4, k5, k6, k7, k8, k9, k10]
def interned : List (Array UInt16 × Addr) := []
def slotsUsed : Nat := 0
def theMethod : MethodId := ⟨1, 1⟩
def args0 : Array Value := #[.int 3, .int 10, .int 8, .int 5, .int 2, .int 1]
def aboutOver (below : List Frame) : State where
  vm := { classes := classes, interned := interned.toArray }
  heap := heap
  slotsUsed := slotsUsed
  threads := #[{ frames := .invoking theMethod args0 :: below }]
def below0 : List Frame := [.native { method := ⟨0, 0⟩, args := #[] }]
def about1 : State := aboutOver below0
def p0 : Program := .bare "" "" ""
def e0 : Env := launch0.env 0 0 0
theorem w_frames : about1.frames = Frame.invoking theMethod args0 :: below0 := rfl
set_option maxRecDepth 65536 in
theorem w_args : argsFit about1.vm theMethod args0 = true := by decide +kernel
set_option maxRecDepth 65536 in
theorem w_heap : heapFits about1 = true := by decide +kernel
set_option maxRecDepth 65536 in
theorem w_runnable : about1.curStatus? = some .runnable := by decide +kernel
set_option maxRecDepth 65536 in
theorem w_alone : about1.alone = true := by decide +kernel
set_option maxRecDepth 65536 in
theorem w_named : about1.methodNamed? x = some theMethod := by decide +kernel
set_option maxRecDepth 65536 in
theorem w_hears : about1.hears theMethod below0 = true := by decide +kernel
set_option maxRecDepth 65536 in
theorem w_ripe : about1.ripe theMethod args0 below0 = true := by decide +kernel
theorem w_running : about1.status = .running := rfl
set_option maxRecDepth 65536 in
theorem w_room : about1.hasRoom e0.platform room_1 = true :=
  launch0.hasRoom_least _ room_1 (by decide +kernel) (by decide +kernel) (by decide +kernel) (by decide +kernel) (by decide +kernel) (by decide +kernel)
theorem allAtoms_all (ts : List Jvm.Cond) (a : Array Jvm.Value) (st : Jvm.State) : (allAtoms ts).before a st = ts.all (fun c => c.before a st) := by
  induction ts with
  | nil => rfl
  | cons c t ih =>
    show (Jvm.Cond.and c (allAtoms t)).before a st = _
    rw [Jvm.Cond.before_and, ih, List.all_cons]
def words1 : List Jvm.Cond := Jvm.Cond.code x code maxLocals ret :: tables_1
/-- a 'code' word, met by the world's own term for the bytes: nothing is compared byte by byte -/
theorem code_word {y : MethodName} {bytes : ByteArray} {mx : Nat} {rt : Option FieldType} {a : Array Value} {s : State} {m : MethodId} {meth : Method} {c : Code} (h1 : s.methodNamed? y = some m) (h2 : s.vm.method? m = some meth) (h3 : meth.code = some c) (h4 : c.code = bytes)
    (h5 : (c.maxLocals == mx && c.exceptionTable.isEmpty && decide (c.maxStack ≤ mostOperands) && decide (meth.sig.returnType = rt) && !meth.locks && decide (parseMethodDescriptor y.desc = some meth.sig)) = true) : (Jvm.Cond.code y bytes mx rt).before a s = true := by
  simp only [Bool.and_eq_true, beq_iff_eq, Bool.not_eq_true', decide_eq_true_eq] at h5
  obtain ⟨⟨⟨⟨⟨g1, g2⟩, g3⟩, g4⟩, g5⟩, g6⟩ := h5
  simp [Cond.before, Cond.holds, Cond.value, h1, h2, h3, h4, g1, g2, g3, g4, g5, g6]
def isCode : Jvm.Cond → Bool
  | .code _ _ _ _ => true
  | _ => false
theorem all_split {L : List Jvm.Cond} {P : Jvm.Cond → Bool} (h1 : L.all (fun c => isCode c || P c) = true) (h2 : ∀ c ∈ L.filter isCode, P c = true) : L.all P = true := by
  refine List.all_eq_true.mpr fun c hc => ?_
  have h := List.all_eq_true.mp h1 c hc
  rcases Bool.eq_false_or_eq_true (isCode c) with hi | hi
  · exact h2 c (List.mem_filter.mpr ⟨hc, hi⟩)
  · simpa [hi] using h
set_option maxRecDepth 65536 in
theorem w_c0 : (Jvm.Cond.code x code maxLocals ret).before args0 about1 = true := code_word (m := ⟨1, 1⟩) (meth := k1m1) (c := k1c1) (by decide +kernel) rfl rfl rfl (by decide +kernel)
set_option maxRecDepth 65536 in
theorem w_c1 : (Jvm.Cond.code ({ cls := "java/lang/Math", name := "min", desc := "(II)I" } : Jvm.MethodName) jdk_29_method_69_code (2 : Nat) (Option.some Jvm.ClassFile.FieldType.int)).before args0 about1 = true := code_word (m := ⟨2, 1⟩) (meth := k2m1) (c := k2c1) (by decide +kernel) rfl rfl rfl (by decide +kernel)
set_option maxRecDepth 65536 in
theorem w_c2 : (Jvm.Cond.code ({ cls := "com/example/boughsplit/boughsplit/service/BracketScorer$Counts", name := "<init>", desc := "(IIIIII)V" } : Jvm.MethodName) prog_33_method_1_code (7 : Nat) (Option.none : Option Jvm.ClassFile.FieldType)).before args0 about1 = true := code_word (m := ⟨4, 0⟩) (meth := k4m0) (c := k4c0) (by decide +kernel) rfl rfl rfl (by decide +kernel)
set_option maxRecDepth 65536 in
theorem w_c3 : (Jvm.Cond.code ({ cls := "java/lang/Record", name := "<init>", desc := "()V" } : Jvm.MethodName) jdk_30_method_1_code (1 : Nat) (Option.none : Option Jvm.ClassFile.FieldType)).before args0 about1 = true := code_word (m := ⟨3, 0⟩) (meth := k3m0) (c := k3c0) (by decide +kernel) rfl rfl rfl (by decide +kernel)
set_option maxRecDepth 65536 in
theorem w_c4 : (Jvm.Cond.code ({ cls := "java/lang/Object", name := "<init>", desc := "()V" } : Jvm.MethodName) object_method_1_code (1 : Nat) (Option.none : Option Jvm.ClassFile.FieldType)).before args0 about1 = true := code_word (m := ⟨0, 0⟩) (meth := k0m0) (c := k0c0) (by decide +kernel) rfl rfl rfl (by decide +kernel)
set_option maxRecDepth 65536 in
theorem w_c5 : (Jvm.Cond.code ({ cls := "com/example/boughsplit/boughsplit/service/BracketScorer$Counts", name := "f1", desc := "()D" } : Jvm.MethodName) prog_33_method_5_code (1 : Nat) (Option.some Jvm.ClassFile.FieldType.double)).before args0 about1 = true := code_word (m := ⟨4, 3⟩) (meth := k4m3) (c := k4c3) (by decide +kernel) rfl rfl rfl (by decide +kernel)
set_option maxRecDepth 65536 in
theorem w_c6 : (Jvm.Cond.code ({ cls := "com/example/boughsplit/boughsplit/service/BracketScorer$Counts", name := "percentage", desc := "(II)D" } : Jvm.MethodName) prog_33_method_7_code (2 : Nat) (Option.some Jvm.ClassFile.FieldType.double)).before args0 about1 = true := code_word (m := ⟨4, 4⟩) (meth := k4m4) (c := k4c4) (by decide +kernel) rfl rfl rfl (by decide +kernel)
set_option maxRecDepth 65536 in
theorem w_c7 : (Jvm.Cond.code ({ cls := "com/example/boughsplit/boughsplit/service/BracketScorer$Counts", name := "precision", desc := "()D" } : Jvm.MethodName) prog_33_method_3_code (1 : Nat) (Option.some Jvm.ClassFile.FieldType.double)).before args0 about1 = true := code_word (m := ⟨4, 1⟩) (meth := k4m1) (c := k4c1) (by decide +kernel) rfl rfl rfl (by decide +kernel)
set_option maxRecDepth 65536 in
theorem w_c8 : (Jvm.Cond.code ({ cls := "com/example/boughsplit/boughsplit/service/BracketScorer$Counts", name := "recall", desc := "()D" } : Jvm.MethodName) prog_33_method_4_code (1 : Nat) (Option.some Jvm.ClassFile.FieldType.double)).before args0 about1 = true := code_word (m := ⟨4, 2⟩) (meth := k4m2) (c := k4c2) (by decide +kernel) rfl rfl rfl (by decide +kernel)
def codes1 : List Jvm.Cond := [Jvm.Cond.code x code maxLocals ret, Jvm.Cond.code ({ cls := "java/lang/Math", name := "min", desc := "(II)I" } : Jvm.MethodName) jdk_29_method_69_code (2 : Nat) (Option.some Jvm.ClassFile.FieldType.int), Jvm.Cond.code ({ cls := "com/example/boughsplit/boughsplit/service/BracketScorer$Counts", name := "<init>", desc := "(IIIIII)V" } : Jvm.MethodName) prog_33_method_1_code (7 : Nat) (Option.none : Option Jvm.ClassFile.FieldType), Jvm.Cond.code ({ cls := "java/lang/Record", name := "<init>", desc := "()V" } : Jvm.MethodName) jdk_30_method_1_code (1 : Nat) (Option.none : Option Jvm.ClassFile.FieldType), Jvm.Cond.code ({ cls := "java/lang/Object", name := "<init>", desc := "()V" } : Jvm.MethodName) object_method_1_code (1 : Nat) (Option.none : Option Jvm.ClassFile.FieldType), Jvm.Cond.code ({ cls := "com/example/boughsplit/boughsplit/service/BracketScorer$Counts", name := "f1", desc := "()D" } : Jvm.MethodName) prog_33_method_5_code (1 : Nat) (Option.some Jvm.ClassFile.FieldType.double), Jvm.Cond.code ({ cls := "com/example/boughsplit/boughsplit/service/BracketScorer$Counts", name := "percentage", desc := "(II)D" } : Jvm.MethodName) prog_33_method_7_code (2 : Nat) (Option.some Jvm.ClassFile.FieldType.double), Jvm.Cond.code ({ cls := "com/example/boughsplit/boughsplit/service/BracketScorer$Counts", name := "precision", desc := "()D" } : Jvm.MethodName) prog_33_method_3_code (1 : Nat) (Option.some Jvm.ClassFile.FieldType.double), Jvm.Cond.code ({ cls := "com/example/boughsplit/boughsplit/service/BracketScorer$Counts", name := "recall", desc := "()D" } : Jvm.MethodName) prog_33_method_4_code (1 : Nat) (Option.some Jvm.ClassFile.FieldType.double)]
set_option maxRecDepth 65536 in
theorem codes_eq : words1.filter isCode = codes1 := rfl
theorem w_codes : ∀ c ∈ words1.filter isCode, c.before args0 about1 = true := by
  rw [codes_eq]
  intro c hc
  simp only [codes1, List.mem_cons, List.not_mem_nil, or_false] at hc
  rcases hc with rfl | rfl | rfl | rfl | rfl | rfl | rfl | rfl | rfl
  · exact w_c0
  · exact w_c1
  · exact w_c2
  · exact w_c3
  · exact w_c4
  · exact w_c5
  · exact w_c6
  · exact w_c7
  · exact w_c8
set_option maxRecDepth 65536 in
theorem w_t1 : (words1.take 24).all (fun c => isCode c || c.before args0 about1) = true := by decide +kernel
set_option maxRecDepth 65536 in
theorem w_t2 : ((words1.drop 24).take 24).all (fun c => isCode c || c.before args0 about1) = true := by decide +kernel
set_option maxRecDepth 65536 in
theorem w_t3 : ((words1.drop 24).drop 24).all (fun c => isCode c || c.before args0 about1) = true := by decide +kernel
theorem w_tables : (allAtoms (Jvm.Cond.code x code maxLocals ret :: tables_1)).before args0 about1 = true := by
  rw [allAtoms_all]
  show words1.all (fun c => c.before args0 about1) = true
  refine all_split ?_ w_codes
  rw [← List.take_append_drop 24 words1, List.all_append, w_t1, ← List.take_append_drop 24 (words1.drop 24), List.all_append, w_t2, w_t3]
  rfl
set_option maxRecDepth 65536 in
theorem w_case : (Jvm.Cond.and given_1 narrow_1).before args0 about1 = true := by decide +kernel
theorem w_applies : (headSpec (Jvm.Cond.code x code maxLocals ret :: tables_1) room_1).applies x e0.platform about1 = true :=
  (Spec.applies_iff w_frames).mpr ⟨w_running, w_runnable, w_alone, w_named, w_hears, w_ripe, w_room, w_tables⟩
theorem atStart : AtStart classFile x code maxLocals ret World_1 tables_1 room_1 Calls_1 rest_1 Pre_1 launch0 p0 e0 about1 theMethod args0 below0 :=
  ⟨lists_1, trivial, launch0.admits_env _ _ _, launch0.least_env, fairChoices_fair.cas, fairChoices_fair.clock, w_frames, w_args, w_heap, w_applies, trivial, trivial, w_case⟩
end start1
theorem witness_1 : WitnessClaimed_1 := ⟨start1.p0, start1.e0, start1.about1, start1.theMethod, start1.args0, start1.below0, start1.atStart⟩
end Jvm.Pilot.@@N@@
