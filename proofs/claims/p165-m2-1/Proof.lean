import JvmDerived
import JvmDerived.Pilot.@@N@@Statement
import JvmDerived.Pilot.@@N@@Code
set_option linter.unusedVariables false
set_option linter.unusedSimpArgs false
namespace Jvm.RoadKit
open Sem ClassFile Op Lib Jvm.Stand Jvm.Free Jvm.LawKit
section New
variable {p : Program} {l : Launch} {e : Env} {R : Room} {s : State} {m : MethodId} {args : Array Value} {below : List Frame} {meth : Method} {c : Code} {T : State} {locs : List Loc} {cells slots : Nat}
theorem retI (X : Stand p l e R s m args below meth c T locs cells slots) (hx : p.tables.exec = Jvm.exec) {pc : Nat} {Ls : Array Slot} {z : Int32} {rest : List Value} (hret : meth.sig.returnType = some .int) (hd : decode c.code pc = .ok (.ireturn, 1)) {fs : List Frame}
    (hl : ∀ (f : JFrame) (acts : List Action), f.method = m → f.locked = none → f.entered = [] → (doReturn e (T.setTop f) acts (some (.int z))).1 = T.setFrames fs) : Steps p.tables e below (T.setTop (mkF m pc Ls (.int z :: rest))) (T.setFrames fs) := by
  have hm' : T.vm.method? m = some meth := X.method'
  have hn : narrow .int (.int z) = .int z := rfl
  show Steps p.tables e below (T.setTop { method := m, pc := pc, locals := Ls, stack := _ :: rest, locked := none }) _
  jvm_step X.here [X.here.top, hx, hd, hm', hret, hn]
  first | (intro acts; rw [hl _ acts rfl rfl rfl]) | rw [hl _ _ rfl rfl rfl]
  exact Steps.refl _
end New
end Jvm.RoadKit
namespace Jvm.Pilot.@@N@@
open Jvm Jvm.ClassFile Sem Op Lib Jvm.Free Jvm.Stand Jvm.LawKit Jvm.RoadKit Bundle Jvm.Pilot.@@N@@.Jvm.D
/-! ### the frame of this text: 'Ends': the run from u ends in a return that Q says -/
section OwnFrame
variable {p : Program} {l : Launch} {e : Env} {R : Room} {s : State} {m : MethodId} {args : Array Value} {below : List Frame} {meth : Method} {c : Code} {T : State} {locs : List Loc} {cells slots cs ss : Nat} {Z : State} {a0 : Array Value} {h h' : Heap} {Q : Option Value → Heap → List Loc → Prop} {u u' : State}
def Ends (p : Program) (e : Env) (below : List Frame) (s : State) (cs ss : Nat) (Q : Option Value → Heap → List Loc → Prop) (u : State) : Prop :=
  ∃ t v L, Steps p.tables e below u t ∧ t.status = .running ∧ Ended t below (.returned v) ∧ Q v t.heap L ∧ s.WarmedH t.vm ∧ s.sameButNew ({ t with vm := s.vm } : State) L cs ss
theorem Ends.step (h : Ends p e below s cs ss Q u') (k : ∀ t, Steps p.tables e below u' t → Steps p.tables e below u t) : Ends p e below s cs ss Q u := by
  obtain ⟨t, v, L, h1, r⟩ := h; exact ⟨t, v, L, k t h1, r⟩
theorem Ends.ret (X : Stand p l e R s m args below meth c T locs cells slots) {v : Option Value} (hv : meth.sig.returnType = none → v = none) (hlk : meth.locks = false)
    (k : ∀ fs, (∀ (f : JFrame) (acts : List Action), f.method = m → f.locked = none → f.entered = [] → (doReturn e (T.setTop f) acts v).1 = T.setFrames fs) → Steps p.tables e below u (T.setFrames fs))
    (hc : cells ≤ cs) (hs : slots ≤ ss) (hq : Q v T.heap locs) : Ends p e below s cs ss Q u := by
  obtain ⟨fs, hr, hrun, hended, hW, hsame⟩ := X.leave (v := v) hv hlk
  exact ⟨T.setFrames fs, v, locs, k fs hr, hrun, hended, hq, hW, hsame.mono hc hs⟩
/-- what a body promises -/
abbrev Meets (l : Launch) (Z : State) (y : MethodName) (bytes : ByteArray) (maxL : Nat) (ret : Option FieldType) (ws : List Jvm.Cond) (rm : Room) (as' : Array Value) (h : Heap) (Q : Option Value → Heap → List Loc → Prop) (cs ss : Nat) : Prop :=
  MetFree l y (head1 (Jvm.Cond.code y bytes maxL ret :: ws) rm) (fun a U => a = as' ∧ Z.Warmed39 U.vm ∧ U.heap = h) (fun _ _ _ _ _ => True) (fun _ U o U' => ∃ v L, o = .returned v ∧ Q v U'.heap L ∧ FrameEnd U o U' L cs ss)
theorem Meets.of {y : MethodName} {bytes : ByteArray} {maxL : Nat} {ret : Option FieldType} {ws : List Jvm.Cond} {rm : Room} {as' : Array Value} (pn : plainName y.cls = true)
    (k : ∀ (p : Program) (e : Env) (s : State) (m : MethodId) (below : List Frame) (meth : Method) (c : Code) (s₁ : State), p.tables.exec = Jvm.exec → c.code = bytes → c.maxLocals = maxL → Z.Warmed39 s.vm → s.vm.findClass y.cls = some m.cls → meth.name = y.name → meth.sig.returnType = ret → meth.locks = false →
      Stand p l e rm s m as' below meth c s₁ [] 0 0 → s₁.heap = h → Ends p e below s cs ss Q (s₁.setTop (entryFrame m as' maxL))) : Meets l Z y bytes maxL ret ws rm as' h Q cs ss := by
  refine MetFree.of_bodySF (plainFor_of_name pn) hisR ?_
  intro p e s m args below meth c s₁ Bd hml0 hP hK
  obtain ⟨rfl, hZ, hh⟩ := hP
  obtain ⟨t, v, L, h1, h2, h3, h4, h5, h6⟩ := k p e s m below meth c s₁ Bd.exec Bd.bytes hml0 hZ (findClass_of_methodNamed Bd.named) (name_of_methodNamed Bd.named Bd.method).1 Bd.returns (BodyLoose.notSynchronized Bd) (Stand.of_body Bd) (by rw [← hh, Bd.state]; rfl)
  exact ⟨t, .returned v, h1, h2, h3, v, L, rfl, h4, ⟨_, rfl⟩, h5, h6⟩
theorem Ends.callS (X : Stand p l e R s m args below meth c T locs cells slots) (hx : p.tables.exec = Jvm.exec) (hZ : Z.Warmed39 s.vm) {own : String} {index : Nat} {y : MethodName} {bytes : ByteArray} {maxL : Nat} {ret : Option FieldType}
    (hown : s.vm.findClass own = some m.cls) (w1 : (Jvm.Cond.methodLink own index y).before a0 Z = true) (w2 : (Jvm.Cond.static y).before a0 Z = true) (w3 : (Jvm.Cond.initialized y.cls).before a0 Z = true) (w4 : (Jvm.Cond.code y bytes maxL ret).before a0 Z = true)
    (hy : y.cls ≠ "java/lang/invoke/MethodHandle" ∧ y.cls ≠ "java/lang/invoke/VarHandle") {rm : Room} {as' : Array Value} {Q' : Option Value → Heap → List Loc → Prop} (hM : Meets l Z y bytes maxL ret [] rm as' h Q' rm.cells rm.slots)
    (W : Nat) (hf : rm.frames + 1 ≤ R.frames) (hl : W + (maxL + 11) + rm.locals ≤ R.locals) (eT : T.heap = h) {g : JFrame} (hg : g.method = m) (hsize : g.locals.size = c.maxLocals) (argsL rest : List Value)
    (hlen : ∀ sig, parseMethodDescriptor y.desc = some sig → argsL.length = sig.parameters.length) (hstack : g.stack = argsL.reverse ++ rest) (hW : 2 * g.monitorRoom + (rest.map fun v => v.category).sum ≤ W) (hdg : decode c.code g.pc = .ok (.invokestatic index, 3))
    (ha : argsL.toArray = as') (hc : cells + rm.cells ≤ R.cells) (hs : slots + rm.slots ≤ R.slots)
    (k : ∀ v T' L, Stand p l e R s m args below meth c T' (locs ++ L) (cells + rm.cells) (slots + rm.slots) → Q' v T'.heap L → Ends p e below s cs ss Q (T'.setTop { g with pc := g.pc + 3, stack := v.toList ++ rest })) : Ends p e below s cs ss Q (T.setTop g) := by
  obtain ⟨v, _, ⟨T', L', k', n'⟩, -, X', ⟨Lc, hQ, rfl, rfl, rfl⟩, st⟩ := Jvm.LawKit.callS X hx (y := y) hown (mvT hZ w1) (mvT hZ w2) (mvT hZ w3) (mvT hZ w4) hy (backOf (W := W) hM hZ w4 w3 hf hl) hg hsize (argsL := argsL) (rest := rest) hlen hstack hW hdg (fun _ _ => ⟨ha, eT, hc, hs⟩)
  exact (k v T' Lc X' hQ).step st
theorem Ends.callC (X : Stand p l e R s m args below meth c T locs cells slots) (hx : p.tables.exec = Jvm.exec) (hZ : Z.Warmed39 s.vm) {own : String} {index : Nat} {y : MethodName} {bytes : ByteArray} {maxL : Nat} (hy1 : y.name = "<init>")
    (hown : s.vm.findClass own = some m.cls) (w1 : (Jvm.Cond.methodLink own index y).before a0 Z = true) (w2 : (Jvm.Cond.instanceMethod y).before a0 Z = true) (w3 : (Jvm.Cond.initialized y.cls).before a0 Z = true) (w4 : (Jvm.Cond.code y bytes maxL none).before a0 Z = true)
    (hy : y.cls ≠ "java/lang/invoke/MethodHandle" ∧ y.cls ≠ "java/lang/invoke/VarHandle") {rm : Room} {as' : Array Value} {Q' : Option Value → Heap → List Loc → Prop} (hM : Meets l Z y bytes maxL none [] rm as' h Q' rm.cells rm.slots)
    (W : Nat) (hf : rm.frames + 1 ≤ R.frames) (hl : W + (maxL + 11) + rm.locals ≤ R.locals) (eT : T.heap = h) {g : JFrame} (hg : g.method = m) (hsize : g.locals.size = c.maxLocals) (a : Addr) (argsL rest : List Value)
    (hlen : ∀ sig, parseMethodDescriptor y.desc = some sig → argsL.length = sig.parameters.length) (hstack : g.stack = argsL.reverse ++ .ref a :: rest) (hW : 2 * g.monitorRoom + (rest.map fun v => v.category).sum ≤ W) (hdg : decode c.code g.pc = .ok (.invokespecial index, 3))
    (ha : (.ref a :: argsL).toArray = as') (hc : cells + rm.cells ≤ R.cells) (hs : slots + rm.slots ≤ R.slots)
    (k : ∀ v T' L, Stand p l e R s m args below meth c T' (locs ++ L) (cells + rm.cells) (slots + rm.slots) → Q' v T'.heap L → Ends p e below s cs ss Q (T'.setTop { g with pc := g.pc + 3, stack := v.toList ++ rest })) : Ends p e below s cs ss Q (T.setTop g) := by
  obtain ⟨v, _, ⟨T', L', k', n'⟩, -, X', ⟨Lc, hQ, rfl, rfl, rfl⟩, st⟩ := X.specialBack hx (y := y) hy1 hown (mvT hZ w1) (mvT hZ w2) (mvT hZ w4) hy (backOf (W := W) hM hZ w4 w3 hf hl) hg hsize (Steps.refl _) (a := a) (argsL := argsL) (rest := rest) hlen hstack hW hdg (fun _ _ => ⟨ha, eT, hc, hs⟩)
  exact (k v T' Lc X' hQ).step (fun _ q => st.trans q)
theorem Ends.callV (X : Stand p l e R s m args below meth c T locs cells slots) (hx : p.tables.exec = Jvm.exec) (hZ : Z.Warmed39 s.vm) {own C : String} {index : Nat} {y : MethodName} {bytes : ByteArray} {maxL : Nat} {ret : Option FieldType}
    (hown : s.vm.findClass own = some m.cls) (w1 : (Jvm.Cond.methodLink own index y).before a0 Z = true) (wd : (Jvm.Cond.declares y).before a0 Z = true) (wsel : (Jvm.Cond.selects C y y).before a0 Z = true) (w2 : (Jvm.Cond.instanceMethod y).before a0 Z = true) (w3 : (Jvm.Cond.initialized y.cls).before a0 Z = true) (w4 : (Jvm.Cond.code y bytes maxL ret).before a0 Z = true)
    (hy : y.cls ≠ "java/lang/invoke/MethodHandle" ∧ y.cls ≠ "java/lang/invoke/VarHandle") {rm : Room} {as' : Array Value} {Q' : Option Value → Heap → List Loc → Prop} (hM : Meets l Z y bytes maxL ret [] rm as' h Q' rm.cells rm.slots)
    (W : Nat) (hf : rm.frames + 1 ≤ R.frames) (hl : W + (maxL + 11) + rm.locals ≤ R.locals) (eT : T.heap = h) (a : Addr) (E : Exa Z h a C) {g : JFrame} (hg : g.method = m) (hsize : g.locals.size = c.maxLocals) (argsL rest : List Value)
    (hlen : ∀ sig, parseMethodDescriptor y.desc = some sig → argsL.length = sig.parameters.length) (hstack : g.stack = argsL.reverse ++ .ref a :: rest) (hW : 2 * g.monitorRoom + (rest.map fun v => v.category).sum ≤ W) (hdg : decode c.code g.pc = .ok (.invokevirtual index, 3))
    (ha : (.ref a :: argsL).toArray = as') (hc : cells + rm.cells ≤ R.cells) (hs : slots + rm.slots ≤ R.slots)
    (k : ∀ v T' L, Stand p l e R s m args below meth c T' (locs ++ L) (cells + rm.cells) (slots + rm.slots) → Q' v T'.heap L → Ends p e below s cs ss Q (T'.setTop { g with pc := g.pc + 3, stack := v.toList ++ rest })) : Ends p e below s cs ss Q (T.setTop g) := by
  obtain ⟨cq, kq, q1, q2, q3⟩ := isOf (T := T) hZ eT E
  obtain ⟨v, _, ⟨T', L', k', n'⟩, -, X', ⟨Lc, hQ, rfl, rfl, rfl⟩, st⟩ := X.virtualBack hx (y := y) (z := y) hown (mvT hZ w1) (mvT hZ wd) (notFace_of_selects (args := #[]) (mvT hZ wsel)) (mvT hZ wsel) (mvT hZ w2) hy (backOf (W := W) hM hZ w4 w3 hf hl) q1 q3 hg hsize (Steps.refl _) (argsL := argsL) (rest := rest) hlen hstack hW hdg (fun _ _ => ⟨ha, eT, hc, hs⟩)
  exact (k v T' Lc X' hQ).step (fun _ q => st.trans q)
/-! ### arrays of small numbers: what each place holds, as a function -/
def Ar (Z : State) (h : Heap) (a : Addr) (ty : FieldType) (n : Nat) (f : Nat → Int32) : Prop := ∃ cl : Cell, Arr Z h a cl ty ∧ cl.slots.size = n ∧ n < 2 ^ 31 ∧ ∀ i, i < n → cl.slots[i]? = some (.int (f i))
def upd (f : Nat → Int32) (j : Nat) (v : Int32) : Nat → Int32 := fun i => if i = j then v else f i
def inb (j : Int32) (n : Nat) : Prop := ¬ (j < 0 ∨ n ≤ j.toNatClampNeg)
variable {a b : Addr} {ty : FieldType} {n sl : Nat} {f : Nat → Int32} {v : Value} {wsA : List Addr}
theorem Ar.lt (A : Ar Z h a ty n f) : a < h.size := by obtain ⟨cl, A1, -⟩ := A; exact A1.lt
theorem Ar.ext (A : Ar Z h a ty n f) (E : Ext h h') : Ar Z h' a ty n f := by obtain ⟨cl, A1, r⟩ := A; exact ⟨cl, A1.ext E, r⟩
theorem Ar.other (A : Ar Z h b ty n f) (W : Wr h h' a sl v) (q : b ≠ a) : Ar Z h' b ty n f := by obtain ⟨cl, A1, r⟩ := A; exact ⟨cl, A1.other W q, r⟩
theorem Ar.keep (A : Ar Z h a ty n f) (K : Keep h h' wsA) (q : a ∉ wsA) : Ar Z h' a ty n f := by obtain ⟨cl, A1, r⟩ := A; exact ⟨cl, ⟨K.2.1 a cl A1.1 q, A1.2⟩, r⟩
theorem Ar.small (A : Ar Z h a ty n f) : n < 2 ^ 31 := by obtain ⟨cl, A1, -, r, -⟩ := A; exact r
theorem Ar.set {j : Int32} {x : Int32} (A : Ar Z h a ty n f) (W : Wr h h' a j.toNatClampNeg (.int x)) : Ar Z h' a ty n (upd f j.toNatClampNeg x) := by
  obtain ⟨cl, A1, r1, r2, r3⟩ := A
  refine ⟨_, A1.same W, by rw [sz_set]; exact r1, r2, fun i hi => ?_⟩
  by_cases q : i = j.toNatClampNeg
  · subst q; simp [Cell.setSlot, upd, r1, hi]
  · simp only [Cell.setSlot, upd, if_neg q]; rw [Array.getElem?_setIfInBounds_ne (fun z => q z.symm)]; exact r3 i hi
theorem Ar.new {cA : ClassId} {k : Int32} (A : Arr Z h a (newA cA ty k) ty) (q : ¬ k < 0) (hd : defaultValue ty = .int 0) : Ar Z h a ty k.toNatClampNeg (fun _ => 0) :=
  ⟨_, A, sz_new _ _ _, (back32 q).2, fun i hi => by simp [newA, hi, hd]⟩
theorem Ends.newA (X : Stand p l e R s m args below meth c T locs cells slots) (hx : p.tables.exec = Jvm.exec) (hZ : Z.Warmed39 s.vm) {aty : ArrayType} (w : (Jvm.Cond.arrayClass (newarray.typeOf aty)).before a0 Z = true) (eT : T.heap = h) {g : JFrame} (hg : g.method = m) (hd : decode c.code g.pc = .ok (.newarray aty, 2)) {k : Int32} {rest : List Value} (hs : g.stack = .int k :: rest)
    (hdf : defaultValue (newarray.typeOf aty) = .int 0) (hn : ¬ k < 0) (cap : Nat) (hcap : k.toNatClampNeg ≤ cap) (hb : cap * 8 ≤ 536870912) (hc : cells + 1 ≤ R.cells) (hl : slots + cap ≤ R.slots)
    (kk : ∀ T' h' a, Stand p l e R s m args below meth c T' locs (cells + 1) (slots + cap) → T'.heap = h' → Ext h h' → h.size = a → Ar Z h' a (newarray.typeOf aty) k.toNatClampNeg (fun _ => 0) → Ends p e below s cs ss Q (T'.setTop { g with pc := g.pc + 2, stack := .ref a :: rest })) : Ends p e below s cs ss Q (T.setTop g) := by
  obtain ⟨T', h', cA, X', e', E, A, st⟩ := newP X hx hZ w eT hg hd hs hn hcap hb hc hl
  exact (kk T' h' h.size X' e' E rfl (Ar.new A hn hdf)).step st
theorem Ends.iaload (X : Stand p l e R s m args below meth c T locs cells slots) (hx : p.tables.exec = Jvm.exec) (hZ : Z.Warmed39 s.vm) (eT : T.heap = h) (A : Ar Z h a .int n f) {j : Int32} (hj : inb j n) {g : JFrame} (hg : g.method = m) {rest : List Value} (hs : g.stack = .int j :: .ref a :: rest) (hd : decode c.code g.pc = .ok (.iaload, 1))
    (k : Ends p e below s cs ss Q (T.setTop { g with pc := g.pc + 1, stack := .int (f j.toNatClampNeg) :: rest })) : Ends p e below s cs ss Q (T.setTop g) := by
  obtain ⟨cl, A1, r1, -, r3⟩ := A
  subst r1
  exact k.step (X.iaload hx (by rw [eT]; exact A1.1) (State.isArrayOf_alike hZ.alike A1.2.1) A1.2.2 hj (r3 _ (Nat.lt_of_not_le fun q => hj (Or.inr q))) hg hs hd)
theorem Ends.baload (X : Stand p l e R s m args below meth c T locs cells slots) (hx : p.tables.exec = Jvm.exec) (hZ : Z.Warmed39 s.vm) (eT : T.heap = h) (A : Ar Z h a .byte n f) {j : Int32} (hj : inb j n) {g : JFrame} (hg : g.method = m) {rest : List Value} (hs : g.stack = .int j :: .ref a :: rest) (hd : decode c.code g.pc = .ok (.baload, 1))
    (k : Ends p e below s cs ss Q (T.setTop { g with pc := g.pc + 1, stack := .int (f j.toNatClampNeg) :: rest })) : Ends p e below s cs ss Q (T.setTop g) := by
  obtain ⟨cl, A1, r1, -, r3⟩ := A
  subst r1
  exact k.step (X.baloadBytes hx (by rw [eT]; exact A1.1) (State.isArrayOf_alike hZ.alike A1.2.1) A1.2.2 hj (r3 _ (Nat.lt_of_not_le fun q => hj (Or.inr q))) hg hs hd)
theorem Ends.arrlen (X : Stand p l e R s m args below meth c T locs cells slots) (hx : p.tables.exec = Jvm.exec) (hZ : Z.Warmed39 s.vm) (eT : T.heap = h) (A : Ar Z h a ty n f) {g : JFrame} (hg : g.method = m) {rest : List Value} (hs : g.stack = .ref a :: rest) (hd : decode c.code g.pc = .ok (.arraylength, 1))
    (k : Ends p e below s cs ss Q (T.setTop { g with pc := g.pc + 1, stack := .int (Nat.toInt32 n) :: rest })) : Ends p e below s cs ss Q (T.setTop g) := by
  obtain ⟨cl, A1, r1, -, r3⟩ := A
  subst r1
  exact k.step (X.arraylength hx (by rw [eT]; exact A1.1) (State.isArrayOf_alike hZ.alike A1.2.1) hg hs hd)
theorem Ends.iastore (X : Stand p l e R s m args below meth c T locs cells slots) (hx : p.tables.exec = Jvm.exec) (hZ : Z.Warmed39 s.vm) (eT : T.heap = h) (A : Ar Z h a .int n f) {j x : Int32} (hj : inb j n) {n0 : Nat} (N : Fr n0 locs) (ge : n0 ≤ a) {g : JFrame} (hg : g.method = m) {rest : List Value} (hs : g.stack = .int x :: .int j :: .ref a :: rest) (hd : decode c.code g.pc = .ok (.iastore, 1))
    (k : ∀ T' h' sl, Stand p l e R s m args below meth c T' (locs ++ [⟨a, sl⟩]) cells slots → T'.heap = h' → Fr n0 (locs ++ [⟨a, sl⟩]) → Wr h h' a sl (.int x) → Ar Z h' a .int n (upd f j.toNatClampNeg x) → Ends p e below s cs ss Q (T'.setTop { g with pc := g.pc + 1, stack := rest })) : Ends p e below s cs ss Q (T.setTop g) := by
  obtain ⟨cl, A1, r1, r2, r3⟩ := A
  obtain ⟨T', h', X', e', W, st⟩ := stI X hx hZ eT A1 (by rw [r1]; exact hj) hg hs hd
  exact (k T' h' _ X' e' (Fr.snoc X' N ge) W (Ar.set ⟨cl, A1, r1, r2, r3⟩ W)).step st
theorem Ends.bastore (X : Stand p l e R s m args below meth c T locs cells slots) (hx : p.tables.exec = Jvm.exec) (hZ : Z.Warmed39 s.vm) (eT : T.heap = h) (A : Ar Z h a .byte n f) {j x : Int32} (hj : inb j n) {n0 : Nat} (N : Fr n0 locs) (ge : n0 ≤ a) {g : JFrame} (hg : g.method = m) {rest : List Value} (hs : g.stack = .int x :: .int j :: .ref a :: rest) (hd : decode c.code g.pc = .ok (.bastore, 1))
    (k : ∀ T' h' sl, Stand p l e R s m args below meth c T' (locs ++ [⟨a, sl⟩]) cells slots → T'.heap = h' → Fr n0 (locs ++ [⟨a, sl⟩]) → Wr h h' a sl (.int (nar .byte x)) → Ar Z h' a .byte n (upd f j.toNatClampNeg (nar .byte x)) → Ends p e below s cs ss Q (T'.setTop { g with pc := g.pc + 1, stack := rest })) : Ends p e below s cs ss Q (T.setTop g) := by
  obtain ⟨cl, A1, r1, r2, r3⟩ := A
  obtain ⟨T', h', X', e', W, st⟩ := stB X hx hZ eT A1 (by rw [r1]; exact hj) hg hs hd
  exact (k T' h' _ X' e' (Fr.snoc X' N ge) W (Ar.set ⟨cl, A1, r1, r2, r3⟩ W)).step st
theorem Ends.getF (X : Stand p l e R s m args below meth c T locs cells slots) (hx : p.tables.exec = Jvm.exec) (hZ : Z.Warmed39 s.vm) {own O fn d : String} {index : Nat} (hown : s.vm.findClass own = some m.cls) (w : (Jvm.Cond.fieldLink own index O fn d).before a0 Z = true) (eT : T.heap = h) (F : Fld Z h a O fn d v) {g : JFrame} (hg : g.method = m) {rest : List Value} (hs : g.stack = .ref a :: rest) (hd : decode c.code g.pc = .ok (.getfield index, 3))
    (k : ∀ T', Stand p l e R s m args below meth c T' locs cells slots → T'.heap = h → Ends p e below s cs ss Q (T'.setTop { g with pc := g.pc + 3, stack := v :: rest })) : Ends p e below s cs ss Q (T.setTop g) := by
  obtain ⟨T', X', e', st⟩ := Jvm.RoadKit.getF X hx hZ hown (host := "") (Or.inl w) Via.refl eT F hg hs hd
  exact (k T' X' e').step st
theorem Ends.putF (X : Stand p l e R s m args below meth c T locs cells slots) (hx : p.tables.exec = Jvm.exec) (hZ : Z.Warmed39 s.vm) {own O fn d : String} {index kk : Nat} {tf : FieldType} {old : Value} (hown : s.vm.findClass own = some m.cls) (w : (Jvm.Cond.fieldLink own index O fn d).before a0 Z = true) (eT : T.heap = h) (F : Fld Z h a O fn d old) (E : Exa Z h a O) (L : (Jvm.Cond.lays O O fn d).before a0 Z = true ∨ ((Jvm.Cond.laysFinal O O fn d).before a0 Z = true ∧ own = O ∧ meth.name = "<init>")) (wi : (Jvm.Cond.instantiable O kk).before a0 Z = true)
    (hty : parseFieldDescriptor d = some tf) (hn : narrow tf v = v) (hf : fits tf v = true) {n0 : Nat} (N : Fr n0 locs) (ge : n0 ≤ a) {g : JFrame} (hg : g.method = m) {rest : List Value} (hs : g.stack = v :: .ref a :: rest) (hd : decode c.code g.pc = .ok (.putfield index, 3))
    (k : ∀ T' h', Stand p l e R s m args below meth c T' (locs ++ [⟨a, Jvm.RoadKit.slotOf Z O fn d⟩]) cells slots → T'.heap = h' → Fr n0 (locs ++ [⟨a, Jvm.RoadKit.slotOf Z O fn d⟩]) → Wr h h' a (Jvm.RoadKit.slotOf Z O fn d) v → Ends p e below s cs ss Q (T'.setTop { g with pc := g.pc + 3, stack := rest })) : Ends p e below s cs ss Q (T.setTop g) := by
  obtain ⟨T', h', X', e', W, st⟩ := Jvm.RoadKit.putF X hx hZ hown (host := "") (Or.inl w) Via.refl eT F E L wi hty hn hf hg hs hd
  exact (k T' h' X' e' (Fr.snoc X' N ge) W).step st
theorem Ends.newO (X : Stand p l e R s m args below meth c T locs cells slots) (hx : p.tables.exec = Jvm.exec) (hZ : Z.Warmed39 s.vm) {own C : String} {index k : Nat} (hown : s.vm.findClass own = some m.cls) (w : (Jvm.Cond.classLink own index C).before a0 Z = true) (wi : (Jvm.Cond.instantiable C k).before a0 Z = true) (wz : (Jvm.Cond.initialized C).before a0 Z = true) (eT : T.heap = h)
    {g : JFrame} (hg : g.method = m) (hd : decode c.code g.pc = .ok (.new index, 3)) (hc : cells + 1 ≤ R.cells) (hl : slots + k ≤ R.slots)
    (kk : ∀ T' h' a, Stand p l e R s m args below meth c T' locs (cells + 1) (slots + k) → T'.heap = h' → Ext h h' → h.size = a → Exa Z h' a C → (∀ {O nm d : String} {ty : FieldType}, Laid Z a0 C O nm d → parseFieldDescriptor d = some ty → Fld Z h' a O nm d (defaultValue ty)) → Ends p e below s cs ss Q (T'.setTop { g with pc := g.pc + 3, stack := .ref a :: g.stack })) : Ends p e below s cs ss Q (T.setTop g) := by
  obtain ⟨T', h', X', e', E, A, D, -, st⟩ := Jvm.RoadKit.newO X hx hZ hown w wi wz eT hg hd hc hl
  exact (kk T' h' _ X' e' E rfl A D).step st
theorem Ends.initO (X : Stand p l e R s m args below meth c T locs cells slots) (hx : p.tables.exec = Jvm.exec) (hZ : Z.Warmed39 s.vm) {own : String} {idx : Nat} (hown : s.vm.findClass own = some m.cls) (w1 : (Jvm.Cond.methodLink own idx Lib.objectInit).before a0 Z = true) (w2 : (Jvm.Cond.instanceMethod Lib.objectInit).before a0 Z = true)
    (w3 : (Jvm.Cond.code Lib.objectInit ⟨#[0xb1]⟩ 1 none).before a0 Z = true) (eT : T.heap = h) {g : JFrame} (hg : g.method = m) (hsize : g.locals.size = c.maxLocals) {rest : List Value} (hs : g.stack = .ref a :: rest) (hd : decode c.code g.pc = .ok (.invokespecial idx, 3))
    (hf : 1 ≤ R.frames) (W : Nat) (hW : 2 * g.monitorRoom + (rest.map fun v => v.category).sum ≤ W) (hl : W + 12 ≤ R.locals)
    (k : ∀ T', Stand p l e R s m args below meth c T' locs cells slots → T'.heap = h → Ends p e below s cs ss Q (T'.setTop { g with pc := g.pc + 3, stack := rest })) : Ends p e below s cs ss Q (T.setTop g) := by
  obtain ⟨T', X', e', st⟩ := Jvm.RoadKit.initO X hx hZ hown w1 w2 w3 eT hg hsize hs hd hf hW hl
  exact (k T' X' e').step st
def OneS (o : Slot) : Prop := o = .unset ∨ ∃ w, o = .val w ∧ w.category = 1
theorem storeL {ls : Array Slot} {i : Nat} {x : Int64} {o o' : Slot} (h1 : ls[i]? = some o) (h2 : ls[i + 1]? = some o') (p1 : OneS o) (p2 : OneS o') : storeLocals ls i (.long x) = some ((ls.setIfInBounds i (.val (.long x))).setIfInBounds (i + 1) .second) := by
  have l1 : i < ls.size := (Array.getElem?_eq_some_iff.mp h1).1
  have l2 : i + 1 < ls.size := (Array.getElem?_eq_some_iff.mp h2).1
  have e2 : (ls.setIfInBounds i (.val (.long x)))[i + 1]? = some o' := by rw [Array.getElem?_setIfInBounds_ne (by omega)]; exact h2
  have q : storeSelf ls i (.long x) = some ((ls.setIfInBounds i (.val (.long x))).setIfInBounds (i + 1) .second) := by
    have cat : (Value.long x).category = 2 := rfl
    simp only [storeSelf, setAt, if_pos l1, cat, if_true, Option.bind_eq_bind, Option.bind_some, e2]
    rcases p2 with rfl | ⟨w, rfl, hw⟩
    · simp [l2]
    · simp [l2, hw]
  simp only [storeLocals, h1, Option.bind_eq_bind, Option.bind_some]
  rcases p1 with rfl | ⟨w, rfl, hw⟩
  · exact q
  · simp only [hw]; exact q
end OwnFrame
-- body 1
def F1_67 (t0 : Int32) : Int32 := (nar .boolean t0)
def F1_62  : Int32 := (F1_67 (1 : Int32))
def F1_66  : Int32 := (F1_67 (0 : Int32))
def F1_55 (x0 : Int32) : Int32 := if (159 : Int32) < x0 then F1_66 else F1_62
def F1_48 (x0 : Int32) : Int32 := if x0 < (134 : Int32) then F1_66 else (F1_55 x0)
def F1_41 (x0 : Int32) : Int32 := if (132 : Int32) < x0 then (F1_48 x0) else F1_62
def F1_35 (x0 : Int32) : Int32 := if x0 < (127 : Int32) then (F1_48 x0) else (F1_41 x0)
def F1_29 (x0 : Int32) : Int32 := if (31 : Int32) < x0 then (F1_35 x0) else F1_62
def F1_23 (x0 : Int32) : Int32 := if x0 < (14 : Int32) then (F1_35 x0) else (F1_29 x0)
def F1_17 (x0 : Int32) : Int32 := if (12 : Int32) < x0 then (F1_23 x0) else F1_62
def F1_11 (x0 : Int32) : Int32 := if x0 < (11 : Int32) then (F1_23 x0) else (F1_17 x0)
def F1_5 (x0 : Int32) : Int32 := if (8 : Int32) < x0 then (F1_11 x0) else F1_62
def F1 (p0 : Int32) : Int32 := if p0 < (1 : Int32) then (F1_11 p0) else (F1_5 p0)
-- body 2
def F2_43  : Int32 := (nar .boolean (0 : Int32))
def F2_79 (t0 : Int32) : Int32 := (nar .boolean t0)
def F2_74  : Int32 := (F2_79 (1 : Int32))
def F2_78  : Int32 := (F2_79 (0 : Int32))
def F2_67 (x0 : Int32) : Int32 := if x0 = (133 : Int32) then F2_78 else F2_74
def F2_61 (x0 : Int32) : Int32 := if x0 = (13 : Int32) then F2_78 else (F2_67 x0)
def F2_55 (x0 : Int32) : Int32 := if x0 = (10 : Int32) then F2_78 else (F2_61 x0)
def F2_49 (x0 : Int32) : Int32 := if x0 = (9 : Int32) then F2_78 else (F2_55 x0)
def F2_45 (x0 : Int32) : Int32 := if x0 = 0 then F2_78 else (F2_49 x0)
def F2_39 (x0 : Int32) (x2 : Int32) : Int32 := if x2 = 0 then F2_43 else (F2_45 x0)
def F2_34 (x0 : Int32) (x1 : Int32) (t0 : Int32) : Int32 := if x1 = 0 then (F2_39 x0 t0) else (F2_45 x0)
def F2_29 (x0 : Int32) (x1 : Int32) : Int32 := (F2_34 x0 x1 (1 : Int32))
def F2_33 (x0 : Int32) (x1 : Int32) : Int32 := (F2_34 x0 x1 (0 : Int32))
def F2_22 (x0 : Int32) (x1 : Int32) : Int32 := if x0 < (160 : Int32) then (F2_29 x0 x1) else (F2_33 x0 x1)
def F2_15 (x0 : Int32) (t0 : Int32) : Int32 := if x0 < (127 : Int32) then (F2_33 x0 t0) else (F2_22 x0 t0)
def F2_10 (x0 : Int32) : Int32 := (F2_15 x0 (1 : Int32))
def F2_14 (x0 : Int32) : Int32 := (F2_15 x0 (0 : Int32))
def F2_4 (x0 : Int32) : Int32 := if x0 < (32 : Int32) then (F2_10 x0) else (F2_14 x0)
def F2 (p0 : Int32) : Int32 := if p0 < 0 then (F2_14 p0) else (F2_4 p0)
-- body 0
def F0_55 (t0 : Int32) : Int32 := (nar .boolean t0)
def F0_50  : Int32 := (F0_55 (1 : Int32))
def F0_54  : Int32 := (F0_55 (0 : Int32))
def F0_45 (x4 : Int32) : Int32 := if x4 = 0 then F0_54 else F0_50
def F0_39 (x3 : Int32) (t0 : Int32) : Int32 := if x3 = 0 then F0_54 else (F0_45 t0)
def F0_34 (x3 : Int32) : Int32 := (F0_39 x3 (1 : Int32))
def F0_38 (x3 : Int32) : Int32 := (F0_39 x3 (0 : Int32))
def F0_22 (x2 : Int32) (t0 : Int32) : Int32 := if (F1 x2) = (F2 x2) then (F0_34 t0) else (F0_38 t0)
def F0_17 (x2 : Int32) : Int32 := (F0_22 x2 (1 : Int32))
def F0_21 (x2 : Int32) : Int32 := (F0_22 x2 (0 : Int32))
def F0_6 (x0 : Int32) (x2 : Int32) : Int32 := if (F1 x0) = (F2 x0) then (F0_17 x2) else (F0_21 x2)
def F0 (p0 : Int32) (p1 : Int32) : Int32 := (F0_6 p0 (p1 &&& (255 : Int32)))
theorem pd_0 : parseMethodDescriptor "(I)Z" = some ⟨[.int], (some .boolean)⟩ := by decide +kernel
theorem d1_0 : decode prog_24_method_14_code 0 = .ok (.iload_n 0, 1) := by decide +kernel
theorem d1_1 : decode prog_24_method_14_code 1 = .ok (.iconst 1, 1) := by decide +kernel
theorem d1_2 : decode prog_24_method_14_code 2 = .ok (.if_icmp .lt 9, 3) := by decide +kernel
theorem d1_5 : decode prog_24_method_14_code 5 = .ok (.iload_n 0, 1) := by decide +kernel
theorem d1_6 : decode prog_24_method_14_code 6 = .ok (.bipush 8, 2) := by decide +kernel
theorem d1_8 : decode prog_24_method_14_code 8 = .ok (.if_icmp .le 54, 3) := by decide +kernel
theorem d1_11 : decode prog_24_method_14_code 11 = .ok (.iload_n 0, 1) := by decide +kernel
theorem d1_12 : decode prog_24_method_14_code 12 = .ok (.bipush 11, 2) := by decide +kernel
theorem d1_14 : decode prog_24_method_14_code 14 = .ok (.if_icmp .lt 9, 3) := by decide +kernel
theorem d1_17 : decode prog_24_method_14_code 17 = .ok (.iload_n 0, 1) := by decide +kernel
theorem d1_18 : decode prog_24_method_14_code 18 = .ok (.bipush 12, 2) := by decide +kernel
theorem d1_20 : decode prog_24_method_14_code 20 = .ok (.if_icmp .le 42, 3) := by decide +kernel
theorem d1_23 : decode prog_24_method_14_code 23 = .ok (.iload_n 0, 1) := by decide +kernel
theorem d1_24 : decode prog_24_method_14_code 24 = .ok (.bipush 14, 2) := by decide +kernel
theorem d1_26 : decode prog_24_method_14_code 26 = .ok (.if_icmp .lt 9, 3) := by decide +kernel
theorem d1_29 : decode prog_24_method_14_code 29 = .ok (.iload_n 0, 1) := by decide +kernel
theorem d1_30 : decode prog_24_method_14_code 30 = .ok (.bipush 31, 2) := by decide +kernel
theorem d1_32 : decode prog_24_method_14_code 32 = .ok (.if_icmp .le 30, 3) := by decide +kernel
theorem d1_35 : decode prog_24_method_14_code 35 = .ok (.iload_n 0, 1) := by decide +kernel
theorem d1_36 : decode prog_24_method_14_code 36 = .ok (.bipush 127, 2) := by decide +kernel
theorem d1_38 : decode prog_24_method_14_code 38 = .ok (.if_icmp .lt 10, 3) := by decide +kernel
theorem d1_41 : decode prog_24_method_14_code 41 = .ok (.iload_n 0, 1) := by decide +kernel
theorem d1_42 : decode prog_24_method_14_code 42 = .ok (.sipush 132, 3) := by decide +kernel
theorem d1_45 : decode prog_24_method_14_code 45 = .ok (.if_icmp .le 17, 3) := by decide +kernel
theorem d1_48 : decode prog_24_method_14_code 48 = .ok (.iload_n 0, 1) := by decide +kernel
theorem d1_49 : decode prog_24_method_14_code 49 = .ok (.sipush 134, 3) := by decide +kernel
theorem d1_52 : decode prog_24_method_14_code 52 = .ok (.if_icmp .lt 14, 3) := by decide +kernel
theorem d1_55 : decode prog_24_method_14_code 55 = .ok (.iload_n 0, 1) := by decide +kernel
theorem d1_56 : decode prog_24_method_14_code 56 = .ok (.sipush 159, 3) := by decide +kernel
theorem d1_59 : decode prog_24_method_14_code 59 = .ok (.if_icmp .gt 7, 3) := by decide +kernel
theorem d1_62 : decode prog_24_method_14_code 62 = .ok (.iconst 1, 1) := by decide +kernel
theorem d1_63 : decode prog_24_method_14_code 63 = .ok (.goto 4, 3) := by decide +kernel
theorem d1_66 : decode prog_24_method_14_code 66 = .ok (.iconst 0, 1) := by decide +kernel
theorem d1_67 : decode prog_24_method_14_code 67 = .ok (.ireturn, 1) := by decide +kernel
theorem pn_1 : plainName "com/example/kuopio/kuopio/XmlChars" = true := by first | (simp [plainName, overriddenIn]; done) | decide +kernel
theorem ef_1 (m : MethodId) (y0 : Int32) : entryFrame m #[(.int y0)] 1 = mkF m 0 #[.val (.int y0)] [] := by first | rfl | (simp [entryFrame, mkF, argsToLocals, Value.category]; done)
def Q1 (Z : State)   (h0 : Heap) (n0 : Nat) (ans : Int32) (v : Option Value) (h : Heap) (L : List Loc) : Prop := v = some (.int ans) ∧ Fr n0 L ∧ h = h0
set_option maxRecDepth 65536 in
set_option maxHeartbeats 40000000 in
theorem rm1 (l : Launch) (Z : State) (a0 : Array Value) (hw : ∀ d ∈ tables_1, d.before a0 Z = true) (p0 : Int32)  (h0 : Heap) (n0 : Nat) (Z0 : n0 ≤ h0.size)  :
    Meets l Z (⟨"com/example/kuopio/kuopio/XmlChars", "isRestrictedChar", "(I)Z"⟩ : MethodName) prog_24_method_14_code 1 (some .boolean) [] ({ frames := 0, cells := 0, slots := 0, locals := 0 } : Room) #[(.int p0)] h0 (Q1 Z  h0 n0 (F1 p0)) 0 0 := by
  refine Meets.of pn_1 ?_
  intro p e s m below meth c s₁ hx hby hml hZ hown hnm hret hlk X0 e0
  have hml : c.maxLocals = 1 := hml
  have hown : s.vm.findClass "com/example/kuopio/kuopio/XmlChars" = some m.cls := hown
  have N0 := Fr.nil n0
  have b67 : ∀ (T : State) (L : List Loc) (X : Stand p l e ({ frames := 0, cells := 0, slots := 0, locals := 0 } : Room) s m #[(.int p0)] below meth c T L 0 0) (eT : T.heap = h0) (N : Fr n0 L) (t0 : Int32) (d0 : Slot) (od0 : OneS d0), Ends p e below s 0 0 (Q1 Z  h0 n0 (F1_67 t0)) (T.setTop (mkF m 67 #[d0] [(.int t0)])) := by
    intro T L X eT N t0 d0 od0
    exact Ends.ret X (v := some (.int (nar .boolean t0))) (fun q => by rw [hret] at q; cases q) hlk (fun fs hr => retN X hx (t := .boolean) hret (by simp) (hb hby d1_67) hr) (by decide) (by decide) ⟨rfl, N, eT⟩
  have b62 : ∀ (T : State) (L : List Loc) (X : Stand p l e ({ frames := 0, cells := 0, slots := 0, locals := 0 } : Room) s m #[(.int p0)] below meth c T L 0 0) (eT : T.heap = h0) (N : Fr n0 L) (d0 : Slot) (od0 : OneS d0), Ends p e below s 0 0 (Q1 Z  h0 n0 F1_62) (T.setTop (mkF m 62 #[d0] [])) := by
    intro T L X eT N d0 od0
    refine Ends.step (u' := (T.setTop (mkF m 63 #[d0] [(.int (1 : Int32))]))) ?_ (fun _ k => XT.iconstV X.here hx rfl (1 : Int32) (hb hby d1_62) rfl k)
    refine Ends.step (u' := (T.setTop (mkF m 67 #[d0] [(.int (1 : Int32))]))) ?_ (fun _ k => XS.goto X.here hx rfl (pc0 := 63) (pc' := 67) rfl (hb hby d1_63) (by decide) (by decide) k)
    exact b67 T _ X eT N (1 : Int32) (d0) od0
  have b66 : ∀ (T : State) (L : List Loc) (X : Stand p l e ({ frames := 0, cells := 0, slots := 0, locals := 0 } : Room) s m #[(.int p0)] below meth c T L 0 0) (eT : T.heap = h0) (N : Fr n0 L) (d0 : Slot) (od0 : OneS d0), Ends p e below s 0 0 (Q1 Z  h0 n0 F1_66) (T.setTop (mkF m 66 #[d0] [])) := by
    intro T L X eT N d0 od0
    refine Ends.step (u' := (T.setTop (mkF m 67 #[d0] [(.int (0 : Int32))]))) ?_ (fun _ k => XT.iconstV X.here hx rfl (0 : Int32) (hb hby d1_66) rfl k)
    exact b67 T _ X eT N (0 : Int32) (d0) od0
  have b55 : ∀ (T : State) (L : List Loc) (X : Stand p l e ({ frames := 0, cells := 0, slots := 0, locals := 0 } : Room) s m #[(.int p0)] below meth c T L 0 0) (eT : T.heap = h0) (N : Fr n0 L) (x0 : Int32), Ends p e below s 0 0 (Q1 Z  h0 n0 (F1_55 x0)) (T.setTop (mkF m 55 #[.val (.int x0)] [])) := by
    intro T L X eT N x0
    refine Ends.step (u' := (T.setTop (mkF m 56 #[.val (.int x0)] [(.int x0)]))) ?_ (fun _ k => XS.iloadN X.here hx rfl (hb hby d1_55) rfl k)
    refine Ends.step (u' := (T.setTop (mkF m 59 #[.val (.int x0)] [(.int (159 : Int32)), (.int x0)]))) ?_ (fun _ k => XT.sipushV X.here hx rfl (159 : Int32) (hb hby d1_56) rfl k)
    by_cases hc59 : (159 : Int32) < x0
    · refine Eq.mp (congrArg (fun z => Ends p e below s 0 0 (Q1 Z  h0 n0 z) (T.setTop (mkF m 59 #[.val (.int x0)] [(.int (159 : Int32)), (.int x0)]))) (show (F1_55 x0) = F1_66 from (if_pos hc59)).symm) ?_
      refine Ends.step (u' := (T.setTop (mkF m 66 #[.val (.int x0)] []))) ?_ (fun _ k => XS.icmpYes X.here hx rfl (pc0 := 59) (pc' := 66) rfl (hb hby d1_59) rfl (XT.ii_gt_t hc59) (by decide) (by decide) k)
      exact b66 T _ X eT N (.val (.int x0)) (Or.inr ⟨_, rfl, rfl⟩)
    · refine Eq.mp (congrArg (fun z => Ends p e below s 0 0 (Q1 Z  h0 n0 z) (T.setTop (mkF m 59 #[.val (.int x0)] [(.int (159 : Int32)), (.int x0)]))) (show (F1_55 x0) = F1_62 from (if_neg hc59)).symm) ?_
      refine Ends.step (u' := (T.setTop (mkF m 62 #[.val (.int x0)] []))) ?_ (fun _ k => XS.icmpNo X.here hx rfl (hb hby d1_59) rfl (XT.ii_gt_f hc59) k)
      exact b62 T _ X eT N (.val (.int x0)) (Or.inr ⟨_, rfl, rfl⟩)
  have b48 : ∀ (T : State) (L : List Loc) (X : Stand p l e ({ frames := 0, cells := 0, slots := 0, locals := 0 } : Room) s m #[(.int p0)] below meth c T L 0 0) (eT : T.heap = h0) (N : Fr n0 L) (x0 : Int32), Ends p e below s 0 0 (Q1 Z  h0 n0 (F1_48 x0)) (T.setTop (mkF m 48 #[.val (.int x0)] [])) := by
    intro T L X eT N x0
    refine Ends.step (u' := (T.setTop (mkF m 49 #[.val (.int x0)] [(.int x0)]))) ?_ (fun _ k => XS.iloadN X.here hx rfl (hb hby d1_48) rfl k)
    refine Ends.step (u' := (T.setTop (mkF m 52 #[.val (.int x0)] [(.int (134 : Int32)), (.int x0)]))) ?_ (fun _ k => XT.sipushV X.here hx rfl (134 : Int32) (hb hby d1_49) rfl k)
    by_cases hc52 : x0 < (134 : Int32)
    · refine Eq.mp (congrArg (fun z => Ends p e below s 0 0 (Q1 Z  h0 n0 z) (T.setTop (mkF m 52 #[.val (.int x0)] [(.int (134 : Int32)), (.int x0)]))) (show (F1_48 x0) = F1_66 from (if_pos hc52)).symm) ?_
      refine Ends.step (u' := (T.setTop (mkF m 66 #[.val (.int x0)] []))) ?_ (fun _ k => XS.icmpYes X.here hx rfl (pc0 := 52) (pc' := 66) rfl (hb hby d1_52) rfl (XT.ii_lt_t hc52) (by decide) (by decide) k)
      exact b66 T _ X eT N (.val (.int x0)) (Or.inr ⟨_, rfl, rfl⟩)
    · refine Eq.mp (congrArg (fun z => Ends p e below s 0 0 (Q1 Z  h0 n0 z) (T.setTop (mkF m 52 #[.val (.int x0)] [(.int (134 : Int32)), (.int x0)]))) (show (F1_48 x0) = (F1_55 x0) from (if_neg hc52)).symm) ?_
      refine Ends.step (u' := (T.setTop (mkF m 55 #[.val (.int x0)] []))) ?_ (fun _ k => XS.icmpNo X.here hx rfl (hb hby d1_52) rfl (XT.ii_lt_f hc52) k)
      exact b55 T _ X eT N x0
  have b41 : ∀ (T : State) (L : List Loc) (X : Stand p l e ({ frames := 0, cells := 0, slots := 0, locals := 0 } : Room) s m #[(.int p0)] below meth c T L 0 0) (eT : T.heap = h0) (N : Fr n0 L) (x0 : Int32), Ends p e below s 0 0 (Q1 Z  h0 n0 (F1_41 x0)) (T.setTop (mkF m 41 #[.val (.int x0)] [])) := by
    intro T L X eT N x0
    refine Ends.step (u' := (T.setTop (mkF m 42 #[.val (.int x0)] [(.int x0)]))) ?_ (fun _ k => XS.iloadN X.here hx rfl (hb hby d1_41) rfl k)
    refine Ends.step (u' := (T.setTop (mkF m 45 #[.val (.int x0)] [(.int (132 : Int32)), (.int x0)]))) ?_ (fun _ k => XT.sipushV X.here hx rfl (132 : Int32) (hb hby d1_42) rfl k)
    by_cases hc45 : (132 : Int32) < x0
    · refine Eq.mp (congrArg (fun z => Ends p e below s 0 0 (Q1 Z  h0 n0 z) (T.setTop (mkF m 45 #[.val (.int x0)] [(.int (132 : Int32)), (.int x0)]))) (show (F1_41 x0) = (F1_48 x0) from (if_pos hc45)).symm) ?_
      refine Ends.step (u' := (T.setTop (mkF m 48 #[.val (.int x0)] []))) ?_ (fun _ k => XS.icmpNo X.here hx rfl (hb hby d1_45) rfl (XT.ii_le_f hc45) k)
      exact b48 T _ X eT N x0
    · refine Eq.mp (congrArg (fun z => Ends p e below s 0 0 (Q1 Z  h0 n0 z) (T.setTop (mkF m 45 #[.val (.int x0)] [(.int (132 : Int32)), (.int x0)]))) (show (F1_41 x0) = F1_62 from (if_neg hc45)).symm) ?_
      refine Ends.step (u' := (T.setTop (mkF m 62 #[.val (.int x0)] []))) ?_ (fun _ k => XS.icmpYes X.here hx rfl (pc0 := 45) (pc' := 62) rfl (hb hby d1_45) rfl (XT.ii_le_t hc45) (by decide) (by decide) k)
      exact b62 T _ X eT N (.val (.int x0)) (Or.inr ⟨_, rfl, rfl⟩)
  have b35 : ∀ (T : State) (L : List Loc) (X : Stand p l e ({ frames := 0, cells := 0, slots := 0, locals := 0 } : Room) s m #[(.int p0)] below meth c T L 0 0) (eT : T.heap = h0) (N : Fr n0 L) (x0 : Int32), Ends p e below s 0 0 (Q1 Z  h0 n0 (F1_35 x0)) (T.setTop (mkF m 35 #[.val (.int x0)] [])) := by
    intro T L X eT N x0
    refine Ends.step (u' := (T.setTop (mkF m 36 #[.val (.int x0)] [(.int x0)]))) ?_ (fun _ k => XS.iloadN X.here hx rfl (hb hby d1_35) rfl k)
    refine Ends.step (u' := (T.setTop (mkF m 38 #[.val (.int x0)] [(.int (127 : Int32)), (.int x0)]))) ?_ (fun _ k => XT.bipushV X.here hx rfl (127 : Int32) (hb hby d1_36) rfl k)
    by_cases hc38 : x0 < (127 : Int32)
    · refine Eq.mp (congrArg (fun z => Ends p e below s 0 0 (Q1 Z  h0 n0 z) (T.setTop (mkF m 38 #[.val (.int x0)] [(.int (127 : Int32)), (.int x0)]))) (show (F1_35 x0) = (F1_48 x0) from (if_pos hc38)).symm) ?_
      refine Ends.step (u' := (T.setTop (mkF m 48 #[.val (.int x0)] []))) ?_ (fun _ k => XS.icmpYes X.here hx rfl (pc0 := 38) (pc' := 48) rfl (hb hby d1_38) rfl (XT.ii_lt_t hc38) (by decide) (by decide) k)
      exact b48 T _ X eT N x0
    · refine Eq.mp (congrArg (fun z => Ends p e below s 0 0 (Q1 Z  h0 n0 z) (T.setTop (mkF m 38 #[.val (.int x0)] [(.int (127 : Int32)), (.int x0)]))) (show (F1_35 x0) = (F1_41 x0) from (if_neg hc38)).symm) ?_
      refine Ends.step (u' := (T.setTop (mkF m 41 #[.val (.int x0)] []))) ?_ (fun _ k => XS.icmpNo X.here hx rfl (hb hby d1_38) rfl (XT.ii_lt_f hc38) k)
      exact b41 T _ X eT N x0
  have b29 : ∀ (T : State) (L : List Loc) (X : Stand p l e ({ frames := 0, cells := 0, slots := 0, locals := 0 } : Room) s m #[(.int p0)] below meth c T L 0 0) (eT : T.heap = h0) (N : Fr n0 L) (x0 : Int32), Ends p e below s 0 0 (Q1 Z  h0 n0 (F1_29 x0)) (T.setTop (mkF m 29 #[.val (.int x0)] [])) := by
    intro T L X eT N x0
    refine Ends.step (u' := (T.setTop (mkF m 30 #[.val (.int x0)] [(.int x0)]))) ?_ (fun _ k => XS.iloadN X.here hx rfl (hb hby d1_29) rfl k)
    refine Ends.step (u' := (T.setTop (mkF m 32 #[.val (.int x0)] [(.int (31 : Int32)), (.int x0)]))) ?_ (fun _ k => XT.bipushV X.here hx rfl (31 : Int32) (hb hby d1_30) rfl k)
    by_cases hc32 : (31 : Int32) < x0
    · refine Eq.mp (congrArg (fun z => Ends p e below s 0 0 (Q1 Z  h0 n0 z) (T.setTop (mkF m 32 #[.val (.int x0)] [(.int (31 : Int32)), (.int x0)]))) (show (F1_29 x0) = (F1_35 x0) from (if_pos hc32)).symm) ?_
      refine Ends.step (u' := (T.setTop (mkF m 35 #[.val (.int x0)] []))) ?_ (fun _ k => XS.icmpNo X.here hx rfl (hb hby d1_32) rfl (XT.ii_le_f hc32) k)
      exact b35 T _ X eT N x0
    · refine Eq.mp (congrArg (fun z => Ends p e below s 0 0 (Q1 Z  h0 n0 z) (T.setTop (mkF m 32 #[.val (.int x0)] [(.int (31 : Int32)), (.int x0)]))) (show (F1_29 x0) = F1_62 from (if_neg hc32)).symm) ?_
      refine Ends.step (u' := (T.setTop (mkF m 62 #[.val (.int x0)] []))) ?_ (fun _ k => XS.icmpYes X.here hx rfl (pc0 := 32) (pc' := 62) rfl (hb hby d1_32) rfl (XT.ii_le_t hc32) (by decide) (by decide) k)
      exact b62 T _ X eT N (.val (.int x0)) (Or.inr ⟨_, rfl, rfl⟩)
  have b23 : ∀ (T : State) (L : List Loc) (X : Stand p l e ({ frames := 0, cells := 0, slots := 0, locals := 0 } : Room) s m #[(.int p0)] below meth c T L 0 0) (eT : T.heap = h0) (N : Fr n0 L) (x0 : Int32), Ends p e below s 0 0 (Q1 Z  h0 n0 (F1_23 x0)) (T.setTop (mkF m 23 #[.val (.int x0)] [])) := by
    intro T L X eT N x0
    refine Ends.step (u' := (T.setTop (mkF m 24 #[.val (.int x0)] [(.int x0)]))) ?_ (fun _ k => XS.iloadN X.here hx rfl (hb hby d1_23) rfl k)
    refine Ends.step (u' := (T.setTop (mkF m 26 #[.val (.int x0)] [(.int (14 : Int32)), (.int x0)]))) ?_ (fun _ k => XT.bipushV X.here hx rfl (14 : Int32) (hb hby d1_24) rfl k)
    by_cases hc26 : x0 < (14 : Int32)
    · refine Eq.mp (congrArg (fun z => Ends p e below s 0 0 (Q1 Z  h0 n0 z) (T.setTop (mkF m 26 #[.val (.int x0)] [(.int (14 : Int32)), (.int x0)]))) (show (F1_23 x0) = (F1_35 x0) from (if_pos hc26)).symm) ?_
      refine Ends.step (u' := (T.setTop (mkF m 35 #[.val (.int x0)] []))) ?_ (fun _ k => XS.icmpYes X.here hx rfl (pc0 := 26) (pc' := 35) rfl (hb hby d1_26) rfl (XT.ii_lt_t hc26) (by decide) (by decide) k)
      exact b35 T _ X eT N x0
    · refine Eq.mp (congrArg (fun z => Ends p e below s 0 0 (Q1 Z  h0 n0 z) (T.setTop (mkF m 26 #[.val (.int x0)] [(.int (14 : Int32)), (.int x0)]))) (show (F1_23 x0) = (F1_29 x0) from (if_neg hc26)).symm) ?_
      refine Ends.step (u' := (T.setTop (mkF m 29 #[.val (.int x0)] []))) ?_ (fun _ k => XS.icmpNo X.here hx rfl (hb hby d1_26) rfl (XT.ii_lt_f hc26) k)
      exact b29 T _ X eT N x0
  have b17 : ∀ (T : State) (L : List Loc) (X : Stand p l e ({ frames := 0, cells := 0, slots := 0, locals := 0 } : Room) s m #[(.int p0)] below meth c T L 0 0) (eT : T.heap = h0) (N : Fr n0 L) (x0 : Int32), Ends p e below s 0 0 (Q1 Z  h0 n0 (F1_17 x0)) (T.setTop (mkF m 17 #[.val (.int x0)] [])) := by
    intro T L X eT N x0
    refine Ends.step (u' := (T.setTop (mkF m 18 #[.val (.int x0)] [(.int x0)]))) ?_ (fun _ k => XS.iloadN X.here hx rfl (hb hby d1_17) rfl k)
    refine Ends.step (u' := (T.setTop (mkF m 20 #[.val (.int x0)] [(.int (12 : Int32)), (.int x0)]))) ?_ (fun _ k => XT.bipushV X.here hx rfl (12 : Int32) (hb hby d1_18) rfl k)
    by_cases hc20 : (12 : Int32) < x0
    · refine Eq.mp (congrArg (fun z => Ends p e below s 0 0 (Q1 Z  h0 n0 z) (T.setTop (mkF m 20 #[.val (.int x0)] [(.int (12 : Int32)), (.int x0)]))) (show (F1_17 x0) = (F1_23 x0) from (if_pos hc20)).symm) ?_
      refine Ends.step (u' := (T.setTop (mkF m 23 #[.val (.int x0)] []))) ?_ (fun _ k => XS.icmpNo X.here hx rfl (hb hby d1_20) rfl (XT.ii_le_f hc20) k)
      exact b23 T _ X eT N x0
    · refine Eq.mp (congrArg (fun z => Ends p e below s 0 0 (Q1 Z  h0 n0 z) (T.setTop (mkF m 20 #[.val (.int x0)] [(.int (12 : Int32)), (.int x0)]))) (show (F1_17 x0) = F1_62 from (if_neg hc20)).symm) ?_
      refine Ends.step (u' := (T.setTop (mkF m 62 #[.val (.int x0)] []))) ?_ (fun _ k => XS.icmpYes X.here hx rfl (pc0 := 20) (pc' := 62) rfl (hb hby d1_20) rfl (XT.ii_le_t hc20) (by decide) (by decide) k)
      exact b62 T _ X eT N (.val (.int x0)) (Or.inr ⟨_, rfl, rfl⟩)
  have b11 : ∀ (T : State) (L : List Loc) (X : Stand p l e ({ frames := 0, cells := 0, slots := 0, locals := 0 } : Room) s m #[(.int p0)] below meth c T L 0 0) (eT : T.heap = h0) (N : Fr n0 L) (x0 : Int32), Ends p e below s 0 0 (Q1 Z  h0 n0 (F1_11 x0)) (T.setTop (mkF m 11 #[.val (.int x0)] [])) := by
    intro T L X eT N x0
    refine Ends.step (u' := (T.setTop (mkF m 12 #[.val (.int x0)] [(.int x0)]))) ?_ (fun _ k => XS.iloadN X.here hx rfl (hb hby d1_11) rfl k)
    refine Ends.step (u' := (T.setTop (mkF m 14 #[.val (.int x0)] [(.int (11 : Int32)), (.int x0)]))) ?_ (fun _ k => XT.bipushV X.here hx rfl (11 : Int32) (hb hby d1_12) rfl k)
    by_cases hc14 : x0 < (11 : Int32)
    · refine Eq.mp (congrArg (fun z => Ends p e below s 0 0 (Q1 Z  h0 n0 z) (T.setTop (mkF m 14 #[.val (.int x0)] [(.int (11 : Int32)), (.int x0)]))) (show (F1_11 x0) = (F1_23 x0) from (if_pos hc14)).symm) ?_
      refine Ends.step (u' := (T.setTop (mkF m 23 #[.val (.int x0)] []))) ?_ (fun _ k => XS.icmpYes X.here hx rfl (pc0 := 14) (pc' := 23) rfl (hb hby d1_14) rfl (XT.ii_lt_t hc14) (by decide) (by decide) k)
      exact b23 T _ X eT N x0
    · refine Eq.mp (congrArg (fun z => Ends p e below s 0 0 (Q1 Z  h0 n0 z) (T.setTop (mkF m 14 #[.val (.int x0)] [(.int (11 : Int32)), (.int x0)]))) (show (F1_11 x0) = (F1_17 x0) from (if_neg hc14)).symm) ?_
      refine Ends.step (u' := (T.setTop (mkF m 17 #[.val (.int x0)] []))) ?_ (fun _ k => XS.icmpNo X.here hx rfl (hb hby d1_14) rfl (XT.ii_lt_f hc14) k)
      exact b17 T _ X eT N x0
  have b5 : ∀ (T : State) (L : List Loc) (X : Stand p l e ({ frames := 0, cells := 0, slots := 0, locals := 0 } : Room) s m #[(.int p0)] below meth c T L 0 0) (eT : T.heap = h0) (N : Fr n0 L) (x0 : Int32), Ends p e below s 0 0 (Q1 Z  h0 n0 (F1_5 x0)) (T.setTop (mkF m 5 #[.val (.int x0)] [])) := by
    intro T L X eT N x0
    refine Ends.step (u' := (T.setTop (mkF m 6 #[.val (.int x0)] [(.int x0)]))) ?_ (fun _ k => XS.iloadN X.here hx rfl (hb hby d1_5) rfl k)
    refine Ends.step (u' := (T.setTop (mkF m 8 #[.val (.int x0)] [(.int (8 : Int32)), (.int x0)]))) ?_ (fun _ k => XT.bipushV X.here hx rfl (8 : Int32) (hb hby d1_6) rfl k)
    by_cases hc8 : (8 : Int32) < x0
    · refine Eq.mp (congrArg (fun z => Ends p e below s 0 0 (Q1 Z  h0 n0 z) (T.setTop (mkF m 8 #[.val (.int x0)] [(.int (8 : Int32)), (.int x0)]))) (show (F1_5 x0) = (F1_11 x0) from (if_pos hc8)).symm) ?_
      refine Ends.step (u' := (T.setTop (mkF m 11 #[.val (.int x0)] []))) ?_ (fun _ k => XS.icmpNo X.here hx rfl (hb hby d1_8) rfl (XT.ii_le_f hc8) k)
      exact b11 T _ X eT N x0
    · refine Eq.mp (congrArg (fun z => Ends p e below s 0 0 (Q1 Z  h0 n0 z) (T.setTop (mkF m 8 #[.val (.int x0)] [(.int (8 : Int32)), (.int x0)]))) (show (F1_5 x0) = F1_62 from (if_neg hc8)).symm) ?_
      refine Ends.step (u' := (T.setTop (mkF m 62 #[.val (.int x0)] []))) ?_ (fun _ k => XS.icmpYes X.here hx rfl (pc0 := 8) (pc' := 62) rfl (hb hby d1_8) rfl (XT.ii_le_t hc8) (by decide) (by decide) k)
      exact b62 T _ X eT N (.val (.int x0)) (Or.inr ⟨_, rfl, rfl⟩)
  refine Ends.step (u' := (s₁.setTop (mkF m 0 #[.val (.int p0)] []))) ?_ (fun _ k => castTop (ef_1 m p0) k)
  refine Ends.step (u' := (s₁.setTop (mkF m 1 #[.val (.int p0)] [(.int p0)]))) ?_ (fun _ k => XS.iloadN X0.here hx rfl (hb hby d1_0) rfl k)
  refine Ends.step (u' := (s₁.setTop (mkF m 2 #[.val (.int p0)] [(.int (1 : Int32)), (.int p0)]))) ?_ (fun _ k => XT.iconstV X0.here hx rfl (1 : Int32) (hb hby d1_1) rfl k)
  by_cases hc2 : p0 < (1 : Int32)
  · refine Eq.mp (congrArg (fun z => Ends p e below s 0 0 (Q1 Z  h0 n0 z) (s₁.setTop (mkF m 2 #[.val (.int p0)] [(.int (1 : Int32)), (.int p0)]))) (show (F1 p0) = (F1_11 p0) from (if_pos hc2)).symm) ?_
    refine Ends.step (u' := (s₁.setTop (mkF m 11 #[.val (.int p0)] []))) ?_ (fun _ k => XS.icmpYes X0.here hx rfl (pc0 := 2) (pc' := 11) rfl (hb hby d1_2) rfl (XT.ii_lt_t hc2) (by decide) (by decide) k)
    exact b11 s₁ _ X0 e0 N0 p0
  · refine Eq.mp (congrArg (fun z => Ends p e below s 0 0 (Q1 Z  h0 n0 z) (s₁.setTop (mkF m 2 #[.val (.int p0)] [(.int (1 : Int32)), (.int p0)]))) (show (F1 p0) = (F1_5 p0) from (if_neg hc2)).symm) ?_
    refine Ends.step (u' := (s₁.setTop (mkF m 5 #[.val (.int p0)] []))) ?_ (fun _ k => XS.icmpNo X0.here hx rfl (hb hby d1_2) rfl (XT.ii_lt_f hc2) k)
    exact b5 s₁ _ X0 e0 N0 p0
theorem d2_0 : decode method_2_code 0 = .ok (.iload_n 0, 1) := by decide +kernel
theorem d2_1 : decode method_2_code 1 = .ok (.ifCond .lt 13, 3) := by decide +kernel
theorem d2_4 : decode method_2_code 4 = .ok (.iload_n 0, 1) := by decide +kernel
theorem d2_5 : decode method_2_code 5 = .ok (.bipush 32, 2) := by decide +kernel
theorem d2_7 : decode method_2_code 7 = .ok (.if_icmp .ge 7, 3) := by decide +kernel
theorem d2_10 : decode method_2_code 10 = .ok (.iconst 1, 1) := by decide +kernel
theorem d2_11 : decode method_2_code 11 = .ok (.goto 4, 3) := by decide +kernel
theorem d2_14 : decode method_2_code 14 = .ok (.iconst 0, 1) := by decide +kernel
theorem d2_15 : decode method_2_code 15 = .ok (.istore_n 1, 1) := by decide +kernel
theorem d2_16 : decode method_2_code 16 = .ok (.iload_n 0, 1) := by decide +kernel
theorem d2_17 : decode method_2_code 17 = .ok (.bipush 127, 2) := by decide +kernel
theorem d2_19 : decode method_2_code 19 = .ok (.if_icmp .lt 14, 3) := by decide +kernel
theorem d2_22 : decode method_2_code 22 = .ok (.iload_n 0, 1) := by decide +kernel
theorem d2_23 : decode method_2_code 23 = .ok (.sipush 160, 3) := by decide +kernel
theorem d2_26 : decode method_2_code 26 = .ok (.if_icmp .ge 7, 3) := by decide +kernel
theorem d2_29 : decode method_2_code 29 = .ok (.iconst 1, 1) := by decide +kernel
theorem d2_30 : decode method_2_code 30 = .ok (.goto 4, 3) := by decide +kernel
theorem d2_33 : decode method_2_code 33 = .ok (.iconst 0, 1) := by decide +kernel
theorem d2_34 : decode method_2_code 34 = .ok (.istore_n 2, 1) := by decide +kernel
theorem d2_35 : decode method_2_code 35 = .ok (.iload_n 1, 1) := by decide +kernel
theorem d2_36 : decode method_2_code 36 = .ok (.ifCond .ne 9, 3) := by decide +kernel
theorem d2_39 : decode method_2_code 39 = .ok (.iload_n 2, 1) := by decide +kernel
theorem d2_40 : decode method_2_code 40 = .ok (.ifCond .ne 5, 3) := by decide +kernel
theorem d2_43 : decode method_2_code 43 = .ok (.iconst 0, 1) := by decide +kernel
theorem d2_44 : decode method_2_code 44 = .ok (.ireturn, 1) := by decide +kernel
theorem d2_45 : decode method_2_code 45 = .ok (.iload_n 0, 1) := by decide +kernel
theorem d2_46 : decode method_2_code 46 = .ok (.ifCond .eq 32, 3) := by decide +kernel
theorem d2_49 : decode method_2_code 49 = .ok (.iload_n 0, 1) := by decide +kernel
theorem d2_50 : decode method_2_code 50 = .ok (.bipush 9, 2) := by decide +kernel
theorem d2_52 : decode method_2_code 52 = .ok (.if_icmp .eq 26, 3) := by decide +kernel
theorem d2_55 : decode method_2_code 55 = .ok (.iload_n 0, 1) := by decide +kernel
theorem d2_56 : decode method_2_code 56 = .ok (.bipush 10, 2) := by decide +kernel
theorem d2_58 : decode method_2_code 58 = .ok (.if_icmp .eq 20, 3) := by decide +kernel
theorem d2_61 : decode method_2_code 61 = .ok (.iload_n 0, 1) := by decide +kernel
theorem d2_62 : decode method_2_code 62 = .ok (.bipush 13, 2) := by decide +kernel
theorem d2_64 : decode method_2_code 64 = .ok (.if_icmp .eq 14, 3) := by decide +kernel
theorem d2_67 : decode method_2_code 67 = .ok (.iload_n 0, 1) := by decide +kernel
theorem d2_68 : decode method_2_code 68 = .ok (.sipush 133, 3) := by decide +kernel
theorem d2_71 : decode method_2_code 71 = .ok (.if_icmp .eq 7, 3) := by decide +kernel
theorem d2_74 : decode method_2_code 74 = .ok (.iconst 1, 1) := by decide +kernel
theorem d2_75 : decode method_2_code 75 = .ok (.goto 4, 3) := by decide +kernel
theorem d2_78 : decode method_2_code 78 = .ok (.iconst 0, 1) := by decide +kernel
theorem d2_79 : decode method_2_code 79 = .ok (.ireturn, 1) := by decide +kernel
theorem pn_2 : plainName "com/example/kuopio/kuopio/XmlCharsIsRestrictedCharPinLaw" = true := by first | (simp [plainName, overriddenIn]; done) | decide +kernel
theorem ef_2 (m : MethodId) (y0 : Int32) : entryFrame m #[(.int y0)] 3 = mkF m 0 #[.val (.int y0), .unset, .unset] [] := by first | rfl | (simp [entryFrame, mkF, argsToLocals, Value.category]; done)
def Q2 (Z : State)   (h0 : Heap) (n0 : Nat) (ans : Int32) (v : Option Value) (h : Heap) (L : List Loc) : Prop := v = some (.int ans) ∧ Fr n0 L ∧ h = h0
set_option maxRecDepth 65536 in
set_option maxHeartbeats 40000000 in
theorem rm2 (l : Launch) (Z : State) (a0 : Array Value) (hw : ∀ d ∈ tables_1, d.before a0 Z = true) (p0 : Int32)  (h0 : Heap) (n0 : Nat) (Z0 : n0 ≤ h0.size)  :
    Meets l Z (⟨"com/example/kuopio/kuopio/XmlCharsIsRestrictedCharPinLaw", "ref", "(I)Z"⟩ : MethodName) method_2_code 3 (some .boolean) [] ({ frames := 0, cells := 0, slots := 0, locals := 0 } : Room) #[(.int p0)] h0 (Q2 Z  h0 n0 (F2 p0)) 0 0 := by
  refine Meets.of pn_2 ?_
  intro p e s m below meth c s₁ hx hby hml hZ hown hnm hret hlk X0 e0
  have hml : c.maxLocals = 3 := hml
  have hown : s.vm.findClass "com/example/kuopio/kuopio/XmlCharsIsRestrictedCharPinLaw" = some m.cls := hown
  have N0 := Fr.nil n0
  have b43 : ∀ (T : State) (L : List Loc) (X : Stand p l e ({ frames := 0, cells := 0, slots := 0, locals := 0 } : Room) s m #[(.int p0)] below meth c T L 0 0) (eT : T.heap = h0) (N : Fr n0 L) (d0 : Slot) (od0 : OneS d0) (d1 : Slot) (od1 : OneS d1) (d2 : Slot) (od2 : OneS d2), Ends p e below s 0 0 (Q2 Z  h0 n0 F2_43) (T.setTop (mkF m 43 #[d0, d1, d2] [])) := by
    intro T L X eT N d0 od0 d1 od1 d2 od2
    refine Ends.step (u' := (T.setTop (mkF m 44 #[d0, d1, d2] [(.int (0 : Int32))]))) ?_ (fun _ k => XT.iconstV X.here hx rfl (0 : Int32) (hb hby d2_43) rfl k)
    exact Ends.ret X (v := some (.int (nar .boolean (0 : Int32)))) (fun q => by rw [hret] at q; cases q) hlk (fun fs hr => retN X hx (t := .boolean) hret (by simp) (hb hby d2_44) hr) (by decide) (by decide) ⟨rfl, N, eT⟩
  have b79 : ∀ (T : State) (L : List Loc) (X : Stand p l e ({ frames := 0, cells := 0, slots := 0, locals := 0 } : Room) s m #[(.int p0)] below meth c T L 0 0) (eT : T.heap = h0) (N : Fr n0 L) (t0 : Int32) (d0 : Slot) (od0 : OneS d0) (d1 : Slot) (od1 : OneS d1) (d2 : Slot) (od2 : OneS d2), Ends p e below s 0 0 (Q2 Z  h0 n0 (F2_79 t0)) (T.setTop (mkF m 79 #[d0, d1, d2] [(.int t0)])) := by
    intro T L X eT N t0 d0 od0 d1 od1 d2 od2
    exact Ends.ret X (v := some (.int (nar .boolean t0))) (fun q => by rw [hret] at q; cases q) hlk (fun fs hr => retN X hx (t := .boolean) hret (by simp) (hb hby d2_79) hr) (by decide) (by decide) ⟨rfl, N, eT⟩
  have b74 : ∀ (T : State) (L : List Loc) (X : Stand p l e ({ frames := 0, cells := 0, slots := 0, locals := 0 } : Room) s m #[(.int p0)] below meth c T L 0 0) (eT : T.heap = h0) (N : Fr n0 L) (d0 : Slot) (od0 : OneS d0) (d1 : Slot) (od1 : OneS d1) (d2 : Slot) (od2 : OneS d2), Ends p e below s 0 0 (Q2 Z  h0 n0 F2_74) (T.setTop (mkF m 74 #[d0, d1, d2] [])) := by
    intro T L X eT N d0 od0 d1 od1 d2 od2
    refine Ends.step (u' := (T.setTop (mkF m 75 #[d0, d1, d2] [(.int (1 : Int32))]))) ?_ (fun _ k => XT.iconstV X.here hx rfl (1 : Int32) (hb hby d2_74) rfl k)
    refine Ends.step (u' := (T.setTop (mkF m 79 #[d0, d1, d2] [(.int (1 : Int32))]))) ?_ (fun _ k => XS.goto X.here hx rfl (pc0 := 75) (pc' := 79) rfl (hb hby d2_75) (by decide) (by decide) k)
    exact b79 T _ X eT N (1 : Int32) (d0) od0 (d1) od1 (d2) od2
  have b78 : ∀ (T : State) (L : List Loc) (X : Stand p l e ({ frames := 0, cells := 0, slots := 0, locals := 0 } : Room) s m #[(.int p0)] below meth c T L 0 0) (eT : T.heap = h0) (N : Fr n0 L) (d0 : Slot) (od0 : OneS d0) (d1 : Slot) (od1 : OneS d1) (d2 : Slot) (od2 : OneS d2), Ends p e below s 0 0 (Q2 Z  h0 n0 F2_78) (T.setTop (mkF m 78 #[d0, d1, d2] [])) := by
    intro T L X eT N d0 od0 d1 od1 d2 od2
    refine Ends.step (u' := (T.setTop (mkF m 79 #[d0, d1, d2] [(.int (0 : Int32))]))) ?_ (fun _ k => XT.iconstV X.here hx rfl (0 : Int32) (hb hby d2_78) rfl k)
    exact b79 T _ X eT N (0 : Int32) (d0) od0 (d1) od1 (d2) od2
  have b67 : ∀ (T : State) (L : List Loc) (X : Stand p l e ({ frames := 0, cells := 0, slots := 0, locals := 0 } : Room) s m #[(.int p0)] below meth c T L 0 0) (eT : T.heap = h0) (N : Fr n0 L) (x0 : Int32) (d1 : Slot) (od1 : OneS d1) (d2 : Slot) (od2 : OneS d2), Ends p e below s 0 0 (Q2 Z  h0 n0 (F2_67 x0)) (T.setTop (mkF m 67 #[.val (.int x0), d1, d2] [])) := by
    intro T L X eT N x0 d1 od1 d2 od2
    refine Ends.step (u' := (T.setTop (mkF m 68 #[.val (.int x0), d1, d2] [(.int x0)]))) ?_ (fun _ k => XS.iloadN X.here hx rfl (hb hby d2_67) rfl k)
    refine Ends.step (u' := (T.setTop (mkF m 71 #[.val (.int x0), d1, d2] [(.int (133 : Int32)), (.int x0)]))) ?_ (fun _ k => XT.sipushV X.here hx rfl (133 : Int32) (hb hby d2_68) rfl k)
    by_cases hc71 : x0 = (133 : Int32)
    · refine Eq.mp (congrArg (fun z => Ends p e below s 0 0 (Q2 Z  h0 n0 z) (T.setTop (mkF m 71 #[.val (.int x0), d1, d2] [(.int (133 : Int32)), (.int x0)]))) (show (F2_67 x0) = F2_78 from (if_pos hc71)).symm) ?_
      refine Ends.step (u' := (T.setTop (mkF m 78 #[.val (.int x0), d1, d2] []))) ?_ (fun _ k => XS.icmpYes X.here hx rfl (pc0 := 71) (pc' := 78) rfl (hb hby d2_71) rfl (XT.ii_eq_t hc71) (by decide) (by decide) k)
      exact b78 T _ X eT N (.val (.int x0)) (Or.inr ⟨_, rfl, rfl⟩) (d1) od1 (d2) od2
    · refine Eq.mp (congrArg (fun z => Ends p e below s 0 0 (Q2 Z  h0 n0 z) (T.setTop (mkF m 71 #[.val (.int x0), d1, d2] [(.int (133 : Int32)), (.int x0)]))) (show (F2_67 x0) = F2_74 from (if_neg hc71)).symm) ?_
      refine Ends.step (u' := (T.setTop (mkF m 74 #[.val (.int x0), d1, d2] []))) ?_ (fun _ k => XS.icmpNo X.here hx rfl (hb hby d2_71) rfl (XT.ii_eq_f hc71) k)
      exact b74 T _ X eT N (.val (.int x0)) (Or.inr ⟨_, rfl, rfl⟩) (d1) od1 (d2) od2
  have b61 : ∀ (T : State) (L : List Loc) (X : Stand p l e ({ frames := 0, cells := 0, slots := 0, locals := 0 } : Room) s m #[(.int p0)] below meth c T L 0 0) (eT : T.heap = h0) (N : Fr n0 L) (x0 : Int32) (d1 : Slot) (od1 : OneS d1) (d2 : Slot) (od2 : OneS d2), Ends p e below s 0 0 (Q2 Z  h0 n0 (F2_61 x0)) (T.setTop (mkF m 61 #[.val (.int x0), d1, d2] [])) := by
    intro T L X eT N x0 d1 od1 d2 od2
    refine Ends.step (u' := (T.setTop (mkF m 62 #[.val (.int x0), d1, d2] [(.int x0)]))) ?_ (fun _ k => XS.iloadN X.here hx rfl (hb hby d2_61) rfl k)
    refine Ends.step (u' := (T.setTop (mkF m 64 #[.val (.int x0), d1, d2] [(.int (13 : Int32)), (.int x0)]))) ?_ (fun _ k => XT.bipushV X.here hx rfl (13 : Int32) (hb hby d2_62) rfl k)
    by_cases hc64 : x0 = (13 : Int32)
    · refine Eq.mp (congrArg (fun z => Ends p e below s 0 0 (Q2 Z  h0 n0 z) (T.setTop (mkF m 64 #[.val (.int x0), d1, d2] [(.int (13 : Int32)), (.int x0)]))) (show (F2_61 x0) = F2_78 from (if_pos hc64)).symm) ?_
      refine Ends.step (u' := (T.setTop (mkF m 78 #[.val (.int x0), d1, d2] []))) ?_ (fun _ k => XS.icmpYes X.here hx rfl (pc0 := 64) (pc' := 78) rfl (hb hby d2_64) rfl (XT.ii_eq_t hc64) (by decide) (by decide) k)
      exact b78 T _ X eT N (.val (.int x0)) (Or.inr ⟨_, rfl, rfl⟩) (d1) od1 (d2) od2
    · refine Eq.mp (congrArg (fun z => Ends p e below s 0 0 (Q2 Z  h0 n0 z) (T.setTop (mkF m 64 #[.val (.int x0), d1, d2] [(.int (13 : Int32)), (.int x0)]))) (show (F2_61 x0) = (F2_67 x0) from (if_neg hc64)).symm) ?_
      refine Ends.step (u' := (T.setTop (mkF m 67 #[.val (.int x0), d1, d2] []))) ?_ (fun _ k => XS.icmpNo X.here hx rfl (hb hby d2_64) rfl (XT.ii_eq_f hc64) k)
      exact b67 T _ X eT N x0 (d1) od1 (d2) od2
  have b55 : ∀ (T : State) (L : List Loc) (X : Stand p l e ({ frames := 0, cells := 0, slots := 0, locals := 0 } : Room) s m #[(.int p0)] below meth c T L 0 0) (eT : T.heap = h0) (N : Fr n0 L) (x0 : Int32) (d1 : Slot) (od1 : OneS d1) (d2 : Slot) (od2 : OneS d2), Ends p e below s 0 0 (Q2 Z  h0 n0 (F2_55 x0)) (T.setTop (mkF m 55 #[.val (.int x0), d1, d2] [])) := by
    intro T L X eT N x0 d1 od1 d2 od2
    refine Ends.step (u' := (T.setTop (mkF m 56 #[.val (.int x0), d1, d2] [(.int x0)]))) ?_ (fun _ k => XS.iloadN X.here hx rfl (hb hby d2_55) rfl k)
    refine Ends.step (u' := (T.setTop (mkF m 58 #[.val (.int x0), d1, d2] [(.int (10 : Int32)), (.int x0)]))) ?_ (fun _ k => XT.bipushV X.here hx rfl (10 : Int32) (hb hby d2_56) rfl k)
    by_cases hc58 : x0 = (10 : Int32)
    · refine Eq.mp (congrArg (fun z => Ends p e below s 0 0 (Q2 Z  h0 n0 z) (T.setTop (mkF m 58 #[.val (.int x0), d1, d2] [(.int (10 : Int32)), (.int x0)]))) (show (F2_55 x0) = F2_78 from (if_pos hc58)).symm) ?_
      refine Ends.step (u' := (T.setTop (mkF m 78 #[.val (.int x0), d1, d2] []))) ?_ (fun _ k => XS.icmpYes X.here hx rfl (pc0 := 58) (pc' := 78) rfl (hb hby d2_58) rfl (XT.ii_eq_t hc58) (by decide) (by decide) k)
      exact b78 T _ X eT N (.val (.int x0)) (Or.inr ⟨_, rfl, rfl⟩) (d1) od1 (d2) od2
    · refine Eq.mp (congrArg (fun z => Ends p e below s 0 0 (Q2 Z  h0 n0 z) (T.setTop (mkF m 58 #[.val (.int x0), d1, d2] [(.int (10 : Int32)), (.int x0)]))) (show (F2_55 x0) = (F2_61 x0) from (if_neg hc58)).symm) ?_
      refine Ends.step (u' := (T.setTop (mkF m 61 #[.val (.int x0), d1, d2] []))) ?_ (fun _ k => XS.icmpNo X.here hx rfl (hb hby d2_58) rfl (XT.ii_eq_f hc58) k)
      exact b61 T _ X eT N x0 (d1) od1 (d2) od2
  have b49 : ∀ (T : State) (L : List Loc) (X : Stand p l e ({ frames := 0, cells := 0, slots := 0, locals := 0 } : Room) s m #[(.int p0)] below meth c T L 0 0) (eT : T.heap = h0) (N : Fr n0 L) (x0 : Int32) (d1 : Slot) (od1 : OneS d1) (d2 : Slot) (od2 : OneS d2), Ends p e below s 0 0 (Q2 Z  h0 n0 (F2_49 x0)) (T.setTop (mkF m 49 #[.val (.int x0), d1, d2] [])) := by
    intro T L X eT N x0 d1 od1 d2 od2
    refine Ends.step (u' := (T.setTop (mkF m 50 #[.val (.int x0), d1, d2] [(.int x0)]))) ?_ (fun _ k => XS.iloadN X.here hx rfl (hb hby d2_49) rfl k)
    refine Ends.step (u' := (T.setTop (mkF m 52 #[.val (.int x0), d1, d2] [(.int (9 : Int32)), (.int x0)]))) ?_ (fun _ k => XT.bipushV X.here hx rfl (9 : Int32) (hb hby d2_50) rfl k)
    by_cases hc52 : x0 = (9 : Int32)
    · refine Eq.mp (congrArg (fun z => Ends p e below s 0 0 (Q2 Z  h0 n0 z) (T.setTop (mkF m 52 #[.val (.int x0), d1, d2] [(.int (9 : Int32)), (.int x0)]))) (show (F2_49 x0) = F2_78 from (if_pos hc52)).symm) ?_
      refine Ends.step (u' := (T.setTop (mkF m 78 #[.val (.int x0), d1, d2] []))) ?_ (fun _ k => XS.icmpYes X.here hx rfl (pc0 := 52) (pc' := 78) rfl (hb hby d2_52) rfl (XT.ii_eq_t hc52) (by decide) (by decide) k)
      exact b78 T _ X eT N (.val (.int x0)) (Or.inr ⟨_, rfl, rfl⟩) (d1) od1 (d2) od2
    · refine Eq.mp (congrArg (fun z => Ends p e below s 0 0 (Q2 Z  h0 n0 z) (T.setTop (mkF m 52 #[.val (.int x0), d1, d2] [(.int (9 : Int32)), (.int x0)]))) (show (F2_49 x0) = (F2_55 x0) from (if_neg hc52)).symm) ?_
      refine Ends.step (u' := (T.setTop (mkF m 55 #[.val (.int x0), d1, d2] []))) ?_ (fun _ k => XS.icmpNo X.here hx rfl (hb hby d2_52) rfl (XT.ii_eq_f hc52) k)
      exact b55 T _ X eT N x0 (d1) od1 (d2) od2
  have b45 : ∀ (T : State) (L : List Loc) (X : Stand p l e ({ frames := 0, cells := 0, slots := 0, locals := 0 } : Room) s m #[(.int p0)] below meth c T L 0 0) (eT : T.heap = h0) (N : Fr n0 L) (x0 : Int32) (d1 : Slot) (od1 : OneS d1) (d2 : Slot) (od2 : OneS d2), Ends p e below s 0 0 (Q2 Z  h0 n0 (F2_45 x0)) (T.setTop (mkF m 45 #[.val (.int x0), d1, d2] [])) := by
    intro T L X eT N x0 d1 od1 d2 od2
    refine Ends.step (u' := (T.setTop (mkF m 46 #[.val (.int x0), d1, d2] [(.int x0)]))) ?_ (fun _ k => XS.iloadN X.here hx rfl (hb hby d2_45) rfl k)
    by_cases hc46 : x0 = 0
    · refine Eq.mp (congrArg (fun z => Ends p e below s 0 0 (Q2 Z  h0 n0 z) (T.setTop (mkF m 46 #[.val (.int x0), d1, d2] [(.int x0)]))) (show (F2_45 x0) = F2_78 from (if_pos hc46)).symm) ?_
      refine Ends.step (u' := (T.setTop (mkF m 78 #[.val (.int x0), d1, d2] []))) ?_ (fun _ k => XS.ifYes X.here hx rfl (pc0 := 46) (pc' := 78) rfl (hb hby d2_46) rfl (XT.i0_eq_t hc46) (by decide) (by decide) k)
      exact b78 T _ X eT N (.val (.int x0)) (Or.inr ⟨_, rfl, rfl⟩) (d1) od1 (d2) od2
    · refine Eq.mp (congrArg (fun z => Ends p e below s 0 0 (Q2 Z  h0 n0 z) (T.setTop (mkF m 46 #[.val (.int x0), d1, d2] [(.int x0)]))) (show (F2_45 x0) = (F2_49 x0) from (if_neg hc46)).symm) ?_
      refine Ends.step (u' := (T.setTop (mkF m 49 #[.val (.int x0), d1, d2] []))) ?_ (fun _ k => XS.ifNo X.here hx rfl (hb hby d2_46) rfl (XT.i0_eq_f hc46) k)
      exact b49 T _ X eT N x0 (d1) od1 (d2) od2
  have b39 : ∀ (T : State) (L : List Loc) (X : Stand p l e ({ frames := 0, cells := 0, slots := 0, locals := 0 } : Room) s m #[(.int p0)] below meth c T L 0 0) (eT : T.heap = h0) (N : Fr n0 L) (x0 : Int32) (x2 : Int32) (d1 : Slot) (od1 : OneS d1), Ends p e below s 0 0 (Q2 Z  h0 n0 (F2_39 x0 x2)) (T.setTop (mkF m 39 #[.val (.int x0), d1, .val (.int x2)] [])) := by
    intro T L X eT N x0 x2 d1 od1
    refine Ends.step (u' := (T.setTop (mkF m 40 #[.val (.int x0), d1, .val (.int x2)] [(.int x2)]))) ?_ (fun _ k => XS.iloadN X.here hx rfl (hb hby d2_39) rfl k)
    by_cases hc40 : x2 = 0
    · refine Eq.mp (congrArg (fun z => Ends p e below s 0 0 (Q2 Z  h0 n0 z) (T.setTop (mkF m 40 #[.val (.int x0), d1, .val (.int x2)] [(.int x2)]))) (show (F2_39 x0 x2) = F2_43 from (if_pos hc40)).symm) ?_
      refine Ends.step (u' := (T.setTop (mkF m 43 #[.val (.int x0), d1, .val (.int x2)] []))) ?_ (fun _ k => XS.ifNo X.here hx rfl (hb hby d2_40) rfl (XT.i0_ne_f hc40) k)
      exact b43 T _ X eT N (.val (.int x0)) (Or.inr ⟨_, rfl, rfl⟩) (d1) od1 (.val (.int x2)) (Or.inr ⟨_, rfl, rfl⟩)
    · refine Eq.mp (congrArg (fun z => Ends p e below s 0 0 (Q2 Z  h0 n0 z) (T.setTop (mkF m 40 #[.val (.int x0), d1, .val (.int x2)] [(.int x2)]))) (show (F2_39 x0 x2) = (F2_45 x0) from (if_neg hc40)).symm) ?_
      refine Ends.step (u' := (T.setTop (mkF m 45 #[.val (.int x0), d1, .val (.int x2)] []))) ?_ (fun _ k => XS.ifYes X.here hx rfl (pc0 := 40) (pc' := 45) rfl (hb hby d2_40) rfl (XT.i0_ne_t hc40) (by decide) (by decide) k)
      exact b45 T _ X eT N x0 (d1) od1 (.val (.int x2)) (Or.inr ⟨_, rfl, rfl⟩)
  have b34 : ∀ (T : State) (L : List Loc) (X : Stand p l e ({ frames := 0, cells := 0, slots := 0, locals := 0 } : Room) s m #[(.int p0)] below meth c T L 0 0) (eT : T.heap = h0) (N : Fr n0 L) (x0 : Int32) (x1 : Int32) (t0 : Int32), Ends p e below s 0 0 (Q2 Z  h0 n0 (F2_34 x0 x1 t0)) (T.setTop (mkF m 34 #[.val (.int x0), .val (.int x1), .unset] [(.int t0)])) := by
    intro T L X eT N x0 x1 t0
    refine Ends.step (u' := (T.setTop (mkF m 35 #[.val (.int x0), .val (.int x1), .val (.int t0)] []))) ?_ (fun _ k => XS.istoreN X.here hx rfl (hb hby d2_34) rfl (l' := #[.val (.int x0), .val (.int x1), .val (.int t0)]) rfl k)
    refine Ends.step (u' := (T.setTop (mkF m 36 #[.val (.int x0), .val (.int x1), .val (.int t0)] [(.int x1)]))) ?_ (fun _ k => XS.iloadN X.here hx rfl (hb hby d2_35) rfl k)
    by_cases hc36 : x1 = 0
    · refine Eq.mp (congrArg (fun z => Ends p e below s 0 0 (Q2 Z  h0 n0 z) (T.setTop (mkF m 36 #[.val (.int x0), .val (.int x1), .val (.int t0)] [(.int x1)]))) (show (F2_34 x0 x1 t0) = (F2_39 x0 t0) from (if_pos hc36)).symm) ?_
      refine Ends.step (u' := (T.setTop (mkF m 39 #[.val (.int x0), .val (.int x1), .val (.int t0)] []))) ?_ (fun _ k => XS.ifNo X.here hx rfl (hb hby d2_36) rfl (XT.i0_ne_f hc36) k)
      exact b39 T _ X eT N x0 t0 (.val (.int x1)) (Or.inr ⟨_, rfl, rfl⟩)
    · refine Eq.mp (congrArg (fun z => Ends p e below s 0 0 (Q2 Z  h0 n0 z) (T.setTop (mkF m 36 #[.val (.int x0), .val (.int x1), .val (.int t0)] [(.int x1)]))) (show (F2_34 x0 x1 t0) = (F2_45 x0) from (if_neg hc36)).symm) ?_
      refine Ends.step (u' := (T.setTop (mkF m 45 #[.val (.int x0), .val (.int x1), .val (.int t0)] []))) ?_ (fun _ k => XS.ifYes X.here hx rfl (pc0 := 36) (pc' := 45) rfl (hb hby d2_36) rfl (XT.i0_ne_t hc36) (by decide) (by decide) k)
      exact b45 T _ X eT N x0 (.val (.int x1)) (Or.inr ⟨_, rfl, rfl⟩) (.val (.int t0)) (Or.inr ⟨_, rfl, rfl⟩)
  have b29 : ∀ (T : State) (L : List Loc) (X : Stand p l e ({ frames := 0, cells := 0, slots := 0, locals := 0 } : Room) s m #[(.int p0)] below meth c T L 0 0) (eT : T.heap = h0) (N : Fr n0 L) (x0 : Int32) (x1 : Int32), Ends p e below s 0 0 (Q2 Z  h0 n0 (F2_29 x0 x1)) (T.setTop (mkF m 29 #[.val (.int x0), .val (.int x1), .unset] [])) := by
    intro T L X eT N x0 x1
    refine Ends.step (u' := (T.setTop (mkF m 30 #[.val (.int x0), .val (.int x1), .unset] [(.int (1 : Int32))]))) ?_ (fun _ k => XT.iconstV X.here hx rfl (1 : Int32) (hb hby d2_29) rfl k)
    refine Ends.step (u' := (T.setTop (mkF m 34 #[.val (.int x0), .val (.int x1), .unset] [(.int (1 : Int32))]))) ?_ (fun _ k => XS.goto X.here hx rfl (pc0 := 30) (pc' := 34) rfl (hb hby d2_30) (by decide) (by decide) k)
    exact b34 T _ X eT N x0 x1 (1 : Int32)
  have b33 : ∀ (T : State) (L : List Loc) (X : Stand p l e ({ frames := 0, cells := 0, slots := 0, locals := 0 } : Room) s m #[(.int p0)] below meth c T L 0 0) (eT : T.heap = h0) (N : Fr n0 L) (x0 : Int32) (x1 : Int32), Ends p e below s 0 0 (Q2 Z  h0 n0 (F2_33 x0 x1)) (T.setTop (mkF m 33 #[.val (.int x0), .val (.int x1), .unset] [])) := by
    intro T L X eT N x0 x1
    refine Ends.step (u' := (T.setTop (mkF m 34 #[.val (.int x0), .val (.int x1), .unset] [(.int (0 : Int32))]))) ?_ (fun _ k => XT.iconstV X.here hx rfl (0 : Int32) (hb hby d2_33) rfl k)
    exact b34 T _ X eT N x0 x1 (0 : Int32)
  have b22 : ∀ (T : State) (L : List Loc) (X : Stand p l e ({ frames := 0, cells := 0, slots := 0, locals := 0 } : Room) s m #[(.int p0)] below meth c T L 0 0) (eT : T.heap = h0) (N : Fr n0 L) (x0 : Int32) (x1 : Int32), Ends p e below s 0 0 (Q2 Z  h0 n0 (F2_22 x0 x1)) (T.setTop (mkF m 22 #[.val (.int x0), .val (.int x1), .unset] [])) := by
    intro T L X eT N x0 x1
    refine Ends.step (u' := (T.setTop (mkF m 23 #[.val (.int x0), .val (.int x1), .unset] [(.int x0)]))) ?_ (fun _ k => XS.iloadN X.here hx rfl (hb hby d2_22) rfl k)
    refine Ends.step (u' := (T.setTop (mkF m 26 #[.val (.int x0), .val (.int x1), .unset] [(.int (160 : Int32)), (.int x0)]))) ?_ (fun _ k => XT.sipushV X.here hx rfl (160 : Int32) (hb hby d2_23) rfl k)
    by_cases hc26 : x0 < (160 : Int32)
    · refine Eq.mp (congrArg (fun z => Ends p e below s 0 0 (Q2 Z  h0 n0 z) (T.setTop (mkF m 26 #[.val (.int x0), .val (.int x1), .unset] [(.int (160 : Int32)), (.int x0)]))) (show (F2_22 x0 x1) = (F2_29 x0 x1) from (if_pos hc26)).symm) ?_
      refine Ends.step (u' := (T.setTop (mkF m 29 #[.val (.int x0), .val (.int x1), .unset] []))) ?_ (fun _ k => XS.icmpNo X.here hx rfl (hb hby d2_26) rfl (XT.ii_ge_f hc26) k)
      exact b29 T _ X eT N x0 x1
    · refine Eq.mp (congrArg (fun z => Ends p e below s 0 0 (Q2 Z  h0 n0 z) (T.setTop (mkF m 26 #[.val (.int x0), .val (.int x1), .unset] [(.int (160 : Int32)), (.int x0)]))) (show (F2_22 x0 x1) = (F2_33 x0 x1) from (if_neg hc26)).symm) ?_
      refine Ends.step (u' := (T.setTop (mkF m 33 #[.val (.int x0), .val (.int x1), .unset] []))) ?_ (fun _ k => XS.icmpYes X.here hx rfl (pc0 := 26) (pc' := 33) rfl (hb hby d2_26) rfl (XT.ii_ge_t hc26) (by decide) (by decide) k)
      exact b33 T _ X eT N x0 x1
  have b15 : ∀ (T : State) (L : List Loc) (X : Stand p l e ({ frames := 0, cells := 0, slots := 0, locals := 0 } : Room) s m #[(.int p0)] below meth c T L 0 0) (eT : T.heap = h0) (N : Fr n0 L) (x0 : Int32) (t0 : Int32), Ends p e below s 0 0 (Q2 Z  h0 n0 (F2_15 x0 t0)) (T.setTop (mkF m 15 #[.val (.int x0), .unset, .unset] [(.int t0)])) := by
    intro T L X eT N x0 t0
    refine Ends.step (u' := (T.setTop (mkF m 16 #[.val (.int x0), .val (.int t0), .unset] []))) ?_ (fun _ k => XS.istoreN X.here hx rfl (hb hby d2_15) rfl (l' := #[.val (.int x0), .val (.int t0), .unset]) rfl k)
    refine Ends.step (u' := (T.setTop (mkF m 17 #[.val (.int x0), .val (.int t0), .unset] [(.int x0)]))) ?_ (fun _ k => XS.iloadN X.here hx rfl (hb hby d2_16) rfl k)
    refine Ends.step (u' := (T.setTop (mkF m 19 #[.val (.int x0), .val (.int t0), .unset] [(.int (127 : Int32)), (.int x0)]))) ?_ (fun _ k => XT.bipushV X.here hx rfl (127 : Int32) (hb hby d2_17) rfl k)
    by_cases hc19 : x0 < (127 : Int32)
    · refine Eq.mp (congrArg (fun z => Ends p e below s 0 0 (Q2 Z  h0 n0 z) (T.setTop (mkF m 19 #[.val (.int x0), .val (.int t0), .unset] [(.int (127 : Int32)), (.int x0)]))) (show (F2_15 x0 t0) = (F2_33 x0 t0) from (if_pos hc19)).symm) ?_
      refine Ends.step (u' := (T.setTop (mkF m 33 #[.val (.int x0), .val (.int t0), .unset] []))) ?_ (fun _ k => XS.icmpYes X.here hx rfl (pc0 := 19) (pc' := 33) rfl (hb hby d2_19) rfl (XT.ii_lt_t hc19) (by decide) (by decide) k)
      exact b33 T _ X eT N x0 t0
    · refine Eq.mp (congrArg (fun z => Ends p e below s 0 0 (Q2 Z  h0 n0 z) (T.setTop (mkF m 19 #[.val (.int x0), .val (.int t0), .unset] [(.int (127 : Int32)), (.int x0)]))) (show (F2_15 x0 t0) = (F2_22 x0 t0) from (if_neg hc19)).symm) ?_
      refine Ends.step (u' := (T.setTop (mkF m 22 #[.val (.int x0), .val (.int t0), .unset] []))) ?_ (fun _ k => XS.icmpNo X.here hx rfl (hb hby d2_19) rfl (XT.ii_lt_f hc19) k)
      exact b22 T _ X eT N x0 t0
  have b10 : ∀ (T : State) (L : List Loc) (X : Stand p l e ({ frames := 0, cells := 0, slots := 0, locals := 0 } : Room) s m #[(.int p0)] below meth c T L 0 0) (eT : T.heap = h0) (N : Fr n0 L) (x0 : Int32), Ends p e below s 0 0 (Q2 Z  h0 n0 (F2_10 x0)) (T.setTop (mkF m 10 #[.val (.int x0), .unset, .unset] [])) := by
    intro T L X eT N x0
    refine Ends.step (u' := (T.setTop (mkF m 11 #[.val (.int x0), .unset, .unset] [(.int (1 : Int32))]))) ?_ (fun _ k => XT.iconstV X.here hx rfl (1 : Int32) (hb hby d2_10) rfl k)
    refine Ends.step (u' := (T.setTop (mkF m 15 #[.val (.int x0), .unset, .unset] [(.int (1 : Int32))]))) ?_ (fun _ k => XS.goto X.here hx rfl (pc0 := 11) (pc' := 15) rfl (hb hby d2_11) (by decide) (by decide) k)
    exact b15 T _ X eT N x0 (1 : Int32)
  have b14 : ∀ (T : State) (L : List Loc) (X : Stand p l e ({ frames := 0, cells := 0, slots := 0, locals := 0 } : Room) s m #[(.int p0)] below meth c T L 0 0) (eT : T.heap = h0) (N : Fr n0 L) (x0 : Int32), Ends p e below s 0 0 (Q2 Z  h0 n0 (F2_14 x0)) (T.setTop (mkF m 14 #[.val (.int x0), .unset, .unset] [])) := by
    intro T L X eT N x0
    refine Ends.step (u' := (T.setTop (mkF m 15 #[.val (.int x0), .unset, .unset] [(.int (0 : Int32))]))) ?_ (fun _ k => XT.iconstV X.here hx rfl (0 : Int32) (hb hby d2_14) rfl k)
    exact b15 T _ X eT N x0 (0 : Int32)
  have b4 : ∀ (T : State) (L : List Loc) (X : Stand p l e ({ frames := 0, cells := 0, slots := 0, locals := 0 } : Room) s m #[(.int p0)] below meth c T L 0 0) (eT : T.heap = h0) (N : Fr n0 L) (x0 : Int32), Ends p e below s 0 0 (Q2 Z  h0 n0 (F2_4 x0)) (T.setTop (mkF m 4 #[.val (.int x0), .unset, .unset] [])) := by
    intro T L X eT N x0
    refine Ends.step (u' := (T.setTop (mkF m 5 #[.val (.int x0), .unset, .unset] [(.int x0)]))) ?_ (fun _ k => XS.iloadN X.here hx rfl (hb hby d2_4) rfl k)
    refine Ends.step (u' := (T.setTop (mkF m 7 #[.val (.int x0), .unset, .unset] [(.int (32 : Int32)), (.int x0)]))) ?_ (fun _ k => XT.bipushV X.here hx rfl (32 : Int32) (hb hby d2_5) rfl k)
    by_cases hc7 : x0 < (32 : Int32)
    · refine Eq.mp (congrArg (fun z => Ends p e below s 0 0 (Q2 Z  h0 n0 z) (T.setTop (mkF m 7 #[.val (.int x0), .unset, .unset] [(.int (32 : Int32)), (.int x0)]))) (show (F2_4 x0) = (F2_10 x0) from (if_pos hc7)).symm) ?_
      refine Ends.step (u' := (T.setTop (mkF m 10 #[.val (.int x0), .unset, .unset] []))) ?_ (fun _ k => XS.icmpNo X.here hx rfl (hb hby d2_7) rfl (XT.ii_ge_f hc7) k)
      exact b10 T _ X eT N x0
    · refine Eq.mp (congrArg (fun z => Ends p e below s 0 0 (Q2 Z  h0 n0 z) (T.setTop (mkF m 7 #[.val (.int x0), .unset, .unset] [(.int (32 : Int32)), (.int x0)]))) (show (F2_4 x0) = (F2_14 x0) from (if_neg hc7)).symm) ?_
      refine Ends.step (u' := (T.setTop (mkF m 14 #[.val (.int x0), .unset, .unset] []))) ?_ (fun _ k => XS.icmpYes X.here hx rfl (pc0 := 7) (pc' := 14) rfl (hb hby d2_7) rfl (XT.ii_ge_t hc7) (by decide) (by decide) k)
      exact b14 T _ X eT N x0
  refine Ends.step (u' := (s₁.setTop (mkF m 0 #[.val (.int p0), .unset, .unset] []))) ?_ (fun _ k => castTop (ef_2 m p0) k)
  refine Ends.step (u' := (s₁.setTop (mkF m 1 #[.val (.int p0), .unset, .unset] [(.int p0)]))) ?_ (fun _ k => XS.iloadN X0.here hx rfl (hb hby d2_0) rfl k)
  by_cases hc1 : p0 < 0
  · refine Eq.mp (congrArg (fun z => Ends p e below s 0 0 (Q2 Z  h0 n0 z) (s₁.setTop (mkF m 1 #[.val (.int p0), .unset, .unset] [(.int p0)]))) (show (F2 p0) = (F2_14 p0) from (if_pos hc1)).symm) ?_
    refine Ends.step (u' := (s₁.setTop (mkF m 14 #[.val (.int p0), .unset, .unset] []))) ?_ (fun _ k => XS.ifYes X0.here hx rfl (pc0 := 1) (pc' := 14) rfl (hb hby d2_1) rfl (XT.i0_lt_t hc1) (by decide) (by decide) k)
    exact b14 s₁ _ X0 e0 N0 p0
  · refine Eq.mp (congrArg (fun z => Ends p e below s 0 0 (Q2 Z  h0 n0 z) (s₁.setTop (mkF m 1 #[.val (.int p0), .unset, .unset] [(.int p0)]))) (show (F2 p0) = (F2_4 p0) from (if_neg hc1)).symm) ?_
    refine Ends.step (u' := (s₁.setTop (mkF m 4 #[.val (.int p0), .unset, .unset] []))) ?_ (fun _ k => XS.ifNo X0.here hx rfl (hb hby d2_1) rfl (XT.i0_lt_f hc1) k)
    exact b4 s₁ _ X0 e0 N0 p0
theorem pn_0 : plainName "com/example/kuopio/kuopio/XmlCharsIsRestrictedCharPinLaw" = true := by first | (simp [plainName, overriddenIn]; done) | decide +kernel
theorem ef_0 (m : MethodId) (y0 : Int32) (y1 : Int32) : entryFrame m #[(.int y0), (.int y1)] maxLocals = mkF m 0 #[.val (.int y0), .val (.int y1), .unset, .unset, .unset] [] := by first | rfl | (simp [entryFrame, mkF, argsToLocals, Value.category, maxLocals]; done)
def Q0 (Z : State)   (h0 : Heap) (n0 : Nat) (ans : Int32) (v : Option Value) (h : Heap) (L : List Loc) : Prop := v = some (.int ans) ∧ Fr n0 L
set_option maxRecDepth 65536 in
set_option maxHeartbeats 40000000 in
theorem rm0 (l : Launch) (Z : State) (a0 : Array Value) (hw : ∀ d ∈ tables_1, d.before a0 Z = true) (p0 : Int32) (p1 : Int32)  (h0 : Heap) (n0 : Nat) (Z0 : n0 ≤ h0.size)  :
    Meets l Z x code maxLocals ret tables_1 room_1 #[(.int p0), (.int p1)] h0 (Q0 Z  h0 n0 (F0 p0 p1)) 0 0 := by
  refine Meets.of pn_0 ?_
  intro p e s m below meth c s₁ hx hby hml hZ hown hnm hret hlk X0 e0
  have hml : c.maxLocals = 5 := hml
  have hown : s.vm.findClass "com/example/kuopio/kuopio/XmlCharsIsRestrictedCharPinLaw" = some m.cls := hown
  have N0 := Fr.nil n0
  have b55 : ∀ (T : State) (L : List Loc) (X : Stand p l e room_1 s m #[(.int p0), (.int p1)] below meth c T L 0 0) (eT : T.heap = h0) (N : Fr n0 L) (t0 : Int32) (d0 : Slot) (od0 : OneS d0) (d1 : Slot) (od1 : OneS d1) (d2 : Slot) (od2 : OneS d2) (d3 : Slot) (od3 : OneS d3) (d4 : Slot) (od4 : OneS d4), Ends p e below s 0 0 (Q0 Z  h0 n0 (F0_55 t0)) (T.setTop (mkF m 55 #[d0, d1, d2, d3, d4] [(.int t0)])) := by
    intro T L X eT N t0 d0 od0 d1 od1 d2 od2 d3 od3 d4 od4
    exact Ends.ret X (v := some (.int (nar .boolean t0))) (fun q => by rw [hret] at q; cases q) hlk (fun fs hr => retN X hx (t := .boolean) hret (by simp) (hb hby at_55) hr) (by decide) (by decide) ⟨rfl, N⟩
  have b50 : ∀ (T : State) (L : List Loc) (X : Stand p l e room_1 s m #[(.int p0), (.int p1)] below meth c T L 0 0) (eT : T.heap = h0) (N : Fr n0 L) (d0 : Slot) (od0 : OneS d0) (d1 : Slot) (od1 : OneS d1) (d2 : Slot) (od2 : OneS d2) (d3 : Slot) (od3 : OneS d3) (d4 : Slot) (od4 : OneS d4), Ends p e below s 0 0 (Q0 Z  h0 n0 F0_50) (T.setTop (mkF m 50 #[d0, d1, d2, d3, d4] [])) := by
    intro T L X eT N d0 od0 d1 od1 d2 od2 d3 od3 d4 od4
    refine Ends.step (u' := (T.setTop (mkF m 51 #[d0, d1, d2, d3, d4] [(.int (1 : Int32))]))) ?_ (fun _ k => XT.iconstV X.here hx rfl (1 : Int32) (hb hby at_50) rfl k)
    refine Ends.step (u' := (T.setTop (mkF m 55 #[d0, d1, d2, d3, d4] [(.int (1 : Int32))]))) ?_ (fun _ k => XS.goto X.here hx rfl (pc0 := 51) (pc' := 55) rfl (hb hby at_51) (by decide) (by decide) k)
    exact b55 T _ X eT N (1 : Int32) (d0) od0 (d1) od1 (d2) od2 (d3) od3 (d4) od4
  have b54 : ∀ (T : State) (L : List Loc) (X : Stand p l e room_1 s m #[(.int p0), (.int p1)] below meth c T L 0 0) (eT : T.heap = h0) (N : Fr n0 L) (d0 : Slot) (od0 : OneS d0) (d1 : Slot) (od1 : OneS d1) (d2 : Slot) (od2 : OneS d2) (d3 : Slot) (od3 : OneS d3) (d4 : Slot) (od4 : OneS d4), Ends p e below s 0 0 (Q0 Z  h0 n0 F0_54) (T.setTop (mkF m 54 #[d0, d1, d2, d3, d4] [])) := by
    intro T L X eT N d0 od0 d1 od1 d2 od2 d3 od3 d4 od4
    refine Ends.step (u' := (T.setTop (mkF m 55 #[d0, d1, d2, d3, d4] [(.int (0 : Int32))]))) ?_ (fun _ k => XT.iconstV X.here hx rfl (0 : Int32) (hb hby at_54) rfl k)
    exact b55 T _ X eT N (0 : Int32) (d0) od0 (d1) od1 (d2) od2 (d3) od3 (d4) od4
  have b45 : ∀ (T : State) (L : List Loc) (X : Stand p l e room_1 s m #[(.int p0), (.int p1)] below meth c T L 0 0) (eT : T.heap = h0) (N : Fr n0 L) (x4 : Int32) (d0 : Slot) (od0 : OneS d0) (d1 : Slot) (od1 : OneS d1) (d2 : Slot) (od2 : OneS d2) (d3 : Slot) (od3 : OneS d3), Ends p e below s 0 0 (Q0 Z  h0 n0 (F0_45 x4)) (T.setTop (mkF m 45 #[d0, d1, d2, d3, .val (.int x4)] [])) := by
    intro T L X eT N x4 d0 od0 d1 od1 d2 od2 d3 od3
    refine Ends.step (u' := (T.setTop (mkF m 47 #[d0, d1, d2, d3, .val (.int x4)] [(.int x4)]))) ?_ (fun _ k => XS.iload X.here hx rfl (hb hby at_45) rfl k)
    by_cases hc47 : x4 = 0
    · refine Eq.mp (congrArg (fun z => Ends p e below s 0 0 (Q0 Z  h0 n0 z) (T.setTop (mkF m 47 #[d0, d1, d2, d3, .val (.int x4)] [(.int x4)]))) (show (F0_45 x4) = F0_54 from (if_pos hc47)).symm) ?_
      refine Ends.step (u' := (T.setTop (mkF m 54 #[d0, d1, d2, d3, .val (.int x4)] []))) ?_ (fun _ k => XS.ifYes X.here hx rfl (pc0 := 47) (pc' := 54) rfl (hb hby at_47) rfl (XT.i0_eq_t hc47) (by decide) (by decide) k)
      exact b54 T _ X eT N (d0) od0 (d1) od1 (d2) od2 (d3) od3 (.val (.int x4)) (Or.inr ⟨_, rfl, rfl⟩)
    · refine Eq.mp (congrArg (fun z => Ends p e below s 0 0 (Q0 Z  h0 n0 z) (T.setTop (mkF m 47 #[d0, d1, d2, d3, .val (.int x4)] [(.int x4)]))) (show (F0_45 x4) = F0_50 from (if_neg hc47)).symm) ?_
      refine Ends.step (u' := (T.setTop (mkF m 50 #[d0, d1, d2, d3, .val (.int x4)] []))) ?_ (fun _ k => XS.ifNo X.here hx rfl (hb hby at_47) rfl (XT.i0_eq_f hc47) k)
      exact b50 T _ X eT N (d0) od0 (d1) od1 (d2) od2 (d3) od3 (.val (.int x4)) (Or.inr ⟨_, rfl, rfl⟩)
  have b39 : ∀ (T : State) (L : List Loc) (X : Stand p l e room_1 s m #[(.int p0), (.int p1)] below meth c T L 0 0) (eT : T.heap = h0) (N : Fr n0 L) (x3 : Int32) (t0 : Int32) (d0 : Slot) (od0 : OneS d0) (d1 : Slot) (od1 : OneS d1) (d2 : Slot) (od2 : OneS d2), Ends p e below s 0 0 (Q0 Z  h0 n0 (F0_39 x3 t0)) (T.setTop (mkF m 39 #[d0, d1, d2, .val (.int x3), .unset] [(.int t0)])) := by
    intro T L X eT N x3 t0 d0 od0 d1 od1 d2 od2
    refine Ends.step (u' := (T.setTop (mkF m 41 #[d0, d1, d2, .val (.int x3), .val (.int t0)] []))) ?_ (fun _ k => XS.istore X.here hx rfl (hb hby at_39) rfl (l' := #[d0, d1, d2, .val (.int x3), .val (.int t0)]) rfl k)
    refine Ends.step (u' := (T.setTop (mkF m 42 #[d0, d1, d2, .val (.int x3), .val (.int t0)] [(.int x3)]))) ?_ (fun _ k => XS.iloadN X.here hx rfl (hb hby at_41) rfl k)
    by_cases hc42 : x3 = 0
    · refine Eq.mp (congrArg (fun z => Ends p e below s 0 0 (Q0 Z  h0 n0 z) (T.setTop (mkF m 42 #[d0, d1, d2, .val (.int x3), .val (.int t0)] [(.int x3)]))) (show (F0_39 x3 t0) = F0_54 from (if_pos hc42)).symm) ?_
      refine Ends.step (u' := (T.setTop (mkF m 54 #[d0, d1, d2, .val (.int x3), .val (.int t0)] []))) ?_ (fun _ k => XS.ifYes X.here hx rfl (pc0 := 42) (pc' := 54) rfl (hb hby at_42) rfl (XT.i0_eq_t hc42) (by decide) (by decide) k)
      exact b54 T _ X eT N (d0) od0 (d1) od1 (d2) od2 (.val (.int x3)) (Or.inr ⟨_, rfl, rfl⟩) (.val (.int t0)) (Or.inr ⟨_, rfl, rfl⟩)
    · refine Eq.mp (congrArg (fun z => Ends p e below s 0 0 (Q0 Z  h0 n0 z) (T.setTop (mkF m 42 #[d0, d1, d2, .val (.int x3), .val (.int t0)] [(.int x3)]))) (show (F0_39 x3 t0) = (F0_45 t0) from (if_neg hc42)).symm) ?_
      refine Ends.step (u' := (T.setTop (mkF m 45 #[d0, d1, d2, .val (.int x3), .val (.int t0)] []))) ?_ (fun _ k => XS.ifNo X.here hx rfl (hb hby at_42) rfl (XT.i0_eq_f hc42) k)
      exact b45 T _ X eT N t0 (d0) od0 (d1) od1 (d2) od2 (.val (.int x3)) (Or.inr ⟨_, rfl, rfl⟩)
  have b34 : ∀ (T : State) (L : List Loc) (X : Stand p l e room_1 s m #[(.int p0), (.int p1)] below meth c T L 0 0) (eT : T.heap = h0) (N : Fr n0 L) (x3 : Int32) (d0 : Slot) (od0 : OneS d0) (d1 : Slot) (od1 : OneS d1) (d2 : Slot) (od2 : OneS d2), Ends p e below s 0 0 (Q0 Z  h0 n0 (F0_34 x3)) (T.setTop (mkF m 34 #[d0, d1, d2, .val (.int x3), .unset] [])) := by
    intro T L X eT N x3 d0 od0 d1 od1 d2 od2
    refine Ends.step (u' := (T.setTop (mkF m 35 #[d0, d1, d2, .val (.int x3), .unset] [(.int (1 : Int32))]))) ?_ (fun _ k => XT.iconstV X.here hx rfl (1 : Int32) (hb hby at_34) rfl k)
    refine Ends.step (u' := (T.setTop (mkF m 39 #[d0, d1, d2, .val (.int x3), .unset] [(.int (1 : Int32))]))) ?_ (fun _ k => XS.goto X.here hx rfl (pc0 := 35) (pc' := 39) rfl (hb hby at_35) (by decide) (by decide) k)
    exact b39 T _ X eT N x3 (1 : Int32) (d0) od0 (d1) od1 (d2) od2
  have b38 : ∀ (T : State) (L : List Loc) (X : Stand p l e room_1 s m #[(.int p0), (.int p1)] below meth c T L 0 0) (eT : T.heap = h0) (N : Fr n0 L) (x3 : Int32) (d0 : Slot) (od0 : OneS d0) (d1 : Slot) (od1 : OneS d1) (d2 : Slot) (od2 : OneS d2), Ends p e below s 0 0 (Q0 Z  h0 n0 (F0_38 x3)) (T.setTop (mkF m 38 #[d0, d1, d2, .val (.int x3), .unset] [])) := by
    intro T L X eT N x3 d0 od0 d1 od1 d2 od2
    refine Ends.step (u' := (T.setTop (mkF m 39 #[d0, d1, d2, .val (.int x3), .unset] [(.int (0 : Int32))]))) ?_ (fun _ k => XT.iconstV X.here hx rfl (0 : Int32) (hb hby at_38) rfl k)
    exact b39 T _ X eT N x3 (0 : Int32) (d0) od0 (d1) od1 (d2) od2
  have b22 : ∀ (T : State) (L : List Loc) (X : Stand p l e room_1 s m #[(.int p0), (.int p1)] below meth c T L 0 0) (eT : T.heap = h0) (N : Fr n0 L) (x2 : Int32) (t0 : Int32) (d0 : Slot) (od0 : OneS d0) (d1 : Slot) (od1 : OneS d1), Ends p e below s 0 0 (Q0 Z  h0 n0 (F0_22 x2 t0)) (T.setTop (mkF m 22 #[d0, d1, .val (.int x2), .unset, .unset] [(.int t0)])) := by
    intro T L X eT N x2 t0 d0 od0 d1 od1
    refine Ends.step (u' := (T.setTop (mkF m 23 #[d0, d1, .val (.int x2), .val (.int t0), .unset] []))) ?_ (fun _ k => XS.istoreN X.here hx rfl (hb hby at_22) rfl (l' := #[d0, d1, .val (.int x2), .val (.int t0), .unset]) rfl k)
    refine Ends.step (u' := (T.setTop (mkF m 24 #[d0, d1, .val (.int x2), .val (.int t0), .unset] [(.int x2)]))) ?_ (fun _ k => XS.iloadN X.here hx rfl (hb hby at_23) rfl k)
    refine Ends.callS X hx hZ hown (hw _ (List.mem_of_getElem? (i := 0) rfl)) (hw _ (List.mem_of_getElem? (i := 1) rfl)) (hw _ (List.mem_of_getElem? (i := 2) rfl)) (hw _ (List.mem_of_getElem? (i := 3) rfl)) (by decide) (rm1 l Z a0 hw x2 h0 n0 Z0) 0 (by decide) (by decide) eT  (g := (mkF m 24 #[d0, d1, .val (.int x2), .val (.int t0), .unset] [(.int x2)])) rfl (by rw [hml]; rfl)  [(.int x2)] [] (lenOf pd_0 rfl) rfl (by show 2 * 0 + _ ≤ _; exact Nat.le_of_eq rfl) (hb hby at_24) rfl (by decide) (by decide) (fun v1 T1 L1 X1 hQ1 => ?_)
    obtain ⟨rfl, Nq1, e1⟩ := hQ1
    have N1 := Fr.app N Nq1
    show Ends p e below s _ _ _ (T1.setTop (mkF m 27 #[d0, d1, .val (.int x2), .val (.int t0), .unset] [(.int (F1 x2))]))
    refine Ends.step (u' := (T1.setTop (mkF m 28 #[d0, d1, .val (.int x2), .val (.int t0), .unset] [(.int x2), (.int (F1 x2))]))) ?_ (fun _ k => XS.iloadN X1.here hx rfl (hb hby at_27) rfl k)
    refine Ends.callS X1 hx hZ hown (hw _ (List.mem_of_getElem? (i := 4) rfl)) (hw _ (List.mem_of_getElem? (i := 5) rfl)) (hw _ (List.mem_of_getElem? (i := 6) rfl)) (hw _ (List.mem_of_getElem? (i := 7) rfl)) (by decide) (rm2 l Z a0 hw x2 h0 n0 Z0) 1 (by decide) (by decide) e1  (g := (mkF m 28 #[d0, d1, .val (.int x2), .val (.int t0), .unset] [(.int x2), (.int (F1 x2))])) rfl (by rw [hml]; rfl)  [(.int x2)] [(.int (F1 x2))] (lenOf pd_0 rfl) rfl (by show 2 * 0 + _ ≤ _; exact Nat.le_of_eq rfl) (hb hby at_28) rfl (by decide) (by decide) (fun v2 T2 L2 X2 hQ2 => ?_)
    obtain ⟨rfl, Nq2, e2⟩ := hQ2
    have N2 := Fr.app N1 Nq2
    show Ends p e below s _ _ _ (T2.setTop (mkF m 31 #[d0, d1, .val (.int x2), .val (.int t0), .unset] [(.int (F2 x2)), (.int (F1 x2))]))
    by_cases hc31 : (F1 x2) = (F2 x2)
    · refine Eq.mp (congrArg (fun z => Ends p e below s 0 0 (Q0 Z  h0 n0 z) (T2.setTop (mkF m 31 #[d0, d1, .val (.int x2), .val (.int t0), .unset] [(.int (F2 x2)), (.int (F1 x2))]))) (show (F0_22 x2 t0) = (F0_34 t0) from (if_pos hc31)).symm) ?_
      refine Ends.step (u' := (T2.setTop (mkF m 34 #[d0, d1, .val (.int x2), .val (.int t0), .unset] []))) ?_ (fun _ k => XS.icmpNo X2.here hx rfl (hb hby at_31) rfl (XT.ii_ne_f hc31) k)
      exact b34 T2 _ X2 e2 N2 t0 (d0) od0 (d1) od1 (.val (.int x2)) (Or.inr ⟨_, rfl, rfl⟩)
    · refine Eq.mp (congrArg (fun z => Ends p e below s 0 0 (Q0 Z  h0 n0 z) (T2.setTop (mkF m 31 #[d0, d1, .val (.int x2), .val (.int t0), .unset] [(.int (F2 x2)), (.int (F1 x2))]))) (show (F0_22 x2 t0) = (F0_38 t0) from (if_neg hc31)).symm) ?_
      refine Ends.step (u' := (T2.setTop (mkF m 38 #[d0, d1, .val (.int x2), .val (.int t0), .unset] []))) ?_ (fun _ k => XS.icmpYes X2.here hx rfl (pc0 := 31) (pc' := 38) rfl (hb hby at_31) rfl (XT.ii_ne_t hc31) (by decide) (by decide) k)
      exact b38 T2 _ X2 e2 N2 t0 (d0) od0 (d1) od1 (.val (.int x2)) (Or.inr ⟨_, rfl, rfl⟩)
  have b17 : ∀ (T : State) (L : List Loc) (X : Stand p l e room_1 s m #[(.int p0), (.int p1)] below meth c T L 0 0) (eT : T.heap = h0) (N : Fr n0 L) (x2 : Int32) (d0 : Slot) (od0 : OneS d0) (d1 : Slot) (od1 : OneS d1), Ends p e below s 0 0 (Q0 Z  h0 n0 (F0_17 x2)) (T.setTop (mkF m 17 #[d0, d1, .val (.int x2), .unset, .unset] [])) := by
    intro T L X eT N x2 d0 od0 d1 od1
    refine Ends.step (u' := (T.setTop (mkF m 18 #[d0, d1, .val (.int x2), .unset, .unset] [(.int (1 : Int32))]))) ?_ (fun _ k => XT.iconstV X.here hx rfl (1 : Int32) (hb hby at_17) rfl k)
    refine Ends.step (u' := (T.setTop (mkF m 22 #[d0, d1, .val (.int x2), .unset, .unset] [(.int (1 : Int32))]))) ?_ (fun _ k => XS.goto X.here hx rfl (pc0 := 18) (pc' := 22) rfl (hb hby at_18) (by decide) (by decide) k)
    exact b22 T _ X eT N x2 (1 : Int32) (d0) od0 (d1) od1
  have b21 : ∀ (T : State) (L : List Loc) (X : Stand p l e room_1 s m #[(.int p0), (.int p1)] below meth c T L 0 0) (eT : T.heap = h0) (N : Fr n0 L) (x2 : Int32) (d0 : Slot) (od0 : OneS d0) (d1 : Slot) (od1 : OneS d1), Ends p e below s 0 0 (Q0 Z  h0 n0 (F0_21 x2)) (T.setTop (mkF m 21 #[d0, d1, .val (.int x2), .unset, .unset] [])) := by
    intro T L X eT N x2 d0 od0 d1 od1
    refine Ends.step (u' := (T.setTop (mkF m 22 #[d0, d1, .val (.int x2), .unset, .unset] [(.int (0 : Int32))]))) ?_ (fun _ k => XT.iconstV X.here hx rfl (0 : Int32) (hb hby at_21) rfl k)
    exact b22 T _ X eT N x2 (0 : Int32) (d0) od0 (d1) od1
  have b6 : ∀ (T : State) (L : List Loc) (X : Stand p l e room_1 s m #[(.int p0), (.int p1)] below meth c T L 0 0) (eT : T.heap = h0) (N : Fr n0 L) (x0 : Int32) (x2 : Int32) (d1 : Slot) (od1 : OneS d1), Ends p e below s 0 0 (Q0 Z  h0 n0 (F0_6 x0 x2)) (T.setTop (mkF m 6 #[.val (.int x0), d1, .val (.int x2), .unset, .unset] [])) := by
    intro T L X eT N x0 x2 d1 od1
    refine Ends.step (u' := (T.setTop (mkF m 7 #[.val (.int x0), d1, .val (.int x2), .unset, .unset] [(.int x0)]))) ?_ (fun _ k => XS.iloadN X.here hx rfl (hb hby at_6) rfl k)
    refine Ends.callS X hx hZ hown (hw _ (List.mem_of_getElem? (i := 0) rfl)) (hw _ (List.mem_of_getElem? (i := 1) rfl)) (hw _ (List.mem_of_getElem? (i := 2) rfl)) (hw _ (List.mem_of_getElem? (i := 3) rfl)) (by decide) (rm1 l Z a0 hw x0 h0 n0 Z0) 0 (by decide) (by decide) eT  (g := (mkF m 7 #[.val (.int x0), d1, .val (.int x2), .unset, .unset] [(.int x0)])) rfl (by rw [hml]; rfl)  [(.int x0)] [] (lenOf pd_0 rfl) rfl (by show 2 * 0 + _ ≤ _; exact Nat.le_of_eq rfl) (hb hby at_7) rfl (by decide) (by decide) (fun v3 T3 L3 X3 hQ3 => ?_)
    obtain ⟨rfl, Nq3, e3⟩ := hQ3
    have N3 := Fr.app N Nq3
    show Ends p e below s _ _ _ (T3.setTop (mkF m 10 #[.val (.int x0), d1, .val (.int x2), .unset, .unset] [(.int (F1 x0))]))
    refine Ends.step (u' := (T3.setTop (mkF m 11 #[.val (.int x0), d1, .val (.int x2), .unset, .unset] [(.int x0), (.int (F1 x0))]))) ?_ (fun _ k => XS.iloadN X3.here hx rfl (hb hby at_10) rfl k)
    refine Ends.callS X3 hx hZ hown (hw _ (List.mem_of_getElem? (i := 4) rfl)) (hw _ (List.mem_of_getElem? (i := 5) rfl)) (hw _ (List.mem_of_getElem? (i := 6) rfl)) (hw _ (List.mem_of_getElem? (i := 7) rfl)) (by decide) (rm2 l Z a0 hw x0 h0 n0 Z0) 1 (by decide) (by decide) e3  (g := (mkF m 11 #[.val (.int x0), d1, .val (.int x2), .unset, .unset] [(.int x0), (.int (F1 x0))])) rfl (by rw [hml]; rfl)  [(.int x0)] [(.int (F1 x0))] (lenOf pd_0 rfl) rfl (by show 2 * 0 + _ ≤ _; exact Nat.le_of_eq rfl) (hb hby at_11) rfl (by decide) (by decide) (fun v4 T4 L4 X4 hQ4 => ?_)
    obtain ⟨rfl, Nq4, e4⟩ := hQ4
    have N4 := Fr.app N3 Nq4
    show Ends p e below s _ _ _ (T4.setTop (mkF m 14 #[.val (.int x0), d1, .val (.int x2), .unset, .unset] [(.int (F2 x0)), (.int (F1 x0))]))
    by_cases hc14 : (F1 x0) = (F2 x0)
    · refine Eq.mp (congrArg (fun z => Ends p e below s 0 0 (Q0 Z  h0 n0 z) (T4.setTop (mkF m 14 #[.val (.int x0), d1, .val (.int x2), .unset, .unset] [(.int (F2 x0)), (.int (F1 x0))]))) (show (F0_6 x0 x2) = (F0_17 x2) from (if_pos hc14)).symm) ?_
      refine Ends.step (u' := (T4.setTop (mkF m 17 #[.val (.int x0), d1, .val (.int x2), .unset, .unset] []))) ?_ (fun _ k => XS.icmpNo X4.here hx rfl (hb hby at_14) rfl (XT.ii_ne_f hc14) k)
      exact b17 T4 _ X4 e4 N4 x2 (.val (.int x0)) (Or.inr ⟨_, rfl, rfl⟩) (d1) od1
    · refine Eq.mp (congrArg (fun z => Ends p e below s 0 0 (Q0 Z  h0 n0 z) (T4.setTop (mkF m 14 #[.val (.int x0), d1, .val (.int x2), .unset, .unset] [(.int (F2 x0)), (.int (F1 x0))]))) (show (F0_6 x0 x2) = (F0_21 x2) from (if_neg hc14)).symm) ?_
      refine Ends.step (u' := (T4.setTop (mkF m 21 #[.val (.int x0), d1, .val (.int x2), .unset, .unset] []))) ?_ (fun _ k => XS.icmpYes X4.here hx rfl (pc0 := 14) (pc' := 21) rfl (hb hby at_14) rfl (XT.ii_ne_t hc14) (by decide) (by decide) k)
      exact b21 T4 _ X4 e4 N4 x2 (.val (.int x0)) (Or.inr ⟨_, rfl, rfl⟩) (d1) od1
  refine Ends.step (u' := (s₁.setTop (mkF m 0 #[.val (.int p0), .val (.int p1), .unset, .unset, .unset] []))) ?_ (fun _ k => castTop (ef_0 m p0 p1) k)
  refine Ends.step (u' := (s₁.setTop (mkF m 1 #[.val (.int p0), .val (.int p1), .unset, .unset, .unset] [(.int p1)]))) ?_ (fun _ k => XS.iloadN X0.here hx rfl (hb hby at_0) rfl k)
  refine Ends.step (u' := (s₁.setTop (mkF m 4 #[.val (.int p0), .val (.int p1), .unset, .unset, .unset] [(.int (255 : Int32)), (.int p1)]))) ?_ (fun _ k => XT.sipushV X0.here hx rfl (255 : Int32) (hb hby at_1) rfl k)
  refine Ends.step (u' := (s₁.setTop (mkF m 5 #[.val (.int p0), .val (.int p1), .unset, .unset, .unset] [(.int (p1 &&& (255 : Int32)))]))) ?_ (fun _ k => XS.iand X0.here hx rfl (hb hby at_4) rfl k)
  refine Ends.step (u' := (s₁.setTop (mkF m 6 #[.val (.int p0), .val (.int p1), .val (.int (p1 &&& (255 : Int32))), .unset, .unset] []))) ?_ (fun _ k => XS.istoreN X0.here hx rfl (hb hby at_5) rfl (l' := #[.val (.int p0), .val (.int p1), .val (.int (p1 &&& (255 : Int32))), .unset, .unset]) rfl k)
  exact b6 s₁ _ X0 e0 N0 p0 (p1 &&& (255 : Int32)) (.val (.int p1)) (Or.inr ⟨_, rfl, rfl⟩)
theorem own_nz (x : Int32) : nar .boolean x = x &&& 1 := rfl
theorem own_1 : nar .boolean 1 = 1 := rfl
theorem own_0 : nar .boolean 0 = 0 := rfl
theorem own_ne : ((1 : Int32) = 0) = False := by decide
theorem own_rng (x lo hi : Int32) (A B : Int32) : (if x < lo then A else if hi < x then A else B) = if (lo.toInt ≤ x.toInt ∧ x.toInt ≤ hi.toInt) then B else A := by
  simp only [Int32.lt_iff_toInt_lt]
  split
  · rw [if_neg (by omega)]
  · split
    · rw [if_neg (by omega)]
    · rw [if_pos (by omega)]
theorem own_or (p q : Prop) [Decidable p] [Decidable q] : (if p then (1 : Int32) else if q then 1 else 0) = if p ∨ q then 1 else 0 := by
  by_cases hp : p <;> by_cases hq : q <;> simp [hp, hq]
theorem own_F1 (x : Int32) : F1 x = if ((1 ≤ x.toInt ∧ x.toInt ≤ 8) ∨ (11 ≤ x.toInt ∧ x.toInt ≤ 12) ∨ (14 ≤ x.toInt ∧ x.toInt ≤ 31) ∨ (127 ≤ x.toInt ∧ x.toInt ≤ 132) ∨ (134 ≤ x.toInt ∧ x.toInt ≤ 159)) then 1 else 0 := by
  have e48 : F1_48 x = if (134 ≤ x.toInt ∧ x.toInt ≤ 159) then 1 else 0 := own_rng x 134 159 0 1
  have e35 : F1_35 x = if (127 ≤ x.toInt ∧ x.toInt ≤ 132) then 1 else F1_48 x := own_rng x 127 132 _ 1
  have e23 : F1_23 x = if (14 ≤ x.toInt ∧ x.toInt ≤ 31) then 1 else F1_35 x := own_rng x 14 31 _ 1
  have e11 : F1_11 x = if (11 ≤ x.toInt ∧ x.toInt ≤ 12) then 1 else F1_23 x := own_rng x 11 12 _ 1
  have e0 : F1 x = if (1 ≤ x.toInt ∧ x.toInt ≤ 8) then 1 else F1_11 x := own_rng x 1 8 _ 1
  rw [e0, e11, e23, e35, e48, own_or, own_or, own_or, own_or]
theorem own_F2 (x : Int32) : F2 x = if ((1 ≤ x.toInt ∧ x.toInt ≤ 8) ∨ (11 ≤ x.toInt ∧ x.toInt ≤ 12) ∨ (14 ≤ x.toInt ∧ x.toInt ≤ 31) ∨ (127 ≤ x.toInt ∧ x.toInt ≤ 132) ∨ (134 ≤ x.toInt ∧ x.toInt ≤ 159)) then 1 else 0 := by
  have e45 : F2_45 x = if x.toInt = 0 ∨ x.toInt = 9 ∨ x.toInt = 10 ∨ x.toInt = 13 ∨ x.toInt = 133 then 0 else 1 := by
    simp only [F2_45, F2_49, F2_55, F2_61, F2_67, F2_74, F2_78, F2_79, own_1, own_0, ← Int32.toInt_inj, Int32.reduceToInt]
    repeat' split
    all_goals first | rfl | (exfalso; omega)
  simp only [F2, F2_4, F2_10, F2_14, F2_15, F2_22, F2_29, F2_33, F2_34, F2_39, F2_43, e45, own_0]
  simp only [Int32.lt_iff_toInt_lt, Int32.reduceToInt, if_true, own_ne, if_false]
  repeat' split
  all_goals first | rfl | (exfalso; omega)
theorem own_same (x : Int32) : F1 x = F2 x := by rw [own_F1, own_F2]
theorem own_law (i0 : Int32) (i1 : Int32) : F0 i0 i1 = 1 := by
  simp only [F0, F0_6, own_same, if_true, F0_17, F0_22, F0_34, F0_39, F0_45]
  rfl
set_option maxRecDepth 65536 in
set_option maxHeartbeats 40000000 in
theorem comes_1 {Post : Tables → Env → Array Value → State → Outcome → State → Prop} (hpost : ∀ tb e args s v u, (limb_1_1.after args s (.returned v) u = true ∧ limb_1_2.after args s (.returned v) u = true ∧ True) → FrameEnd s (.returned v) u (Jvm.fieldLocs frame_1_writes args s ++ Jvm.arrayLocs frame_1_arrays args s ++ Jvm.staticLocs frame_1_statics s) 0 0 → Post tb e args s (.returned v) u) :
    ArmFor flags0 classFile x code maxLocals ret World_1 tables_1 room_1 Calls_1 rest_1 Pre_1 Post := by
  intro l hfl _ _ p e ha hc hk s m args below hf hA hF happ hP
  obtain ⟨hcalls, hrest, hpre⟩ := hP
  obtain ⟨-, -, -, hnamed, -, -, -, hat⟩ := (Spec.applies_iff hf).mp happ
  obtain ⟨hg, hn⟩ := and_e (Cond.before_iff.mp (show (Jvm.Cond.and given_1 narrow_1).before args s = true from hpre))
  obtain ⟨h1, r0⟩ := and_e hg
  obtain ⟨k0, r1⟩ := and_e r0
  obtain ⟨w0, w1, rfl⟩ : ∃ w0 w1 : Value, args = #[w0, w1] := by
    have hs : args.size = 2 := by simpa [Cond.value, given_1] using h1
    obtain ⟨L⟩ := args
    match L, hs with
    | [w0, w1], _ => exact ⟨w0, w1, rfl⟩
  have hw := fun d (hd : d ∈ tables_1) => atoms_spec (ws := Jvm.Cond.code x code maxLocals ret :: tables_1) hat d (List.mem_cons_of_mem _ hd)
  obtain ⟨i0, e0⟩ := is_v k0
  obtain rfl : w0 = (.int i0) := Option.some.inj e0
  obtain ⟨i1, e1⟩ := is_v r1
  obtain rfl : w1 = (.int i1) := Option.some.inj e1
  have val := own_law i0 i1
  obtain ⟨n, o, h1, h2, h3, _, L, rfl, ⟨rfl, N⟩, hq⟩ := rm0 l s _ hw i0 i1 s.heap s.heap.size (Nat.le_refl _)  p e ha hc hk s m _ below hf ((Spec.applies_iff_loose hf).mp happ).1 ⟨rfl, State.Warmed39.refl s, rfl⟩ trivial
  refine ⟨n, _, h1, h2, h3, hpost _ _ _ _ _ _ ⟨Cond.after_iff.mpr rfl, Cond.after_iff.mpr (eq_i res_at (Term.int_eval (1)) (by rw [val])), trivial⟩ ⟨hq.1, hq.2.1, (hq.2.2.sift fun y hy => Or.inr (N y hy)).mono (by decide) (by decide)⟩⟩
theorem main_1_1 : Claimed_1_1 := comes_1 fun _ _ _ _ _ _ h hF => ⟨h.1, hF⟩
theorem main_1_2 : Claimed_1_2 := comes_1 fun _ _ _ _ _ _ h hF => ⟨h.2.1, hF⟩
end Jvm.Pilot.@@N@@
namespace Jvm.Pilot.@@N@@
open Jvm Jvm.ClassFile Sem Op Lib Jvm.Free Jvm.Stand Jvm.Pilot.@@N@@.Jvm.D
/-! MADE BY PROGRAM (witnessworld.py) out of the Statement's table words and the real class files: 9 classes; the members and pool entries that the words name. The judged class is class 1, her method 2. -/
namespace start1
open Jvm.ClassFile
def u (s : String) : CpInfo := .utf8 (stringToUtf16 s)
/-- a pool by its gaps: so many unusable entries, then the entry; so many at the end -/
def gap : Nat → List CpInfo → List CpInfo
  | 0, r => r
  | n + 1, r => .unusable :: gap n r
def poolList (es : List (Nat × CpInfo)) (last : Nat) : List CpInfo := es.foldr (fun e r => gap e.1 (e.2 :: r)) (gap last [])
def pool (es : List (Nat × CpInfo)) (last : Nat) : Array CpInfo := ⟨poolList es last⟩
def fileOf (pool : Array CpInfo) (this : Nat) (attrs : Array Attribute := #[]) (ms : Array MethodInfo := #[]) (fl : Nat := 33) (sup : Nat := 0) (ifs : Array Nat := #[]) (fds : Array FieldInfo := #[]) : ClassFile where
  minorVersion := 0
  majorVersion := 65
  constantPool := pool
  accessFlags := fl
  thisClass := this
  superClass := sup
  interfaces := ifs
  fields := fds
  methods := ms
  attributes := attrs
def plain (name : String) (sup : Option ClassId) : Class where
  name := name
  kind := .ordinary
  loader := none
  accessFlags := 33
  super := sup
  interfaces := #[]
  cf := none
  fields := #[]
  methods := #[]
  instanceTypes := #[]
  staticTypes := #[]
  resolved := #[]
  callSites := []
  init := .initialized
  statics := none
  mirror := none

def pool0 : Array CpInfo := pool [(5, u "<init>"), (0, u "()V"), (1, .class_ 10), (1, u "java/lang/Object")] 113

def k0m0 : Method := { name := "<init>", desc := "()V", sig := { parameters := [], returnType := none }, accessFlags := 1, code := none }
/-- java/lang/Object -/
def k0 : Class := { plain "java/lang/Object" none with
  accessFlags := 33
  interfaces := #[]
  cf := some (fileOf pool0 8 #[] #[{ accessFlags := 1, nameIndex := 5, descriptorIndex := 6, attributes := #[] }] 33 0 #[] #[])
  fields := #[]
  methods := #[k0m0]
  instanceTypes := #[]
  staticTypes := #[]
  resolved := Array.replicate 124 none
  statics := none }

def pool1 : Array CpInfo := pool [(2, .class_ 4), (1, u "java/lang/Object"), (0, u "<init>"), (0, u "()V"), (0, .methodref 8 9), (0, .class_ 10), (0, .nameAndType 11 12), (0, u "com/example/kuopio/kuopio/XmlChars"), (0, u "isRestrictedChar"), (0, u "(I)Z"), (0, .methodref 14 15), (0, .class_ 16), (0, .nameAndType 17 12), (0, u "com/example/kuopio/kuopio/XmlCharsIsRestrictedCharPinLaw"), (0, u "ref"), (3, u "law"), (0, u "(II)Z")] 2

def k1m0 : Method := { name := "<init>", desc := "()V", sig := { parameters := [], returnType := none }, accessFlags := 2, code := none }
def k1c1 : Code := { maxStack := 2, maxLocals := 3, code := method_2_code, exceptionTable := #[], attributes := #[] }
def k1m1 : Method := { name := "ref", desc := "(I)Z", sig := { parameters := [.int], returnType := some .boolean }, accessFlags := 10, code := some k1c1 }
def k1c2 : Code := { maxStack := 2, maxLocals := 5, code := code, exceptionTable := #[], attributes := #[] }
def k1m2 : Method := { name := "law", desc := "(II)Z", sig := { parameters := [.int, .int], returnType := some .boolean }, accessFlags := 9, code := some k1c2 }
/-- com/example/kuopio/kuopio/XmlCharsIsRestrictedCharPinLaw -/
def k1 : Class := { plain "com/example/kuopio/kuopio/XmlCharsIsRestrictedCharPinLaw" (some 0) with
  accessFlags := 49
  interfaces := #[]
  cf := some (fileOf pool1 14 #[] #[{ accessFlags := 2, nameIndex := 5, descriptorIndex := 6, attributes := #[] }, { accessFlags := 10, nameIndex := 17, descriptorIndex := 12, attributes := #[] }, { accessFlags := 9, nameIndex := 21, descriptorIndex := 22, attributes := #[] }] 49 2 #[] #[])
  fields := #[]
  methods := #[k1m0, k1m1, k1m2]
  instanceTypes := #[]
  staticTypes := #[]
  resolved := Array.replicate 25 none
  statics := none }

def pool2 : Array CpInfo := pool [(2, .class_ 4), (1, u "java/lang/Object"), (0, u "<init>"), (0, u "()V"), (11, .class_ 20), (1, u "com/example/kuopio/kuopio/XmlChars"), (1, u "(I)Z"), (93, u "isRestrictedChar")] 17

def k2m0 : Method := { name := "<init>", desc := "()V", sig := { parameters := [], returnType := none }, accessFlags := 2, code := none }
def k2c1 : Code := { maxStack := 2, maxLocals := 1, code := prog_24_method_14_code, exceptionTable := #[], attributes := #[] }
def k2m1 : Method := { name := "isRestrictedChar", desc := "(I)Z", sig := { parameters := [.int], returnType := some .boolean }, accessFlags := 9, code := some k2c1 }
/-- com/example/kuopio/kuopio/XmlChars -/
def k2 : Class := { plain "com/example/kuopio/kuopio/XmlChars" (some 0) with
  accessFlags := 49
  interfaces := #[]
  cf := some (fileOf pool2 18 #[] #[{ accessFlags := 2, nameIndex := 5, descriptorIndex := 6, attributes := #[] }, { accessFlags := 9, nameIndex := 116, descriptorIndex := 22, attributes := #[] }] 49 2 #[] #[])
  fields := #[]
  methods := #[k2m0, k2m1]
  instanceTypes := #[]
  staticTypes := #[]
  resolved := Array.replicate 134 none
  statics := none }

def pool3 : Array CpInfo := pool [(1, u "java/lang/Cloneable"), (0, .class_ 1), (0, u "java/lang/Object"), (0, .class_ 3)] 3

/-- java/lang/Cloneable -/
def k3 : Class := { plain "java/lang/Cloneable" (some 0) with
  accessFlags := 1537
  interfaces := #[]
  cf := some (fileOf pool3 2 #[] #[] 1537 4 #[] #[])
  fields := #[]
  methods := #[]
  instanceTypes := #[]
  staticTypes := #[]
  resolved := Array.replicate 8 none
  statics := none }

def pool4 : Array CpInfo := pool [(1, u "java/io/Serializable"), (0, .class_ 1), (0, u "java/lang/Object"), (0, .class_ 3)] 3

/-- java/io/Serializable -/
def k4 : Class := { plain "java/io/Serializable" (some 0) with
  accessFlags := 1537
  interfaces := #[]
  cf := some (fileOf pool4 2 #[] #[] 1537 4 #[] #[])
  fields := #[]
  methods := #[]
  instanceTypes := #[]
  staticTypes := #[]
  resolved := Array.replicate 8 none
  statics := none }

/-- the primitive byte -/
def k5 : Class := { plain "byte" none with kind := .primitive 'B', accessFlags := 0x411 }
/-- [B -/
def k6 : Class := { plain "[B" (some 0) with kind := .array 5 .byte, interfaces := #[3, 4], accessFlags := 1041 }

/-- the primitive int -/
def k7 : Class := { plain "int" none with kind := .primitive 'I', accessFlags := 0x411 }
/-- [I -/
def k8 : Class := { plain "[I" (some 0) with kind := .array 7 .int, interfaces := #[3, 4], accessFlags := 1041 }

def heap : Heap := #[]
def classes : Array Class := #[k0, k1, k2, k3, k4, k5, k6, k7, k8]
def interned : List (Array UInt16 × Addr) := []
def slotsUsed : Nat := 0
def theMethod : MethodId := ⟨1, 2⟩
def args0 : Array Value := #[.int 5, .int 7]
def aboutOver (below : List Frame) : State where
  vm := { classes := classes, interned := interned.toArray }
  heap := heap
  slotsUsed := slotsUsed
  threads := #[{ frames := .invoking theMethod args0 :: below }]
def below0 : List Frame := [.native { method := ⟨0, 0⟩, args := #[] }]
def about1 : State := aboutOver below0
def p0 : Program := .bare "" "" ""
def e0 : Env := launch0.env 0 0 0
theorem w_frames : about1.frames = Frame.invoking theMethod args0 :: below0 := rfl
set_option maxRecDepth 65536 in
theorem w_args : argsFit about1.vm theMethod args0 = true := by decide +kernel
set_option maxRecDepth 65536 in
theorem w_heap : heapFits about1 = true := by decide +kernel
set_option maxRecDepth 65536 in
theorem w_runnable : about1.curStatus? = some .runnable := by decide +kernel
set_option maxRecDepth 65536 in
theorem w_alone : about1.alone = true := by decide +kernel
set_option maxRecDepth 65536 in
theorem w_named : about1.methodNamed? x = some theMethod := by decide +kernel
set_option maxRecDepth 65536 in
theorem w_hears : about1.hears theMethod below0 = true := by decide +kernel
set_option maxRecDepth 65536 in
theorem w_ripe : about1.ripe theMethod args0 below0 = true := by decide +kernel
theorem w_running : about1.status = .running := rfl
set_option maxRecDepth 65536 in
theorem w_room : about1.hasRoom e0.platform room_1 = true :=
  launch0.hasRoom_least _ room_1 (by decide +kernel) (by decide +kernel) (by decide +kernel) (by decide +kernel) (by decide +kernel) (by decide +kernel)
theorem allAtoms_all (ts : List Jvm.Cond) (a : Array Jvm.Value) (st : Jvm.State) : (allAtoms ts).before a st = ts.all (fun c => c.before a st) := by
  induction ts with
  | nil => rfl
  | cons c t ih =>
    show (Jvm.Cond.and c (allAtoms t)).before a st = _
    rw [Jvm.Cond.before_and, ih, List.all_cons]
def words1 : List Jvm.Cond := Jvm.Cond.code x code maxLocals ret :: tables_1
/-- a 'code' word, met by the world's own term for the bytes: nothing is compared byte by byte -/
theorem code_word {y : MethodName} {bytes : ByteArray} {mx : Nat} {rt : Option FieldType} {a : Array Value} {s : State} {m : MethodId} {meth : Method} {c : Code} (h1 : s.methodNamed? y = some m) (h2 : s.vm.method? m = some meth) (h3 : meth.code = some c) (h4 : c.code = bytes)
    (h5 : (c.maxLocals == mx && c.exceptionTable.isEmpty && decide (c.maxStack ≤ mostOperands) && decide (meth.sig.returnType = rt) && !meth.locks && decide (parseMethodDescriptor y.desc = some meth.sig)) = true) : (Jvm.Cond.code y bytes mx rt).before a s = true := by
  simp only [Bool.and_eq_true, beq_iff_eq, Bool.not_eq_true', decide_eq_true_eq] at h5
  obtain ⟨⟨⟨⟨⟨g1, g2⟩, g3⟩, g4⟩, g5⟩, g6⟩ := h5
  simp [Cond.before, Cond.holds, Cond.value, h1, h2, h3, h4, g1, g2, g3, g4, g5, g6]
def isCode : Jvm.Cond → Bool
  | .code _ _ _ _ => true
  | _ => false
theorem all_split {L : List Jvm.Cond} {P : Jvm.Cond → Bool} (h1 : L.all (fun c => isCode c || P c) = true) (h2 : ∀ c ∈ L.filter isCode, P c = true) : L.all P = true := by
  refine List.all_eq_true.mpr fun c hc => ?_
  have h := List.all_eq_true.mp h1 c hc
  rcases Bool.eq_false_or_eq_true (isCode c) with hi | hi
  · exact h2 c (List.mem_filter.mpr ⟨hc, hi⟩)
  · simpa [hi] using h
set_option maxRecDepth 65536 in
theorem w_c0 : (Jvm.Cond.code x code maxLocals ret).before args0 about1 = true := code_word (m := ⟨1, 2⟩) (meth := k1m2) (c := k1c2) (by decide +kernel) rfl rfl rfl (by decide +kernel)
set_option maxRecDepth 65536 in
theorem w_c1 : (Jvm.Cond.code ({ cls := "com/example/kuopio/kuopio/XmlChars", name := "isRestrictedChar", desc := "(I)Z" } : Jvm.MethodName) prog_24_method_14_code (1 : Nat) (Option.some Jvm.ClassFile.FieldType.boolean)).before args0 about1 = true := code_word (m := ⟨2, 1⟩) (meth := k2m1) (c := k2c1) (by decide +kernel) rfl rfl rfl (by decide +kernel)
set_option maxRecDepth 65536 in
theorem w_c2 : (Jvm.Cond.code ({ cls := "com/example/kuopio/kuopio/XmlCharsIsRestrictedCharPinLaw", name := "ref", desc := "(I)Z" } : Jvm.MethodName) method_2_code (3 : Nat) (Option.some Jvm.ClassFile.FieldType.boolean)).before args0 about1 = true := code_word (m := ⟨1, 1⟩) (meth := k1m1) (c := k1c1) (by decide +kernel) rfl rfl rfl (by decide +kernel)
def codes1 : List Jvm.Cond := [Jvm.Cond.code x code maxLocals ret, Jvm.Cond.code ({ cls := "com/example/kuopio/kuopio/XmlChars", name := "isRestrictedChar", desc := "(I)Z" } : Jvm.MethodName) prog_24_method_14_code (1 : Nat) (Option.some Jvm.ClassFile.FieldType.boolean), Jvm.Cond.code ({ cls := "com/example/kuopio/kuopio/XmlCharsIsRestrictedCharPinLaw", name := "ref", desc := "(I)Z" } : Jvm.MethodName) method_2_code (3 : Nat) (Option.some Jvm.ClassFile.FieldType.boolean)]
set_option maxRecDepth 65536 in
theorem codes_eq : words1.filter isCode = codes1 := rfl
theorem w_codes : ∀ c ∈ words1.filter isCode, c.before args0 about1 = true := by
  rw [codes_eq]
  intro c hc
  simp only [codes1, List.mem_cons, List.not_mem_nil, or_false] at hc
  rcases hc with rfl | rfl | rfl
  · exact w_c0
  · exact w_c1
  · exact w_c2
set_option maxRecDepth 65536 in
theorem w_t1 : words1.all (fun c => isCode c || c.before args0 about1) = true := by decide +kernel
theorem w_tables : (allAtoms (Jvm.Cond.code x code maxLocals ret :: tables_1)).before args0 about1 = true := by
  rw [allAtoms_all]
  show words1.all (fun c => c.before args0 about1) = true
  refine all_split ?_ w_codes
  rw [w_t1]
set_option maxRecDepth 65536 in
theorem w_case : (Jvm.Cond.and given_1 narrow_1).before args0 about1 = true := by decide +kernel
theorem w_applies : (headSpec (Jvm.Cond.code x code maxLocals ret :: tables_1) room_1).applies x e0.platform about1 = true :=
  (Spec.applies_iff w_frames).mpr ⟨w_running, w_runnable, w_alone, w_named, w_hears, w_ripe, w_room, w_tables⟩
theorem atStart : AtStart classFile x code maxLocals ret World_1 tables_1 room_1 Calls_1 rest_1 Pre_1 launch0 p0 e0 about1 theMethod args0 below0 :=
  ⟨lists_1, trivial, launch0.admits_env _ _ _, launch0.least_env, fairChoices_fair.cas, fairChoices_fair.clock, w_frames, w_args, w_heap, w_applies, trivial, trivial, w_case⟩
end start1
theorem witness_1 : WitnessClaimed_1 := ⟨start1.p0, start1.e0, start1.about1, start1.theMethod, start1.args0, start1.below0, start1.atStart⟩
end Jvm.Pilot.@@N@@
