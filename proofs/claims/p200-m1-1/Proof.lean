import JvmDerived
import JvmDerived.Pilot.@@N@@Statement
import JvmDerived.Pilot.@@N@@Code
set_option linter.unusedVariables false
set_option linter.unusedSimpArgs false
namespace Jvm.RoadKit
open Sem ClassFile Op Lib Jvm.Stand Jvm.Free Jvm.LawKit
section New
variable {p : Program} {l : Launch} {e : Env} {R : Room} {s : State} {m : MethodId} {args : Array Value} {below : List Frame} {meth : Method} {c : Code} {T : State} {locs : List Loc} {cells slots : Nat}
theorem retI (X : Stand p l e R s m args below meth c T locs cells slots) (hx : p.tables.exec = Jvm.exec) {pc : Nat} {Ls : Array Slot} {z : Int32} {rest : List Value} (hret : meth.sig.returnType = some .int) (hd : decode c.code pc = .ok (.ireturn, 1)) {fs : List Frame}
    (hl : ∀ (f : JFrame) (acts : List Action), f.method = m → f.locked = none → f.entered = [] → (doReturn e (T.setTop f) acts (some (.int z))).1 = T.setFrames fs) : Steps p.tables e below (T.setTop (mkF m pc Ls (.int z :: rest))) (T.setFrames fs) := by
  have hm' : T.vm.method? m = some meth := X.method'
  have hn : narrow .int (.int z) = .int z := rfl
  show Steps p.tables e below (T.setTop { method := m, pc := pc, locals := Ls, stack := _ :: rest, locked := none }) _
  jvm_step X.here [X.here.top, hx, hd, hm', hret, hn]
  first | (intro acts; rw [hl _ acts rfl rfl rfl]) | rw [hl _ _ rfl rfl rfl]
  exact Steps.refl _
end New
end Jvm.RoadKit
namespace Jvm.Pilot.@@N@@
open Jvm Jvm.ClassFile Sem Op Lib Jvm.Free Jvm.Stand Jvm.LawKit Jvm.RoadKit Bundle Jvm.Pilot.@@N@@.Jvm.D
/-! ### the frame of this text: 'Ends': the run from u ends in a return that Q says -/
section OwnFrame
variable {p : Program} {l : Launch} {e : Env} {R : Room} {s : State} {m : MethodId} {args : Array Value} {below : List Frame} {meth : Method} {c : Code} {T : State} {locs : List Loc} {cells slots cs ss : Nat} {Z : State} {a0 : Array Value} {h h' : Heap} {Q : Option Value → Heap → List Loc → Prop} {u u' : State}
def Ends (p : Program) (e : Env) (below : List Frame) (s : State) (cs ss : Nat) (Q : Option Value → Heap → List Loc → Prop) (u : State) : Prop :=
  ∃ t v L, Steps p.tables e below u t ∧ t.status = .running ∧ Ended t below (.returned v) ∧ Q v t.heap L ∧ s.WarmedH t.vm ∧ s.sameButNew ({ t with vm := s.vm } : State) L cs ss
theorem Ends.step (h : Ends p e below s cs ss Q u') (k : ∀ t, Steps p.tables e below u' t → Steps p.tables e below u t) : Ends p e below s cs ss Q u := by
  obtain ⟨t, v, L, h1, r⟩ := h; exact ⟨t, v, L, k t h1, r⟩
theorem Ends.ret (X : Stand p l e R s m args below meth c T locs cells slots) {v : Option Value} (hv : meth.sig.returnType = none → v = none) (hlk : meth.locks = false)
    (k : ∀ fs, (∀ (f : JFrame) (acts : List Action), f.method = m → f.locked = none → f.entered = [] → (doReturn e (T.setTop f) acts v).1 = T.setFrames fs) → Steps p.tables e below u (T.setFrames fs))
    (hc : cells ≤ cs) (hs : slots ≤ ss) (hq : Q v T.heap locs) : Ends p e below s cs ss Q u := by
  obtain ⟨fs, hr, hrun, hended, hW, hsame⟩ := X.leave (v := v) hv hlk
  exact ⟨T.setFrames fs, v, locs, k fs hr, hrun, hended, hq, hW, hsame.mono hc hs⟩
/-- what a body promises -/
abbrev Meets (l : Launch) (Z : State) (y : MethodName) (bytes : ByteArray) (maxL : Nat) (ret : Option FieldType) (ws : List Jvm.Cond) (rm : Room) (as' : Array Value) (h : Heap) (Q : Option Value → Heap → List Loc → Prop) (cs ss : Nat) : Prop :=
  MetFree l y (head1 (Jvm.Cond.code y bytes maxL ret :: ws) rm) (fun a U => a = as' ∧ Z.Warmed39 U.vm ∧ U.heap = h) (fun _ _ _ _ _ => True) (fun _ U o U' => ∃ v L, o = .returned v ∧ Q v U'.heap L ∧ FrameEnd U o U' L cs ss)
theorem Meets.of {y : MethodName} {bytes : ByteArray} {maxL : Nat} {ret : Option FieldType} {ws : List Jvm.Cond} {rm : Room} {as' : Array Value} (pn : plainName y.cls = true)
    (k : ∀ (p : Program) (e : Env) (s : State) (m : MethodId) (below : List Frame) (meth : Method) (c : Code) (s₁ : State), p.tables.exec = Jvm.exec → c.code = bytes → c.maxLocals = maxL → Z.Warmed39 s.vm → s.vm.findClass y.cls = some m.cls → meth.name = y.name → meth.sig.returnType = ret → meth.locks = false →
      Stand p l e rm s m as' below meth c s₁ [] 0 0 → s₁.heap = h → Ends p e below s cs ss Q (s₁.setTop (entryFrame m as' maxL))) : Meets l Z y bytes maxL ret ws rm as' h Q cs ss := by
  refine MetFree.of_bodySF (plainFor_of_name pn) hisR ?_
  intro p e s m args below meth c s₁ Bd hml0 hP hK
  obtain ⟨rfl, hZ, hh⟩ := hP
  obtain ⟨t, v, L, h1, h2, h3, h4, h5, h6⟩ := k p e s m below meth c s₁ Bd.exec Bd.bytes hml0 hZ (findClass_of_methodNamed Bd.named) (name_of_methodNamed Bd.named Bd.method).1 Bd.returns (BodyLoose.notSynchronized Bd) (Stand.of_body Bd) (by rw [← hh, Bd.state]; rfl)
  exact ⟨t, .returned v, h1, h2, h3, v, L, rfl, h4, ⟨_, rfl⟩, h5, h6⟩
theorem Ends.callS (X : Stand p l e R s m args below meth c T locs cells slots) (hx : p.tables.exec = Jvm.exec) (hZ : Z.Warmed39 s.vm) {own : String} {index : Nat} {y : MethodName} {bytes : ByteArray} {maxL : Nat} {ret : Option FieldType}
    (hown : s.vm.findClass own = some m.cls) (w1 : (Jvm.Cond.methodLink own index y).before a0 Z = true) (w2 : (Jvm.Cond.static y).before a0 Z = true) (w3 : (Jvm.Cond.initialized y.cls).before a0 Z = true) (w4 : (Jvm.Cond.code y bytes maxL ret).before a0 Z = true)
    (hy : y.cls ≠ "java/lang/invoke/MethodHandle" ∧ y.cls ≠ "java/lang/invoke/VarHandle") {rm : Room} {as' : Array Value} {Q' : Option Value → Heap → List Loc → Prop} (hM : Meets l Z y bytes maxL ret [] rm as' h Q' rm.cells rm.slots)
    (W : Nat) (hf : rm.frames + 1 ≤ R.frames) (hl : W + (maxL + 11) + rm.locals ≤ R.locals) (eT : T.heap = h) {g : JFrame} (hg : g.method = m) (hsize : g.locals.size = c.maxLocals) (argsL rest : List Value)
    (hlen : ∀ sig, parseMethodDescriptor y.desc = some sig → argsL.length = sig.parameters.length) (hstack : g.stack = argsL.reverse ++ rest) (hW : 2 * g.monitorRoom + (rest.map fun v => v.category).sum ≤ W) (hdg : decode c.code g.pc = .ok (.invokestatic index, 3))
    (ha : argsL.toArray = as') (hc : cells + rm.cells ≤ R.cells) (hs : slots + rm.slots ≤ R.slots)
    (k : ∀ v T' L, Stand p l e R s m args below meth c T' (locs ++ L) (cells + rm.cells) (slots + rm.slots) → Q' v T'.heap L → Ends p e below s cs ss Q (T'.setTop { g with pc := g.pc + 3, stack := v.toList ++ rest })) : Ends p e below s cs ss Q (T.setTop g) := by
  obtain ⟨v, _, ⟨T', L', k', n'⟩, -, X', ⟨Lc, hQ, rfl, rfl, rfl⟩, st⟩ := Jvm.LawKit.callS X hx (y := y) hown (mvT hZ w1) (mvT hZ w2) (mvT hZ w3) (mvT hZ w4) hy (backOf (W := W) hM hZ w4 w3 hf hl) hg hsize (argsL := argsL) (rest := rest) hlen hstack hW hdg (fun _ _ => ⟨ha, eT, hc, hs⟩)
  exact (k v T' Lc X' hQ).step st
theorem Ends.callC (X : Stand p l e R s m args below meth c T locs cells slots) (hx : p.tables.exec = Jvm.exec) (hZ : Z.Warmed39 s.vm) {own : String} {index : Nat} {y : MethodName} {bytes : ByteArray} {maxL : Nat} (hy1 : y.name = "<init>")
    (hown : s.vm.findClass own = some m.cls) (w1 : (Jvm.Cond.methodLink own index y).before a0 Z = true) (w2 : (Jvm.Cond.instanceMethod y).before a0 Z = true) (w3 : (Jvm.Cond.initialized y.cls).before a0 Z = true) (w4 : (Jvm.Cond.code y bytes maxL none).before a0 Z = true)
    (hy : y.cls ≠ "java/lang/invoke/MethodHandle" ∧ y.cls ≠ "java/lang/invoke/VarHandle") {rm : Room} {as' : Array Value} {Q' : Option Value → Heap → List Loc → Prop} (hM : Meets l Z y bytes maxL none [] rm as' h Q' rm.cells rm.slots)
    (W : Nat) (hf : rm.frames + 1 ≤ R.frames) (hl : W + (maxL + 11) + rm.locals ≤ R.locals) (eT : T.heap = h) {g : JFrame} (hg : g.method = m) (hsize : g.locals.size = c.maxLocals) (a : Addr) (argsL rest : List Value)
    (hlen : ∀ sig, parseMethodDescriptor y.desc = some sig → argsL.length = sig.parameters.length) (hstack : g.stack = argsL.reverse ++ .ref a :: rest) (hW : 2 * g.monitorRoom + (rest.map fun v => v.category).sum ≤ W) (hdg : decode c.code g.pc = .ok (.invokespecial index, 3))
    (ha : (.ref a :: argsL).toArray = as') (hc : cells + rm.cells ≤ R.cells) (hs : slots + rm.slots ≤ R.slots)
    (k : ∀ v T' L, Stand p l e R s m args below meth c T' (locs ++ L) (cells + rm.cells) (slots + rm.slots) → Q' v T'.heap L → Ends p e below s cs ss Q (T'.setTop { g with pc := g.pc + 3, stack := v.toList ++ rest })) : Ends p e below s cs ss Q (T.setTop g) := by
  obtain ⟨v, _, ⟨T', L', k', n'⟩, -, X', ⟨Lc, hQ, rfl, rfl, rfl⟩, st⟩ := X.specialBack hx (y := y) hy1 hown (mvT hZ w1) (mvT hZ w2) (mvT hZ w4) hy (backOf (W := W) hM hZ w4 w3 hf hl) hg hsize (Steps.refl _) (a := a) (argsL := argsL) (rest := rest) hlen hstack hW hdg (fun _ _ => ⟨ha, eT, hc, hs⟩)
  exact (k v T' Lc X' hQ).step (fun _ q => st.trans q)
theorem Ends.callV (X : Stand p l e R s m args below meth c T locs cells slots) (hx : p.tables.exec = Jvm.exec) (hZ : Z.Warmed39 s.vm) {own C : String} {index : Nat} {y : MethodName} {bytes : ByteArray} {maxL : Nat} {ret : Option FieldType}
    (hown : s.vm.findClass own = some m.cls) (w1 : (Jvm.Cond.methodLink own index y).before a0 Z = true) (wd : (Jvm.Cond.declares y).before a0 Z = true) (wsel : (Jvm.Cond.selects C y y).before a0 Z = true) (w2 : (Jvm.Cond.instanceMethod y).before a0 Z = true) (w3 : (Jvm.Cond.initialized y.cls).before a0 Z = true) (w4 : (Jvm.Cond.code y bytes maxL ret).before a0 Z = true)
    (hy : y.cls ≠ "java/lang/invoke/MethodHandle" ∧ y.cls ≠ "java/lang/invoke/VarHandle") {rm : Room} {as' : Array Value} {Q' : Option Value → Heap → List Loc → Prop} (hM : Meets l Z y bytes maxL ret [] rm as' h Q' rm.cells rm.slots)
    (W : Nat) (hf : rm.frames + 1 ≤ R.frames) (hl : W + (maxL + 11) + rm.locals ≤ R.locals) (eT : T.heap = h) (a : Addr) (E : Exa Z h a C) {g : JFrame} (hg : g.method = m) (hsize : g.locals.size = c.maxLocals) (argsL rest : List Value)
    (hlen : ∀ sig, parseMethodDescriptor y.desc = some sig → argsL.length = sig.parameters.length) (hstack : g.stack = argsL.reverse ++ .ref a :: rest) (hW : 2 * g.monitorRoom + (rest.map fun v => v.category).sum ≤ W) (hdg : decode c.code g.pc = .ok (.invokevirtual index, 3))
    (ha : (.ref a :: argsL).toArray = as') (hc : cells + rm.cells ≤ R.cells) (hs : slots + rm.slots ≤ R.slots)
    (k : ∀ v T' L, Stand p l e R s m args below meth c T' (locs ++ L) (cells + rm.cells) (slots + rm.slots) → Q' v T'.heap L → Ends p e below s cs ss Q (T'.setTop { g with pc := g.pc + 3, stack := v.toList ++ rest })) : Ends p e below s cs ss Q (T.setTop g) := by
  obtain ⟨cq, kq, q1, q2, q3⟩ := isOf (T := T) hZ eT E
  obtain ⟨v, _, ⟨T', L', k', n'⟩, -, X', ⟨Lc, hQ, rfl, rfl, rfl⟩, st⟩ := X.virtualBack hx (y := y) (z := y) hown (mvT hZ w1) (mvT hZ wd) (notFace_of_selects (args := #[]) (mvT hZ wsel)) (mvT hZ wsel) (mvT hZ w2) hy (backOf (W := W) hM hZ w4 w3 hf hl) q1 q3 hg hsize (Steps.refl _) (argsL := argsL) (rest := rest) hlen hstack hW hdg (fun _ _ => ⟨ha, eT, hc, hs⟩)
  exact (k v T' Lc X' hQ).step (fun _ q => st.trans q)
/-! ### arrays of small numbers: what each place holds, as a function -/
def Ar (Z : State) (h : Heap) (a : Addr) (ty : FieldType) (n : Nat) (f : Nat → Int32) : Prop := ∃ cl : Cell, Arr Z h a cl ty ∧ cl.slots.size = n ∧ n < 2 ^ 31 ∧ ∀ i, i < n → cl.slots[i]? = some (.int (f i))
def upd (f : Nat → Int32) (j : Nat) (v : Int32) : Nat → Int32 := fun i => if i = j then v else f i
def inb (j : Int32) (n : Nat) : Prop := ¬ (j < 0 ∨ n ≤ j.toNatClampNeg)
variable {a b : Addr} {ty : FieldType} {n sl : Nat} {f : Nat → Int32} {v : Value} {wsA : List Addr}
theorem Ar.lt (A : Ar Z h a ty n f) : a < h.size := by obtain ⟨cl, A1, -⟩ := A; exact A1.lt
theorem Ar.ext (A : Ar Z h a ty n f) (E : Ext h h') : Ar Z h' a ty n f := by obtain ⟨cl, A1, r⟩ := A; exact ⟨cl, A1.ext E, r⟩
theorem Ar.other (A : Ar Z h b ty n f) (W : Wr h h' a sl v) (q : b ≠ a) : Ar Z h' b ty n f := by obtain ⟨cl, A1, r⟩ := A; exact ⟨cl, A1.other W q, r⟩
theorem Ar.keep (A : Ar Z h a ty n f) (K : Keep h h' wsA) (q : a ∉ wsA) : Ar Z h' a ty n f := by obtain ⟨cl, A1, r⟩ := A; exact ⟨cl, ⟨K.2.1 a cl A1.1 q, A1.2⟩, r⟩
theorem Ar.small (A : Ar Z h a ty n f) : n < 2 ^ 31 := by obtain ⟨cl, A1, -, r, -⟩ := A; exact r
theorem Ar.set {j : Int32} {x : Int32} (A : Ar Z h a ty n f) (W : Wr h h' a j.toNatClampNeg (.int x)) : Ar Z h' a ty n (upd f j.toNatClampNeg x) := by
  obtain ⟨cl, A1, r1, r2, r3⟩ := A
  refine ⟨_, A1.same W, by rw [sz_set]; exact r1, r2, fun i hi => ?_⟩
  by_cases q : i = j.toNatClampNeg
  · subst q; simp [Cell.setSlot, upd, r1, hi]
  · simp only [Cell.setSlot, upd, if_neg q]; rw [Array.getElem?_setIfInBounds_ne (fun z => q z.symm)]; exact r3 i hi
theorem Ar.new {cA : ClassId} {k : Int32} (A : Arr Z h a (newA cA ty k) ty) (q : ¬ k < 0) (hd : defaultValue ty = .int 0) : Ar Z h a ty k.toNatClampNeg (fun _ => 0) :=
  ⟨_, A, sz_new _ _ _, (back32 q).2, fun i hi => by simp [newA, hi, hd]⟩
theorem Ends.newA (X : Stand p l e R s m args below meth c T locs cells slots) (hx : p.tables.exec = Jvm.exec) (hZ : Z.Warmed39 s.vm) {aty : ArrayType} (w : (Jvm.Cond.arrayClass (newarray.typeOf aty)).before a0 Z = true) (eT : T.heap = h) {g : JFrame} (hg : g.method = m) (hd : decode c.code g.pc = .ok (.newarray aty, 2)) {k : Int32} {rest : List Value} (hs : g.stack = .int k :: rest)
    (hdf : defaultValue (newarray.typeOf aty) = .int 0) (hn : ¬ k < 0) (cap : Nat) (hcap : k.toNatClampNeg ≤ cap) (hb : cap * 8 ≤ 536870912) (hc : cells + 1 ≤ R.cells) (hl : slots + cap ≤ R.slots)
    (kk : ∀ T' h' a, Stand p l e R s m args below meth c T' locs (cells + 1) (slots + cap) → T'.heap = h' → Ext h h' → h.size = a → Ar Z h' a (newarray.typeOf aty) k.toNatClampNeg (fun _ => 0) → Ends p e below s cs ss Q (T'.setTop { g with pc := g.pc + 2, stack := .ref a :: rest })) : Ends p e below s cs ss Q (T.setTop g) := by
  obtain ⟨T', h', cA, X', e', E, A, st⟩ := newP X hx hZ w eT hg hd hs hn hcap hb hc hl
  exact (kk T' h' h.size X' e' E rfl (Ar.new A hn hdf)).step st
theorem Ends.iaload (X : Stand p l e R s m args below meth c T locs cells slots) (hx : p.tables.exec = Jvm.exec) (hZ : Z.Warmed39 s.vm) (eT : T.heap = h) (A : Ar Z h a .int n f) {j : Int32} (hj : inb j n) {g : JFrame} (hg : g.method = m) {rest : List Value} (hs : g.stack = .int j :: .ref a :: rest) (hd : decode c.code g.pc = .ok (.iaload, 1))
    (k : Ends p e below s cs ss Q (T.setTop { g with pc := g.pc + 1, stack := .int (f j.toNatClampNeg) :: rest })) : Ends p e below s cs ss Q (T.setTop g) := by
  obtain ⟨cl, A1, r1, -, r3⟩ := A
  subst r1
  exact k.step (X.iaload hx (by rw [eT]; exact A1.1) (State.isArrayOf_alike hZ.alike A1.2.1) A1.2.2 hj (r3 _ (Nat.lt_of_not_le fun q => hj (Or.inr q))) hg hs hd)
theorem Ends.baload (X : Stand p l e R s m args below meth c T locs cells slots) (hx : p.tables.exec = Jvm.exec) (hZ : Z.Warmed39 s.vm) (eT : T.heap = h) (A : Ar Z h a .byte n f) {j : Int32} (hj : inb j n) {g : JFrame} (hg : g.method = m) {rest : List Value} (hs : g.stack = .int j :: .ref a :: rest) (hd : decode c.code g.pc = .ok (.baload, 1))
    (k : Ends p e below s cs ss Q (T.setTop { g with pc := g.pc + 1, stack := .int (f j.toNatClampNeg) :: rest })) : Ends p e below s cs ss Q (T.setTop g) := by
  obtain ⟨cl, A1, r1, -, r3⟩ := A
  subst r1
  exact k.step (X.baloadBytes hx (by rw [eT]; exact A1.1) (State.isArrayOf_alike hZ.alike A1.2.1) A1.2.2 hj (r3 _ (Nat.lt_of_not_le fun q => hj (Or.inr q))) hg hs hd)
theorem Ends.arrlen (X : Stand p l e R s m args below meth c T locs cells slots) (hx : p.tables.exec = Jvm.exec) (hZ : Z.Warmed39 s.vm) (eT : T.heap = h) (A : Ar Z h a ty n f) {g : JFrame} (hg : g.method = m) {rest : List Value} (hs : g.stack = .ref a :: rest) (hd : decode c.code g.pc = .ok (.arraylength, 1))
    (k : Ends p e below s cs ss Q (T.setTop { g with pc := g.pc + 1, stack := .int (Nat.toInt32 n) :: rest })) : Ends p e below s cs ss Q (T.setTop g) := by
  obtain ⟨cl, A1, r1, -, r3⟩ := A
  subst r1
  exact k.step (X.arraylength hx (by rw [eT]; exact A1.1) (State.isArrayOf_alike hZ.alike A1.2.1) hg hs hd)
theorem Ends.iastore (X : Stand p l e R s m args below meth c T locs cells slots) (hx : p.tables.exec = Jvm.exec) (hZ : Z.Warmed39 s.vm) (eT : T.heap = h) (A : Ar Z h a .int n f) {j x : Int32} (hj : inb j n) {n0 : Nat} (N : Fr n0 locs) (ge : n0 ≤ a) {g : JFrame} (hg : g.method = m) {rest : List Value} (hs : g.stack = .int x :: .int j :: .ref a :: rest) (hd : decode c.code g.pc = .ok (.iastore, 1))
    (k : ∀ T' h' sl, Stand p l e R s m args below meth c T' (locs ++ [⟨a, sl⟩]) cells slots → T'.heap = h' → Fr n0 (locs ++ [⟨a, sl⟩]) → Wr h h' a sl (.int x) → Ar Z h' a .int n (upd f j.toNatClampNeg x) → Ends p e below s cs ss Q (T'.setTop { g with pc := g.pc + 1, stack := rest })) : Ends p e below s cs ss Q (T.setTop g) := by
  obtain ⟨cl, A1, r1, r2, r3⟩ := A
  obtain ⟨T', h', X', e', W, st⟩ := stI X hx hZ eT A1 (by rw [r1]; exact hj) hg hs hd
  exact (k T' h' _ X' e' (Fr.snoc X' N ge) W (Ar.set ⟨cl, A1, r1, r2, r3⟩ W)).step st
theorem Ends.bastore (X : Stand p l e R s m args below meth c T locs cells slots) (hx : p.tables.exec = Jvm.exec) (hZ : Z.Warmed39 s.vm) (eT : T.heap = h) (A : Ar Z h a .byte n f) {j x : Int32} (hj : inb j n) {n0 : Nat} (N : Fr n0 locs) (ge : n0 ≤ a) {g : JFrame} (hg : g.method = m) {rest : List Value} (hs : g.stack = .int x :: .int j :: .ref a :: rest) (hd : decode c.code g.pc = .ok (.bastore, 1))
    (k : ∀ T' h' sl, Stand p l e R s m args below meth c T' (locs ++ [⟨a, sl⟩]) cells slots → T'.heap = h' → Fr n0 (locs ++ [⟨a, sl⟩]) → Wr h h' a sl (.int (nar .byte x)) → Ar Z h' a .byte n (upd f j.toNatClampNeg (nar .byte x)) → Ends p e below s cs ss Q (T'.setTop { g with pc := g.pc + 1, stack := rest })) : Ends p e below s cs ss Q (T.setTop g) := by
  obtain ⟨cl, A1, r1, r2, r3⟩ := A
  obtain ⟨T', h', X', e', W, st⟩ := stB X hx hZ eT A1 (by rw [r1]; exact hj) hg hs hd
  exact (k T' h' _ X' e' (Fr.snoc X' N ge) W (Ar.set ⟨cl, A1, r1, r2, r3⟩ W)).step st
theorem Ends.getF (X : Stand p l e R s m args below meth c T locs cells slots) (hx : p.tables.exec = Jvm.exec) (hZ : Z.Warmed39 s.vm) {own O fn d : String} {index : Nat} (hown : s.vm.findClass own = some m.cls) (w : (Jvm.Cond.fieldLink own index O fn d).before a0 Z = true) (eT : T.heap = h) (F : Fld Z h a O fn d v) {g : JFrame} (hg : g.method = m) {rest : List Value} (hs : g.stack = .ref a :: rest) (hd : decode c.code g.pc = .ok (.getfield index, 3))
    (k : ∀ T', Stand p l e R s m args below meth c T' locs cells slots → T'.heap = h → Ends p e below s cs ss Q (T'.setTop { g with pc := g.pc + 3, stack := v :: rest })) : Ends p e below s cs ss Q (T.setTop g) := by
  obtain ⟨T', X', e', st⟩ := Jvm.RoadKit.getF X hx hZ hown (host := "") (Or.inl w) Via.refl eT F hg hs hd
  exact (k T' X' e').step st
theorem Ends.putF (X : Stand p l e R s m args below meth c T locs cells slots) (hx : p.tables.exec = Jvm.exec) (hZ : Z.Warmed39 s.vm) {own O fn d : String} {index kk : Nat} {tf : FieldType} {old : Value} (hown : s.vm.findClass own = some m.cls) (w : (Jvm.Cond.fieldLink own index O fn d).before a0 Z = true) (eT : T.heap = h) (F : Fld Z h a O fn d old) (E : Exa Z h a O) (L : (Jvm.Cond.lays O O fn d).before a0 Z = true ∨ ((Jvm.Cond.laysFinal O O fn d).before a0 Z = true ∧ own = O ∧ meth.name = "<init>")) (wi : (Jvm.Cond.instantiable O kk).before a0 Z = true)
    (hty : parseFieldDescriptor d = some tf) (hn : narrow tf v = v) (hf : fits tf v = true) {n0 : Nat} (N : Fr n0 locs) (ge : n0 ≤ a) {g : JFrame} (hg : g.method = m) {rest : List Value} (hs : g.stack = v :: .ref a :: rest) (hd : decode c.code g.pc = .ok (.putfield index, 3))
    (k : ∀ T' h', Stand p l e R s m args below meth c T' (locs ++ [⟨a, Jvm.RoadKit.slotOf Z O fn d⟩]) cells slots → T'.heap = h' → Fr n0 (locs ++ [⟨a, Jvm.RoadKit.slotOf Z O fn d⟩]) → Wr h h' a (Jvm.RoadKit.slotOf Z O fn d) v → Ends p e below s cs ss Q (T'.setTop { g with pc := g.pc + 3, stack := rest })) : Ends p e below s cs ss Q (T.setTop g) := by
  obtain ⟨T', h', X', e', W, st⟩ := Jvm.RoadKit.putF X hx hZ hown (host := "") (Or.inl w) Via.refl eT F E L wi hty hn hf hg hs hd
  exact (k T' h' X' e' (Fr.snoc X' N ge) W).step st
theorem Ends.newO (X : Stand p l e R s m args below meth c T locs cells slots) (hx : p.tables.exec = Jvm.exec) (hZ : Z.Warmed39 s.vm) {own C : String} {index k : Nat} (hown : s.vm.findClass own = some m.cls) (w : (Jvm.Cond.classLink own index C).before a0 Z = true) (wi : (Jvm.Cond.instantiable C k).before a0 Z = true) (wz : (Jvm.Cond.initialized C).before a0 Z = true) (eT : T.heap = h)
    {g : JFrame} (hg : g.method = m) (hd : decode c.code g.pc = .ok (.new index, 3)) (hc : cells + 1 ≤ R.cells) (hl : slots + k ≤ R.slots)
    (kk : ∀ T' h' a, Stand p l e R s m args below meth c T' locs (cells + 1) (slots + k) → T'.heap = h' → Ext h h' → h.size = a → Exa Z h' a C → (∀ {O nm d : String} {ty : FieldType}, Laid Z a0 C O nm d → parseFieldDescriptor d = some ty → Fld Z h' a O nm d (defaultValue ty)) → Ends p e below s cs ss Q (T'.setTop { g with pc := g.pc + 3, stack := .ref a :: g.stack })) : Ends p e below s cs ss Q (T.setTop g) := by
  obtain ⟨T', h', X', e', E, A, D, -, st⟩ := Jvm.RoadKit.newO X hx hZ hown w wi wz eT hg hd hc hl
  exact (kk T' h' _ X' e' E rfl A D).step st
theorem Ends.initO (X : Stand p l e R s m args below meth c T locs cells slots) (hx : p.tables.exec = Jvm.exec) (hZ : Z.Warmed39 s.vm) {own : String} {idx : Nat} (hown : s.vm.findClass own = some m.cls) (w1 : (Jvm.Cond.methodLink own idx Lib.objectInit).before a0 Z = true) (w2 : (Jvm.Cond.instanceMethod Lib.objectInit).before a0 Z = true)
    (w3 : (Jvm.Cond.code Lib.objectInit ⟨#[0xb1]⟩ 1 none).before a0 Z = true) (eT : T.heap = h) {g : JFrame} (hg : g.method = m) (hsize : g.locals.size = c.maxLocals) {rest : List Value} (hs : g.stack = .ref a :: rest) (hd : decode c.code g.pc = .ok (.invokespecial idx, 3))
    (hf : 1 ≤ R.frames) (W : Nat) (hW : 2 * g.monitorRoom + (rest.map fun v => v.category).sum ≤ W) (hl : W + 12 ≤ R.locals)
    (k : ∀ T', Stand p l e R s m args below meth c T' locs cells slots → T'.heap = h → Ends p e below s cs ss Q (T'.setTop { g with pc := g.pc + 3, stack := rest })) : Ends p e below s cs ss Q (T.setTop g) := by
  obtain ⟨T', X', e', st⟩ := Jvm.RoadKit.initO X hx hZ hown w1 w2 w3 eT hg hsize hs hd hf hW hl
  exact (k T' X' e').step st
def OneS (o : Slot) : Prop := o = .unset ∨ ∃ w, o = .val w ∧ w.category = 1
theorem storeL {ls : Array Slot} {i : Nat} {x : Int64} {o o' : Slot} (h1 : ls[i]? = some o) (h2 : ls[i + 1]? = some o') (p1 : OneS o) (p2 : OneS o') : storeLocals ls i (.long x) = some ((ls.setIfInBounds i (.val (.long x))).setIfInBounds (i + 1) .second) := by
  have l1 : i < ls.size := (Array.getElem?_eq_some_iff.mp h1).1
  have l2 : i + 1 < ls.size := (Array.getElem?_eq_some_iff.mp h2).1
  have e2 : (ls.setIfInBounds i (.val (.long x)))[i + 1]? = some o' := by rw [Array.getElem?_setIfInBounds_ne (by omega)]; exact h2
  have q : storeSelf ls i (.long x) = some ((ls.setIfInBounds i (.val (.long x))).setIfInBounds (i + 1) .second) := by
    have cat : (Value.long x).category = 2 := rfl
    simp only [storeSelf, setAt, if_pos l1, cat, if_true, Option.bind_eq_bind, Option.bind_some, e2]
    rcases p2 with rfl | ⟨w, rfl, hw⟩
    · simp [l2]
    · simp [l2, hw]
  simp only [storeLocals, h1, Option.bind_eq_bind, Option.bind_some]
  rcases p1 with rfl | ⟨w, rfl, hw⟩
  · exact q
  · simp only [hw]; exact q
end OwnFrame
-- body 1
def F1_46 (K : Nat) (n_o0 : Nat) (f_o0 : Nat → Int32) (x4 : Int64) : Int64 := x4
def F1_40 (K : Nat) (rec : Nat → (Nat → Int32) → Int32 → Int64 → Int32 → Int64) (n_o0 : Nat) (f_o0 : Nat → Int32) (x3 : Int32) (x4 : Int64) (x6 : Int32) : Int64 := (rec n_o0 f_o0 x3 x4 (x6 + (1 : Int32)))
def O1_40 (K : Nat) (rec : Nat → (Nat → Int32) → Int32 → Int64 → Int32 → Prop) (n_o0 : Nat) (f_o0 : Nat → Int32) (x3 : Int32) (x4 : Int64) (x6 : Int32) : Prop := (rec n_o0 f_o0 x3 x4 (x6 + (1 : Int32)))
def F1_32 (K : Nat) (rec : Nat → (Nat → Int32) → Int32 → Int64 → Int32 → Int64) (n_o0 : Nat) (f_o0 : Nat → Int32) (x3 : Int32) (x4 : Int64) (x6 : Int32) : Int64 := (F1_40 K rec n_o0 f_o0 x3 (x4 * (1099511628211 : Int64)) x6)
def O1_32 (K : Nat) (rec : Nat → (Nat → Int32) → Int32 → Int64 → Int32 → Prop) (n_o0 : Nat) (f_o0 : Nat → Int32) (x3 : Int32) (x4 : Int64) (x6 : Int32) : Prop := (O1_40 K rec n_o0 f_o0 x3 (x4 * (1099511628211 : Int64)) x6)
def F1_18 (K : Nat) (rec : Nat → (Nat → Int32) → Int32 → Int64 → Int32 → Int64) (n_o0 : Nat) (f_o0 : Nat → Int32) (x3 : Int32) (x4 : Int64) (x6 : Int32) : Int64 := (F1_32 K rec n_o0 f_o0 x3 (x4 ^^^ ((((f_o0 (x6).toNatClampNeg) &&& (255 : Int32))).toInt64)) x6)
def O1_18 (K : Nat) (rec : Nat → (Nat → Int32) → Int32 → Int64 → Int32 → Prop) (n_o0 : Nat) (f_o0 : Nat → Int32) (x3 : Int32) (x4 : Int64) (x6 : Int32) : Prop := (inb x6 n_o0) ∧ (O1_32 K rec n_o0 f_o0 x3 (x4 ^^^ ((((f_o0 (x6).toNatClampNeg) &&& (255 : Int32))).toInt64)) x6)
def F1_12 (K : Nat) : Nat → Nat → (Nat → Int32) → Int32 → Int64 → Int32 → Int64
  | 0, _, _, _, _, _ => default
  | j + 1, n_o0, f_o0, x3, x4, x6 => if x6 < x3 then (F1_18 K (F1_12 K j) n_o0 f_o0 x3 x4 x6) else (F1_46 K n_o0 f_o0 x4)
def O1_12 (K : Nat) : Nat → Nat → (Nat → Int32) → Int32 → Int64 → Int32 → Prop
  | 0, _, _, _, _, _ => False
  | j + 1, n_o0, f_o0, x3, x4, x6 => (x6 < x3 → (O1_18 K (O1_12 K j) n_o0 f_o0 x3 x4 x6)) ∧ (¬ x6 < x3 → True)
def F1_4 (K : Nat) (n_o0 : Nat) (f_o0 : Nat → Int32) (x1 : Int32) (x3 : Int32) : Int64 := (F1_12 K K n_o0 f_o0 x3 (-3750763034362895579 : Int64) x1)
def O1_4 (K : Nat) (n_o0 : Nat) (f_o0 : Nat → Int32) (x1 : Int32) (x3 : Int32) : Prop := (O1_12 K K n_o0 f_o0 x3 (-3750763034362895579 : Int64) x1)
def F1 (K : Nat) (p1 : Int32) (p2 : Int32) (n_o0 : Nat) (f_o0 : Nat → Int32) : Int64 := (F1_4 K n_o0 f_o0 p1 (p1 + p2))
def O1 (K : Nat) (p1 : Int32) (p2 : Int32) (n_o0 : Nat) (f_o0 : Nat → Int32) : Prop := (O1_4 K n_o0 f_o0 p1 (p1 + p2))
-- body 2
def F2 (p0 : Int64) (p1 : Int32) : Int64 := ((p0 ^^^ (((p1 &&& (255 : Int32))).toInt64)) * (1099511628211 : Int64))
-- body 0
def F0_250 (K : Nat) (t0 : Int32) : Int32 := (nar .boolean t0)
def F0_245 (K : Nat)  : Int32 := (F0_250 K (1 : Int32))
def F0_249 (K : Nat)  : Int32 := (F0_250 K (0 : Int32))
def F0_236 (K : Nat) (x10 : Int64) : Int32 := if x10 = (-5808556873153909620 : Int64) then (F0_245 K) else (F0_249 K)
def F0_228 (K : Nat) (x8 : Int64) (x10 : Int64) (x12 : Int64) : Int32 := if x8 = x12 then (F0_236 K x10) else (F0_249 K)
def F0_214 (K : Nat) (cf_q2 : Nat → Int32) (x5 : Int32) (x8 : Int64) (x10 : Int64) (x12 : Int64) : Int32 := (F0_228 K x8 x10 (F2 x12 (cf_q2 ((x5 + (5 : Int32))).toNatClampNeg)))
def O0_214 (K : Nat) (cf_q2 : Nat → Int32) (x5 : Int32) (x8 : Int64) (x10 : Int64) (x12 : Int64) : Prop := (inb (x5 + (5 : Int32)) 6) ∧ True
def F0_208 (K : Nat) (cf_q2 : Nat → Int32) (x5 : Int32) (x6 : Int32) (x8 : Int64) (x10 : Int64) (x12 : Int64) : Int32 := if (5 : Int32) < x6 then (F0_214 K cf_q2 x5 x8 x10 x12) else (F0_228 K x8 x10 x12)
def O0_208 (K : Nat) (cf_q2 : Nat → Int32) (x5 : Int32) (x6 : Int32) (x8 : Int64) (x10 : Int64) (x12 : Int64) : Prop := ((5 : Int32) < x6 → (O0_214 K cf_q2 x5 x8 x10 x12)) ∧ (¬ (5 : Int32) < x6 → True)
def F0_194 (K : Nat) (cf_q2 : Nat → Int32) (x5 : Int32) (x6 : Int32) (x8 : Int64) (x10 : Int64) (x12 : Int64) : Int32 := (F0_208 K cf_q2 x5 x6 x8 x10 (F2 x12 (cf_q2 ((x5 + (4 : Int32))).toNatClampNeg)))
def O0_194 (K : Nat) (cf_q2 : Nat → Int32) (x5 : Int32) (x6 : Int32) (x8 : Int64) (x10 : Int64) (x12 : Int64) : Prop := (inb (x5 + (4 : Int32)) 6) ∧ (O0_208 K cf_q2 x5 x6 x8 x10 (F2 x12 (cf_q2 ((x5 + (4 : Int32))).toNatClampNeg)))
def F0_188 (K : Nat) (cf_q2 : Nat → Int32) (x5 : Int32) (x6 : Int32) (x8 : Int64) (x10 : Int64) (x12 : Int64) : Int32 := if (4 : Int32) < x6 then (F0_194 K cf_q2 x5 x6 x8 x10 x12) else (F0_208 K cf_q2 x5 x6 x8 x10 x12)
def O0_188 (K : Nat) (cf_q2 : Nat → Int32) (x5 : Int32) (x6 : Int32) (x8 : Int64) (x10 : Int64) (x12 : Int64) : Prop := ((4 : Int32) < x6 → (O0_194 K cf_q2 x5 x6 x8 x10 x12)) ∧ (¬ (4 : Int32) < x6 → (O0_208 K cf_q2 x5 x6 x8 x10 x12))
def F0_174 (K : Nat) (cf_q2 : Nat → Int32) (x5 : Int32) (x6 : Int32) (x8 : Int64) (x10 : Int64) (x12 : Int64) : Int32 := (F0_188 K cf_q2 x5 x6 x8 x10 (F2 x12 (cf_q2 ((x5 + (3 : Int32))).toNatClampNeg)))
def O0_174 (K : Nat) (cf_q2 : Nat → Int32) (x5 : Int32) (x6 : Int32) (x8 : Int64) (x10 : Int64) (x12 : Int64) : Prop := (inb (x5 + (3 : Int32)) 6) ∧ (O0_188 K cf_q2 x5 x6 x8 x10 (F2 x12 (cf_q2 ((x5 + (3 : Int32))).toNatClampNeg)))
def F0_168 (K : Nat) (cf_q2 : Nat → Int32) (x5 : Int32) (x6 : Int32) (x8 : Int64) (x10 : Int64) (x12 : Int64) : Int32 := if (3 : Int32) < x6 then (F0_174 K cf_q2 x5 x6 x8 x10 x12) else (F0_188 K cf_q2 x5 x6 x8 x10 x12)
def O0_168 (K : Nat) (cf_q2 : Nat → Int32) (x5 : Int32) (x6 : Int32) (x8 : Int64) (x10 : Int64) (x12 : Int64) : Prop := ((3 : Int32) < x6 → (O0_174 K cf_q2 x5 x6 x8 x10 x12)) ∧ (¬ (3 : Int32) < x6 → (O0_188 K cf_q2 x5 x6 x8 x10 x12))
def F0_154 (K : Nat) (cf_q2 : Nat → Int32) (x5 : Int32) (x6 : Int32) (x8 : Int64) (x10 : Int64) (x12 : Int64) : Int32 := (F0_168 K cf_q2 x5 x6 x8 x10 (F2 x12 (cf_q2 ((x5 + (2 : Int32))).toNatClampNeg)))
def O0_154 (K : Nat) (cf_q2 : Nat → Int32) (x5 : Int32) (x6 : Int32) (x8 : Int64) (x10 : Int64) (x12 : Int64) : Prop := (inb (x5 + (2 : Int32)) 6) ∧ (O0_168 K cf_q2 x5 x6 x8 x10 (F2 x12 (cf_q2 ((x5 + (2 : Int32))).toNatClampNeg)))
def F0_148 (K : Nat) (cf_q2 : Nat → Int32) (x5 : Int32) (x6 : Int32) (x8 : Int64) (x10 : Int64) (x12 : Int64) : Int32 := if (2 : Int32) < x6 then (F0_154 K cf_q2 x5 x6 x8 x10 x12) else (F0_168 K cf_q2 x5 x6 x8 x10 x12)
def O0_148 (K : Nat) (cf_q2 : Nat → Int32) (x5 : Int32) (x6 : Int32) (x8 : Int64) (x10 : Int64) (x12 : Int64) : Prop := ((2 : Int32) < x6 → (O0_154 K cf_q2 x5 x6 x8 x10 x12)) ∧ (¬ (2 : Int32) < x6 → (O0_168 K cf_q2 x5 x6 x8 x10 x12))
def F0_134 (K : Nat) (cf_q2 : Nat → Int32) (x5 : Int32) (x6 : Int32) (x8 : Int64) (x10 : Int64) (x12 : Int64) : Int32 := (F0_148 K cf_q2 x5 x6 x8 x10 (F2 x12 (cf_q2 ((x5 + (1 : Int32))).toNatClampNeg)))
def O0_134 (K : Nat) (cf_q2 : Nat → Int32) (x5 : Int32) (x6 : Int32) (x8 : Int64) (x10 : Int64) (x12 : Int64) : Prop := (inb (x5 + (1 : Int32)) 6) ∧ (O0_148 K cf_q2 x5 x6 x8 x10 (F2 x12 (cf_q2 ((x5 + (1 : Int32))).toNatClampNeg)))
def F0_128 (K : Nat) (cf_q2 : Nat → Int32) (x5 : Int32) (x6 : Int32) (x8 : Int64) (x10 : Int64) (x12 : Int64) : Int32 := if (1 : Int32) < x6 then (F0_134 K cf_q2 x5 x6 x8 x10 x12) else (F0_148 K cf_q2 x5 x6 x8 x10 x12)
def O0_128 (K : Nat) (cf_q2 : Nat → Int32) (x5 : Int32) (x6 : Int32) (x8 : Int64) (x10 : Int64) (x12 : Int64) : Prop := ((1 : Int32) < x6 → (O0_134 K cf_q2 x5 x6 x8 x10 x12)) ∧ (¬ (1 : Int32) < x6 → (O0_148 K cf_q2 x5 x6 x8 x10 x12))
def F0_116 (K : Nat) (cf_q2 : Nat → Int32) (x5 : Int32) (x6 : Int32) (x8 : Int64) (x10 : Int64) (x12 : Int64) : Int32 := (F0_128 K cf_q2 x5 x6 x8 x10 (F2 x12 (cf_q2 (x5).toNatClampNeg)))
def O0_116 (K : Nat) (cf_q2 : Nat → Int32) (x5 : Int32) (x6 : Int32) (x8 : Int64) (x10 : Int64) (x12 : Int64) : Prop := (inb x5 6) ∧ (O0_128 K cf_q2 x5 x6 x8 x10 (F2 x12 (cf_q2 (x5).toNatClampNeg)))
def F0_106 (K : Nat) (cf_q2 : Nat → Int32) (x5 : Int32) (x6 : Int32) (x8 : Int64) (x10 : Int64) : Int32 := if 0 < x6 then (F0_116 K cf_q2 x5 x6 x8 x10 (-3750763034362895579 : Int64)) else (F0_128 K cf_q2 x5 x6 x8 x10 (-3750763034362895579 : Int64))
def O0_106 (K : Nat) (cf_q2 : Nat → Int32) (x5 : Int32) (x6 : Int32) (x8 : Int64) (x10 : Int64) : Prop := (0 < x6 → (O0_116 K cf_q2 x5 x6 x8 x10 (-3750763034362895579 : Int64))) ∧ (¬ 0 < x6 → (O0_128 K cf_q2 x5 x6 x8 x10 (-3750763034362895579 : Int64)))
def F0_97 (K : Nat) (cf_q2 : Nat → Int32) (cf_q76 : Nat → Int32) (x5 : Int32) (x6 : Int32) (x8 : Int64) : Int32 := (F0_106 K cf_q2 x5 x6 x8 (F1 K (0 : Int32) (1 : Int32) 1 cf_q76))
def O0_97 (K : Nat) (cf_q2 : Nat → Int32) (cf_q76 : Nat → Int32) (x5 : Int32) (x6 : Int32) (x8 : Int64) : Prop := (O1 K (0 : Int32) (1 : Int32) 1 cf_q76) ∧ (O0_106 K cf_q2 x5 x6 x8 (F1 K (0 : Int32) (1 : Int32) 1 cf_q76))
def F0_75 (K : Nat) (cf_q2 : Nat → Int32) (x5 : Int32) (x6 : Int32) : Int32 := (F0_97 K cf_q2 (upd (fun _ => 0) 0 (nar .byte (97 : Int32))) x5 x6 (F1 K x5 x6 6 cf_q2))
def O0_75 (K : Nat) (cf_q2 : Nat → Int32) (x5 : Int32) (x6 : Int32) : Prop := (O1 K x5 x6 6 cf_q2) ∧ (O0_97 K cf_q2 (upd (fun _ => 0) 0 (nar .byte (97 : Int32))) x5 x6 (F1 K x5 x6 6 cf_q2))
def F0_63 (K : Nat) (cf_q2 : Nat → Int32) (x3 : Int32) (x5 : Int32) : Int32 := (F0_75 K cf_q2 x5 ((x3 &&& (2147483647 : Int32)) % ((7 : Int32) - x5)))
def O0_63 (K : Nat) (cf_q2 : Nat → Int32) (x3 : Int32) (x5 : Int32) : Prop := (((7 : Int32) - x5) ≠ 0) ∧ (O0_75 K cf_q2 x5 ((x3 &&& (2147483647 : Int32)) % ((7 : Int32) - x5)))
def F0 (K : Nat) (p0 : Int32) (p1 : Int32) (p2 : Int32) (p3 : Int32) : Int32 := (F0_63 K (upd (upd (upd (upd (upd (upd (fun _ => 0) 0 (nar .byte ((p0).toInt8.toInt32))) 1 (nar .byte (((XT.ushr p0 (8 : Int32))).toInt8.toInt32))) 2 (nar .byte (((XT.ushr p0 (16 : Int32))).toInt8.toInt32))) 3 (nar .byte (((XT.ushr p0 (24 : Int32))).toInt8.toInt32))) 4 (nar .byte ((p1).toInt8.toInt32))) 5 (nar .byte (((XT.ushr p1 (8 : Int32))).toInt8.toInt32))) p3 ((p2 &&& (2147483647 : Int32)) % (7 : Int32)))
def O0 (K : Nat) (p0 : Int32) (p1 : Int32) (p2 : Int32) (p3 : Int32) : Prop := (O0_63 K (upd (upd (upd (upd (upd (upd (fun _ => 0) 0 (nar .byte ((p0).toInt8.toInt32))) 1 (nar .byte (((XT.ushr p0 (8 : Int32))).toInt8.toInt32))) 2 (nar .byte (((XT.ushr p0 (16 : Int32))).toInt8.toInt32))) 3 (nar .byte (((XT.ushr p0 (24 : Int32))).toInt8.toInt32))) 4 (nar .byte ((p1).toInt8.toInt32))) 5 (nar .byte (((XT.ushr p1 (8 : Int32))).toInt8.toInt32))) p3 ((p2 &&& (2147483647 : Int32)) % (7 : Int32)))
theorem pd_0 : parseMethodDescriptor "([BII)J" = some ⟨[(.array .byte), .int, .int], (some .long)⟩ := by decide +kernel
theorem pd_1 : parseMethodDescriptor "(JB)J" = some ⟨[.long, .byte], (some .long)⟩ := by decide +kernel
theorem d1_0 : decode prog_8_method_3_code 0 = .ok (.iload_n 1, 1) := by decide +kernel
theorem d1_1 : decode prog_8_method_3_code 1 = .ok (.iload_n 2, 1) := by decide +kernel
theorem d1_2 : decode prog_8_method_3_code 2 = .ok (.iadd, 1) := by decide +kernel
theorem d1_3 : decode prog_8_method_3_code 3 = .ok (.istore_n 3, 1) := by decide +kernel
theorem d1_4 : decode prog_8_method_3_code 4 = .ok (.ldc2_w 17, 3) := by decide +kernel
theorem d1_7 : decode prog_8_method_3_code 7 = .ok (.lstore 4, 2) := by decide +kernel
theorem d1_9 : decode prog_8_method_3_code 9 = .ok (.iload_n 1, 1) := by decide +kernel
theorem d1_10 : decode prog_8_method_3_code 10 = .ok (.istore 6, 2) := by decide +kernel
theorem d1_12 : decode prog_8_method_3_code 12 = .ok (.iload 6, 2) := by decide +kernel
theorem d1_14 : decode prog_8_method_3_code 14 = .ok (.iload_n 3, 1) := by decide +kernel
theorem d1_15 : decode prog_8_method_3_code 15 = .ok (.if_icmp .ge 31, 3) := by decide +kernel
theorem d1_18 : decode prog_8_method_3_code 18 = .ok (.lload 4, 2) := by decide +kernel
theorem d1_20 : decode prog_8_method_3_code 20 = .ok (.aload_n 0, 1) := by decide +kernel
theorem d1_21 : decode prog_8_method_3_code 21 = .ok (.iload 6, 2) := by decide +kernel
theorem d1_23 : decode prog_8_method_3_code 23 = .ok (.baload, 1) := by decide +kernel
theorem d1_24 : decode prog_8_method_3_code 24 = .ok (.sipush 255, 3) := by decide +kernel
theorem d1_27 : decode prog_8_method_3_code 27 = .ok (.iand, 1) := by decide +kernel
theorem d1_28 : decode prog_8_method_3_code 28 = .ok (.i2l, 1) := by decide +kernel
theorem d1_29 : decode prog_8_method_3_code 29 = .ok (.lxor, 1) := by decide +kernel
theorem d1_30 : decode prog_8_method_3_code 30 = .ok (.lstore 4, 2) := by decide +kernel
theorem d1_32 : decode prog_8_method_3_code 32 = .ok (.lload 4, 2) := by decide +kernel
theorem d1_34 : decode prog_8_method_3_code 34 = .ok (.ldc2_w 19, 3) := by decide +kernel
theorem d1_37 : decode prog_8_method_3_code 37 = .ok (.lmul, 1) := by decide +kernel
theorem d1_38 : decode prog_8_method_3_code 38 = .ok (.lstore 4, 2) := by decide +kernel
theorem d1_40 : decode prog_8_method_3_code 40 = .ok (.iinc 6 1, 3) := by decide +kernel
theorem d1_43 : decode prog_8_method_3_code 43 = .ok (.goto (-31), 3) := by decide +kernel
theorem d1_46 : decode prog_8_method_3_code 46 = .ok (.lload 4, 2) := by decide +kernel
theorem d1_48 : decode prog_8_method_3_code 48 = .ok (.lreturn, 1) := by decide +kernel
theorem pn_1 : plainName "com/example/ananke/ananke/hash/Fnv1a" = true := by first | (simp [plainName, overriddenIn]; done) | decide +kernel
theorem ef_1 (m : MethodId) (y0 : Addr) (y1 : Int32) (y2 : Int32) : entryFrame m #[(.ref y0), (.int y1), (.int y2)] 7 = mkF m 0 #[.val (.ref y0), .val (.int y1), .val (.int y2), .unset, .unset, .unset, .unset] [] := by first | rfl | (simp [entryFrame, mkF, argsToLocals, Value.category]; done)
def Q1 (Z : State) (a_o0 : Addr) (n_o0 : Nat) (f_o0 : Nat → Int32) (h0 : Heap) (n0 : Nat) (ans : Int64) (v : Option Value) (h : Heap) (L : List Loc) : Prop := v = some (.long ans) ∧ Fr n0 L ∧ h = h0
set_option maxRecDepth 65536 in
set_option maxHeartbeats 40000000 in
theorem rm1 (l : Launch) (Z : State) (a0 : Array Value) (hw : ∀ d ∈ tables_1, d.before a0 Z = true) (K : Nat) (p1 : Int32) (p2 : Int32) (n_o0 : Nat) (f_o0 : Nat → Int32) (a_o0 : Addr) (h0 : Heap) (n0 : Nat) (Z0 : n0 ≤ h0.size) (A_o0 : Ar Z h0 a_o0 .byte n_o0 f_o0) (ok : O1 K p1 p2 n_o0 f_o0) :
    Meets l Z (⟨"com/example/ananke/ananke/hash/Fnv1a", "hash64", "([BII)J"⟩ : MethodName) prog_8_method_3_code 7 (some .long) [] ({ frames := 0, cells := 0, slots := 0, locals := 0 } : Room) #[(.ref a_o0), (.int p1), (.int p2)] h0 (Q1 Z a_o0 n_o0 f_o0 h0 n0 (F1 K p1 p2 n_o0 f_o0)) 0 0 := by
  refine Meets.of pn_1 ?_
  intro p e s m below meth c s₁ hx hby hml hZ hown hnm hret hlk X0 e0
  have hml : c.maxLocals = 7 := hml
  have hown : s.vm.findClass "com/example/ananke/ananke/hash/Fnv1a" = some m.cls := hown
  have N0 := Fr.nil n0
  have b46 : ∀ (T : State) (L : List Loc) (X : Stand p l e ({ frames := 0, cells := 0, slots := 0, locals := 0 } : Room) s m #[(.ref a_o0), (.int p1), (.int p2)] below meth c T L 0 0) (eT : T.heap = h0) (N : Fr n0 L) (x4 : Int64) (d0 : Slot) (od0 : OneS d0) (d1 : Slot) (od1 : OneS d1) (d2 : Slot) (od2 : OneS d2) (d3 : Slot) (od3 : OneS d3) (d6 : Slot) (od6 : OneS d6), Ends p e below s 0 0 (Q1 Z a_o0 n_o0 f_o0 h0 n0 (F1_46 K n_o0 f_o0 x4)) (T.setTop (mkF m 46 #[d0, d1, d2, d3, .val (.long x4), .second, d6] [])) := by
    intro T L X eT N x4 d0 od0 d1 od1 d2 od2 d3 od3 d6 od6
    refine Ends.step (u' := (T.setTop (mkF m 48 #[d0, d1, d2, d3, .val (.long x4), .second, d6] [(.long x4)]))) ?_ (fun _ k => XT.lload X.here hx rfl (hb hby d1_46) rfl k)
    exact Ends.ret X (v := some (.long x4)) (fun q => by rw [hret] at q; cases q) hlk (fun fs hr => X.lreturnOut hx hret (hb hby d1_48) hr) (by decide) (by decide) ⟨rfl, N, eT⟩
  have b12 : ∀ (j : Nat) (T : State) (L : List Loc) (X : Stand p l e ({ frames := 0, cells := 0, slots := 0, locals := 0 } : Room) s m #[(.ref a_o0), (.int p1), (.int p2)] below meth c T L 0 0) (eT : T.heap = h0) (N : Fr n0 L) (x3 : Int32) (x4 : Int64) (x6 : Int32) (d1 : Slot) (od1 : OneS d1) (d2 : Slot) (od2 : OneS d2) (ok : (O1_12 K j n_o0 f_o0 x3 x4 x6)), Ends p e below s 0 0 (Q1 Z a_o0 n_o0 f_o0 h0 n0 (F1_12 K j n_o0 f_o0 x3 x4 x6)) (T.setTop (mkF m 12 #[.val (.ref a_o0), d1, d2, .val (.int x3), .val (.long x4), .second, .val (.int x6)] [])) := by
    intro j
    induction j with
    | zero => intro T L X eT N x3 x4 x6 d1 od1 d2 od2 ok; exact ok.elim
    | succ j ih =>
      have b40 : ∀ (T : State) (L : List Loc) (X : Stand p l e ({ frames := 0, cells := 0, slots := 0, locals := 0 } : Room) s m #[(.ref a_o0), (.int p1), (.int p2)] below meth c T L 0 0) (eT : T.heap = h0) (N : Fr n0 L) (x3 : Int32) (x4 : Int64) (x6 : Int32) (d1 : Slot) (od1 : OneS d1) (d2 : Slot) (od2 : OneS d2) (ok : (O1_40 K (O1_12 K j) n_o0 f_o0 x3 x4 x6)), Ends p e below s 0 0 (Q1 Z a_o0 n_o0 f_o0 h0 n0 (F1_40 K (F1_12 K j) n_o0 f_o0 x3 x4 x6)) (T.setTop (mkF m 40 #[.val (.ref a_o0), d1, d2, .val (.int x3), .val (.long x4), .second, .val (.int x6)] [])) := by
        intro T L X eT N x3 x4 x6 d1 od1 d2 od2 ok
        refine Ends.step (u' := (T.setTop (mkF m 43 #[.val (.ref a_o0), d1, d2, .val (.int x3), .val (.long x4), .second, .val (.int (x6 + (1 : Int32)))] []))) ?_ (fun _ k => XT.iincV X.here hx rfl (1 : Int32) (hb hby d1_40) rfl rfl (l' := #[.val (.ref a_o0), d1, d2, .val (.int x3), .val (.long x4), .second, .val (.int (x6 + (1 : Int32)))]) rfl k)
        refine Ends.step (u' := (T.setTop (mkF m 12 #[.val (.ref a_o0), d1, d2, .val (.int x3), .val (.long x4), .second, .val (.int (x6 + (1 : Int32)))] []))) ?_ (fun _ k => XS.goto X.here hx rfl (pc0 := 43) (pc' := 12) rfl (hb hby d1_43) (by decide) (by decide) k)
        exact ih T _ X eT N x3 x4 (x6 + (1 : Int32)) (d1) od1 (d2) od2 ok
      have b32 : ∀ (T : State) (L : List Loc) (X : Stand p l e ({ frames := 0, cells := 0, slots := 0, locals := 0 } : Room) s m #[(.ref a_o0), (.int p1), (.int p2)] below meth c T L 0 0) (eT : T.heap = h0) (N : Fr n0 L) (x3 : Int32) (x4 : Int64) (x6 : Int32) (d1 : Slot) (od1 : OneS d1) (d2 : Slot) (od2 : OneS d2) (ok : (O1_32 K (O1_12 K j) n_o0 f_o0 x3 x4 x6)), Ends p e below s 0 0 (Q1 Z a_o0 n_o0 f_o0 h0 n0 (F1_32 K (F1_12 K j) n_o0 f_o0 x3 x4 x6)) (T.setTop (mkF m 32 #[.val (.ref a_o0), d1, d2, .val (.int x3), .val (.long x4), .second, .val (.int x6)] [])) := by
        intro T L X eT N x3 x4 x6 d1 od1 d2 od2 ok
        refine Ends.step (u' := (T.setTop (mkF m 34 #[.val (.ref a_o0), d1, d2, .val (.int x3), .val (.long x4), .second, .val (.int x6)] [(.long x4)]))) ?_ (fun _ k => XT.lload X.here hx rfl (hb hby d1_32) rfl k)
        refine Ends.step (u' := (T.setTop (mkF m 37 #[.val (.ref a_o0), d1, d2, .val (.int x3), .val (.long x4), .second, .val (.int x6)] [(.long (1099511628211 : Int64)), (.long x4)]))) ?_ (fun _ k => X.ldc2J hx hown (mvT hZ (hw _ (List.mem_of_getElem? (i := 7) rfl))) rfl (hb hby d1_34) k)
        refine Ends.step (u' := (T.setTop (mkF m 38 #[.val (.ref a_o0), d1, d2, .val (.int x3), .val (.long x4), .second, .val (.int x6)] [(.long (x4 * (1099511628211 : Int64)))]))) ?_ (fun _ k => XT.lmul X.here hx rfl (hb hby d1_37) rfl k)
        refine Ends.step (u' := (T.setTop (mkF m 40 #[.val (.ref a_o0), d1, d2, .val (.int x3), .val (.long (x4 * (1099511628211 : Int64))), .second, .val (.int x6)] []))) ?_ (fun _ k => XT.lstore X.here hx rfl (hb hby d1_38) rfl (l' := #[.val (.ref a_o0), d1, d2, .val (.int x3), .val (.long (x4 * (1099511628211 : Int64))), .second, .val (.int x6)]) rfl k)
        exact b40 T _ X eT N x3 (x4 * (1099511628211 : Int64)) x6 (d1) od1 (d2) od2 ok
      have b18 : ∀ (T : State) (L : List Loc) (X : Stand p l e ({ frames := 0, cells := 0, slots := 0, locals := 0 } : Room) s m #[(.ref a_o0), (.int p1), (.int p2)] below meth c T L 0 0) (eT : T.heap = h0) (N : Fr n0 L) (x3 : Int32) (x4 : Int64) (x6 : Int32) (d1 : Slot) (od1 : OneS d1) (d2 : Slot) (od2 : OneS d2) (ok : (O1_18 K (O1_12 K j) n_o0 f_o0 x3 x4 x6)), Ends p e below s 0 0 (Q1 Z a_o0 n_o0 f_o0 h0 n0 (F1_18 K (F1_12 K j) n_o0 f_o0 x3 x4 x6)) (T.setTop (mkF m 18 #[.val (.ref a_o0), d1, d2, .val (.int x3), .val (.long x4), .second, .val (.int x6)] [])) := by
        intro T L X eT N x3 x4 x6 d1 od1 d2 od2 ok
        obtain ⟨o1, ok⟩ := ok
        refine Ends.step (u' := (T.setTop (mkF m 20 #[.val (.ref a_o0), d1, d2, .val (.int x3), .val (.long x4), .second, .val (.int x6)] [(.long x4)]))) ?_ (fun _ k => XT.lload X.here hx rfl (hb hby d1_18) rfl k)
        refine Ends.step (u' := (T.setTop (mkF m 21 #[.val (.ref a_o0), d1, d2, .val (.int x3), .val (.long x4), .second, .val (.int x6)] [(.ref a_o0), (.long x4)]))) ?_ (fun _ k => XS.aloadN X.here hx rfl (hb hby d1_20) rfl rfl k)
        refine Ends.step (u' := (T.setTop (mkF m 23 #[.val (.ref a_o0), d1, d2, .val (.int x3), .val (.long x4), .second, .val (.int x6)] [(.int x6), (.ref a_o0), (.long x4)]))) ?_ (fun _ k => XS.iload X.here hx rfl (hb hby d1_21) rfl k)
        refine Ends.baload X hx hZ eT A_o0 o1 (g := (mkF m 23 #[.val (.ref a_o0), d1, d2, .val (.int x3), .val (.long x4), .second, .val (.int x6)] [(.int x6), (.ref a_o0), (.long x4)])) rfl rfl (hb hby d1_23) ?_
        show Ends p e below s _ _ _ (T.setTop (mkF m 24 #[.val (.ref a_o0), d1, d2, .val (.int x3), .val (.long x4), .second, .val (.int x6)] [(.int (f_o0 (x6).toNatClampNeg)), (.long x4)]))
        refine Ends.step (u' := (T.setTop (mkF m 27 #[.val (.ref a_o0), d1, d2, .val (.int x3), .val (.long x4), .second, .val (.int x6)] [(.int (255 : Int32)), (.int (f_o0 (x6).toNatClampNeg)), (.long x4)]))) ?_ (fun _ k => XT.sipushV X.here hx rfl (255 : Int32) (hb hby d1_24) rfl k)
        refine Ends.step (u' := (T.setTop (mkF m 28 #[.val (.ref a_o0), d1, d2, .val (.int x3), .val (.long x4), .second, .val (.int x6)] [(.int ((f_o0 (x6).toNatClampNeg) &&& (255 : Int32))), (.long x4)]))) ?_ (fun _ k => XS.iand X.here hx rfl (hb hby d1_27) rfl k)
        refine Ends.step (u' := (T.setTop (mkF m 29 #[.val (.ref a_o0), d1, d2, .val (.int x3), .val (.long x4), .second, .val (.int x6)] [(.long ((((f_o0 (x6).toNatClampNeg) &&& (255 : Int32))).toInt64)), (.long x4)]))) ?_ (fun _ k => XT.i2l X.here hx rfl (hb hby d1_28) rfl k)
        refine Ends.step (u' := (T.setTop (mkF m 30 #[.val (.ref a_o0), d1, d2, .val (.int x3), .val (.long x4), .second, .val (.int x6)] [(.long (x4 ^^^ ((((f_o0 (x6).toNatClampNeg) &&& (255 : Int32))).toInt64)))]))) ?_ (fun _ k => XT.lxor X.here hx rfl (hb hby d1_29) rfl k)
        refine Ends.step (u' := (T.setTop (mkF m 32 #[.val (.ref a_o0), d1, d2, .val (.int x3), .val (.long (x4 ^^^ ((((f_o0 (x6).toNatClampNeg) &&& (255 : Int32))).toInt64))), .second, .val (.int x6)] []))) ?_ (fun _ k => XT.lstore X.here hx rfl (hb hby d1_30) rfl (l' := #[.val (.ref a_o0), d1, d2, .val (.int x3), .val (.long (x4 ^^^ ((((f_o0 (x6).toNatClampNeg) &&& (255 : Int32))).toInt64))), .second, .val (.int x6)]) rfl k)
        exact b32 T _ X eT N x3 (x4 ^^^ ((((f_o0 (x6).toNatClampNeg) &&& (255 : Int32))).toInt64)) x6 (d1) od1 (d2) od2 ok
      intro T L X eT N x3 x4 x6 d1 od1 d2 od2 ok
      obtain ⟨okt, okf⟩ := ok
      refine Ends.step (u' := (T.setTop (mkF m 14 #[.val (.ref a_o0), d1, d2, .val (.int x3), .val (.long x4), .second, .val (.int x6)] [(.int x6)]))) ?_ (fun _ k => XS.iload X.here hx rfl (hb hby d1_12) rfl k)
      refine Ends.step (u' := (T.setTop (mkF m 15 #[.val (.ref a_o0), d1, d2, .val (.int x3), .val (.long x4), .second, .val (.int x6)] [(.int x3), (.int x6)]))) ?_ (fun _ k => XS.iloadN X.here hx rfl (hb hby d1_14) rfl k)
      by_cases hc15 : x6 < x3
      · refine Eq.mp (congrArg (fun z => Ends p e below s 0 0 (Q1 Z a_o0 n_o0 f_o0 h0 n0 z) (T.setTop (mkF m 15 #[.val (.ref a_o0), d1, d2, .val (.int x3), .val (.long x4), .second, .val (.int x6)] [(.int x3), (.int x6)]))) (show (F1_12 K (j + 1) n_o0 f_o0 x3 x4 x6) = (F1_18 K (F1_12 K j) n_o0 f_o0 x3 x4 x6) from (if_pos hc15)).symm) ?_
        refine Ends.step (u' := (T.setTop (mkF m 18 #[.val (.ref a_o0), d1, d2, .val (.int x3), .val (.long x4), .second, .val (.int x6)] []))) ?_ (fun _ k => XS.icmpNo X.here hx rfl (hb hby d1_15) rfl (XT.ii_ge_f hc15) k)
        exact b18 T _ X eT N x3 x4 x6 (d1) od1 (d2) od2 (okt hc15)
      · refine Eq.mp (congrArg (fun z => Ends p e below s 0 0 (Q1 Z a_o0 n_o0 f_o0 h0 n0 z) (T.setTop (mkF m 15 #[.val (.ref a_o0), d1, d2, .val (.int x3), .val (.long x4), .second, .val (.int x6)] [(.int x3), (.int x6)]))) (show (F1_12 K (j + 1) n_o0 f_o0 x3 x4 x6) = (F1_46 K n_o0 f_o0 x4) from (if_neg hc15)).symm) ?_
        refine Ends.step (u' := (T.setTop (mkF m 46 #[.val (.ref a_o0), d1, d2, .val (.int x3), .val (.long x4), .second, .val (.int x6)] []))) ?_ (fun _ k => XS.icmpYes X.here hx rfl (pc0 := 15) (pc' := 46) rfl (hb hby d1_15) rfl (XT.ii_ge_t hc15) (by decide) (by decide) k)
        exact b46 T _ X eT N x4 (.val (.ref a_o0)) (Or.inr ⟨_, rfl, rfl⟩) (d1) od1 (d2) od2 (.val (.int x3)) (Or.inr ⟨_, rfl, rfl⟩) (.val (.int x6)) (Or.inr ⟨_, rfl, rfl⟩)
  have b4 : ∀ (T : State) (L : List Loc) (X : Stand p l e ({ frames := 0, cells := 0, slots := 0, locals := 0 } : Room) s m #[(.ref a_o0), (.int p1), (.int p2)] below meth c T L 0 0) (eT : T.heap = h0) (N : Fr n0 L) (x1 : Int32) (x3 : Int32) (d2 : Slot) (od2 : OneS d2) (ok : (O1_4 K n_o0 f_o0 x1 x3)), Ends p e below s 0 0 (Q1 Z a_o0 n_o0 f_o0 h0 n0 (F1_4 K n_o0 f_o0 x1 x3)) (T.setTop (mkF m 4 #[.val (.ref a_o0), .val (.int x1), d2, .val (.int x3), .unset, .unset, .unset] [])) := by
    intro T L X eT N x1 x3 d2 od2 ok
    refine Ends.step (u' := (T.setTop (mkF m 7 #[.val (.ref a_o0), .val (.int x1), d2, .val (.int x3), .unset, .unset, .unset] [(.long (-3750763034362895579 : Int64))]))) ?_ (fun _ k => X.ldc2J hx hown (mvT hZ (hw _ (List.mem_of_getElem? (i := 6) rfl))) rfl (hb hby d1_4) k)
    refine Ends.step (u' := (T.setTop (mkF m 9 #[.val (.ref a_o0), .val (.int x1), d2, .val (.int x3), .val (.long (-3750763034362895579 : Int64)), .second, .unset] []))) ?_ (fun _ k => XT.lstore X.here hx rfl (hb hby d1_7) rfl (l' := #[.val (.ref a_o0), .val (.int x1), d2, .val (.int x3), .val (.long (-3750763034362895579 : Int64)), .second, .unset]) rfl k)
    refine Ends.step (u' := (T.setTop (mkF m 10 #[.val (.ref a_o0), .val (.int x1), d2, .val (.int x3), .val (.long (-3750763034362895579 : Int64)), .second, .unset] [(.int x1)]))) ?_ (fun _ k => XS.iloadN X.here hx rfl (hb hby d1_9) rfl k)
    refine Ends.step (u' := (T.setTop (mkF m 12 #[.val (.ref a_o0), .val (.int x1), d2, .val (.int x3), .val (.long (-3750763034362895579 : Int64)), .second, .val (.int x1)] []))) ?_ (fun _ k => XS.istore X.here hx rfl (hb hby d1_10) rfl (l' := #[.val (.ref a_o0), .val (.int x1), d2, .val (.int x3), .val (.long (-3750763034362895579 : Int64)), .second, .val (.int x1)]) rfl k)
    exact b12 K T _ X eT N x3 (-3750763034362895579 : Int64) x1 (.val (.int x1)) (Or.inr ⟨_, rfl, rfl⟩) (d2) od2 ok
  refine Ends.step (u' := (s₁.setTop (mkF m 0 #[.val (.ref a_o0), .val (.int p1), .val (.int p2), .unset, .unset, .unset, .unset] []))) ?_ (fun _ k => castTop (ef_1 m a_o0 p1 p2) k)
  refine Ends.step (u' := (s₁.setTop (mkF m 1 #[.val (.ref a_o0), .val (.int p1), .val (.int p2), .unset, .unset, .unset, .unset] [(.int p1)]))) ?_ (fun _ k => XS.iloadN X0.here hx rfl (hb hby d1_0) rfl k)
  refine Ends.step (u' := (s₁.setTop (mkF m 2 #[.val (.ref a_o0), .val (.int p1), .val (.int p2), .unset, .unset, .unset, .unset] [(.int p2), (.int p1)]))) ?_ (fun _ k => XS.iloadN X0.here hx rfl (hb hby d1_1) rfl k)
  refine Ends.step (u' := (s₁.setTop (mkF m 3 #[.val (.ref a_o0), .val (.int p1), .val (.int p2), .unset, .unset, .unset, .unset] [(.int (p1 + p2))]))) ?_ (fun _ k => XS.iadd X0.here hx rfl (hb hby d1_2) rfl k)
  refine Ends.step (u' := (s₁.setTop (mkF m 4 #[.val (.ref a_o0), .val (.int p1), .val (.int p2), .val (.int (p1 + p2)), .unset, .unset, .unset] []))) ?_ (fun _ k => XS.istoreN X0.here hx rfl (hb hby d1_3) rfl (l' := #[.val (.ref a_o0), .val (.int p1), .val (.int p2), .val (.int (p1 + p2)), .unset, .unset, .unset]) rfl k)
  exact b4 s₁ _ X0 e0 N0 p1 (p1 + p2) (.val (.int p2)) (Or.inr ⟨_, rfl, rfl⟩) ok
theorem d2_0 : decode method_2_code 0 = .ok (.lload_n 0, 1) := by decide +kernel
theorem d2_1 : decode method_2_code 1 = .ok (.iload_n 2, 1) := by decide +kernel
theorem d2_2 : decode method_2_code 2 = .ok (.sipush 255, 3) := by decide +kernel
theorem d2_5 : decode method_2_code 5 = .ok (.iand, 1) := by decide +kernel
theorem d2_6 : decode method_2_code 6 = .ok (.i2l, 1) := by decide +kernel
theorem d2_7 : decode method_2_code 7 = .ok (.lxor, 1) := by decide +kernel
theorem d2_8 : decode method_2_code 8 = .ok (.ldc2_w 7, 3) := by decide +kernel
theorem d2_11 : decode method_2_code 11 = .ok (.lmul, 1) := by decide +kernel
theorem d2_12 : decode method_2_code 12 = .ok (.lreturn, 1) := by decide +kernel
theorem pn_2 : plainName "com/example/ananke/ananke/hash/Fnv1aHash64PinLaw" = true := by first | (simp [plainName, overriddenIn]; done) | decide +kernel
theorem ef_2 (m : MethodId) (y0 : Int64) (y1 : Int32) : entryFrame m #[(.long y0), (.int y1)] 3 = mkF m 0 #[.val (.long y0), .second, .val (.int y1)] [] := by first | rfl | (simp [entryFrame, mkF, argsToLocals, Value.category]; done)
def Q2 (Z : State)   (h0 : Heap) (n0 : Nat) (ans : Int64) (v : Option Value) (h : Heap) (L : List Loc) : Prop := v = some (.long ans) ∧ Fr n0 L ∧ h = h0
set_option maxRecDepth 65536 in
set_option maxHeartbeats 40000000 in
theorem rm2 (l : Launch) (Z : State) (a0 : Array Value) (hw : ∀ d ∈ tables_1, d.before a0 Z = true) (p0 : Int64) (p1 : Int32)  (h0 : Heap) (n0 : Nat) (Z0 : n0 ≤ h0.size)  :
    Meets l Z (⟨"com/example/ananke/ananke/hash/Fnv1aHash64PinLaw", "step", "(JB)J"⟩ : MethodName) method_2_code 3 (some .long) [] ({ frames := 0, cells := 0, slots := 0, locals := 0 } : Room) #[(.long p0), (.int p1)] h0 (Q2 Z  h0 n0 (F2 p0 p1)) 0 0 := by
  refine Meets.of pn_2 ?_
  intro p e s m below meth c s₁ hx hby hml hZ hown hnm hret hlk X0 e0
  have hml : c.maxLocals = 3 := hml
  have hown : s.vm.findClass "com/example/ananke/ananke/hash/Fnv1aHash64PinLaw" = some m.cls := hown
  have N0 := Fr.nil n0
  refine Ends.step (u' := (s₁.setTop (mkF m 0 #[.val (.long p0), .second, .val (.int p1)] []))) ?_ (fun _ k => castTop (ef_2 m p0 p1) k)
  refine Ends.step (u' := (s₁.setTop (mkF m 1 #[.val (.long p0), .second, .val (.int p1)] [(.long p0)]))) ?_ (fun _ k => XT.lloadN X0.here hx rfl (hb hby d2_0) rfl k)
  refine Ends.step (u' := (s₁.setTop (mkF m 2 #[.val (.long p0), .second, .val (.int p1)] [(.int p1), (.long p0)]))) ?_ (fun _ k => XS.iloadN X0.here hx rfl (hb hby d2_1) rfl k)
  refine Ends.step (u' := (s₁.setTop (mkF m 5 #[.val (.long p0), .second, .val (.int p1)] [(.int (255 : Int32)), (.int p1), (.long p0)]))) ?_ (fun _ k => XT.sipushV X0.here hx rfl (255 : Int32) (hb hby d2_2) rfl k)
  refine Ends.step (u' := (s₁.setTop (mkF m 6 #[.val (.long p0), .second, .val (.int p1)] [(.int (p1 &&& (255 : Int32))), (.long p0)]))) ?_ (fun _ k => XS.iand X0.here hx rfl (hb hby d2_5) rfl k)
  refine Ends.step (u' := (s₁.setTop (mkF m 7 #[.val (.long p0), .second, .val (.int p1)] [(.long (((p1 &&& (255 : Int32))).toInt64)), (.long p0)]))) ?_ (fun _ k => XT.i2l X0.here hx rfl (hb hby d2_6) rfl k)
  refine Ends.step (u' := (s₁.setTop (mkF m 8 #[.val (.long p0), .second, .val (.int p1)] [(.long (p0 ^^^ (((p1 &&& (255 : Int32))).toInt64)))]))) ?_ (fun _ k => XT.lxor X0.here hx rfl (hb hby d2_7) rfl k)
  refine Ends.step (u' := (s₁.setTop (mkF m 11 #[.val (.long p0), .second, .val (.int p1)] [(.long (1099511628211 : Int64)), (.long (p0 ^^^ (((p1 &&& (255 : Int32))).toInt64)))]))) ?_ (fun _ k => X0.ldc2J hx hown (mvT hZ (hw _ (List.mem_of_getElem? (i := 13) rfl))) rfl (hb hby d2_8) k)
  refine Ends.step (u' := (s₁.setTop (mkF m 12 #[.val (.long p0), .second, .val (.int p1)] [(.long ((p0 ^^^ (((p1 &&& (255 : Int32))).toInt64)) * (1099511628211 : Int64)))]))) ?_ (fun _ k => XT.lmul X0.here hx rfl (hb hby d2_11) rfl k)
  exact Ends.ret X0 (v := some (.long ((p0 ^^^ (((p1 &&& (255 : Int32))).toInt64)) * (1099511628211 : Int64)))) (fun q => by rw [hret] at q; cases q) hlk (fun fs hr => X0.lreturnOut hx hret (hb hby d2_12) hr) (by decide) (by decide) ⟨rfl, N0, e0⟩
theorem pn_0 : plainName "com/example/ananke/ananke/hash/Fnv1aHash64PinLaw" = true := by first | (simp [plainName, overriddenIn]; done) | decide +kernel
theorem ef_0 (m : MethodId) (y0 : Int32) (y1 : Int32) (y2 : Int32) (y3 : Int32) : entryFrame m #[(.int y0), (.int y1), (.int y2), (.int y3)] maxLocals = mkF m 0 #[.val (.int y0), .val (.int y1), .val (.int y2), .val (.int y3), .unset, .unset, .unset, .unset, .unset, .unset, .unset, .unset, .unset, .unset] [] := by first | rfl | (simp [entryFrame, mkF, argsToLocals, Value.category, maxLocals]; done)
def Q0 (Z : State)   (h0 : Heap) (n0 : Nat) (ans : Int32) (v : Option Value) (h : Heap) (L : List Loc) : Prop := v = some (.int ans) ∧ Fr n0 L
set_option maxRecDepth 65536 in
set_option maxHeartbeats 40000000 in
theorem rm0 (l : Launch) (Z : State) (a0 : Array Value) (hw : ∀ d ∈ tables_1, d.before a0 Z = true) (K : Nat) (p0 : Int32) (p1 : Int32) (p2 : Int32) (p3 : Int32)  (h0 : Heap) (n0 : Nat) (Z0 : n0 ≤ h0.size)  (ok : O0 K p0 p1 p2 p3) :
    Meets l Z x code maxLocals ret tables_1 room_1 #[(.int p0), (.int p1), (.int p2), (.int p3)] h0 (Q0 Z  h0 n0 (F0 K p0 p1 p2 p3)) 2 7 := by
  refine Meets.of pn_0 ?_
  intro p e s m below meth c s₁ hx hby hml hZ hown hnm hret hlk X0 e0
  have hml : c.maxLocals = 14 := hml
  have hown : s.vm.findClass "com/example/ananke/ananke/hash/Fnv1aHash64PinLaw" = some m.cls := hown
  have N0 := Fr.nil n0
  have b250 : ∀ (T : State) (L : List Loc) (h : Heap) (X : Stand p l e room_1 s m #[(.int p0), (.int p1), (.int p2), (.int p3)] below meth c T L 2 7) (eT : T.heap = h) (N : Fr n0 L) (Zs : n0 ≤ h.size) (t0 : Int32) (d0 : Slot) (od0 : OneS d0) (d1 : Slot) (od1 : OneS d1) (d2 : Slot) (od2 : OneS d2) (d3 : Slot) (od3 : OneS d3) (d4 : Slot) (od4 : OneS d4) (d5 : Slot) (od5 : OneS d5) (d6 : Slot) (od6 : OneS d6) (d7 : Slot) (od7 : OneS d7) (z8 : Int64) (z10 : Int64) (z12 : Int64), Ends p e below s 2 7 (Q0 Z  h0 n0 (F0_250 K t0)) (T.setTop (mkF m 250 #[d0, d1, d2, d3, d4, d5, d6, d7, .val (.long z8), .second, .val (.long z10), .second, .val (.long z12), .second] [(.int t0)])) := by
    intro T L h X eT N Zs t0 d0 od0 d1 od1 d2 od2 d3 od3 d4 od4 d5 od5 d6 od6 d7 od7 z8 z10 z12
    exact Ends.ret X (v := some (.int (nar .boolean t0))) (fun q => by rw [hret] at q; cases q) hlk (fun fs hr => retN X hx (t := .boolean) hret (by simp) (hb hby at_250) hr) (by decide) (by decide) ⟨rfl, N⟩
  have b245 : ∀ (T : State) (L : List Loc) (h : Heap) (X : Stand p l e room_1 s m #[(.int p0), (.int p1), (.int p2), (.int p3)] below meth c T L 2 7) (eT : T.heap = h) (N : Fr n0 L) (Zs : n0 ≤ h.size) (d0 : Slot) (od0 : OneS d0) (d1 : Slot) (od1 : OneS d1) (d2 : Slot) (od2 : OneS d2) (d3 : Slot) (od3 : OneS d3) (d4 : Slot) (od4 : OneS d4) (d5 : Slot) (od5 : OneS d5) (d6 : Slot) (od6 : OneS d6) (d7 : Slot) (od7 : OneS d7) (z8 : Int64) (z10 : Int64) (z12 : Int64), Ends p e below s 2 7 (Q0 Z  h0 n0 (F0_245 K)) (T.setTop (mkF m 245 #[d0, d1, d2, d3, d4, d5, d6, d7, .val (.long z8), .second, .val (.long z10), .second, .val (.long z12), .second] [])) := by
    intro T L h X eT N Zs d0 od0 d1 od1 d2 od2 d3 od3 d4 od4 d5 od5 d6 od6 d7 od7 z8 z10 z12
    refine Ends.step (u' := (T.setTop (mkF m 246 #[d0, d1, d2, d3, d4, d5, d6, d7, .val (.long z8), .second, .val (.long z10), .second, .val (.long z12), .second] [(.int (1 : Int32))]))) ?_ (fun _ k => XT.iconstV X.here hx rfl (1 : Int32) (hb hby at_245) rfl k)
    refine Ends.step (u' := (T.setTop (mkF m 250 #[d0, d1, d2, d3, d4, d5, d6, d7, .val (.long z8), .second, .val (.long z10), .second, .val (.long z12), .second] [(.int (1 : Int32))]))) ?_ (fun _ k => XS.goto X.here hx rfl (pc0 := 246) (pc' := 250) rfl (hb hby at_246) (by decide) (by decide) k)
    exact b250 T _ _ X eT N Zs (1 : Int32) (d0) od0 (d1) od1 (d2) od2 (d3) od3 (d4) od4 (d5) od5 (d6) od6 (d7) od7 z8 z10 z12
  have b249 : ∀ (T : State) (L : List Loc) (h : Heap) (X : Stand p l e room_1 s m #[(.int p0), (.int p1), (.int p2), (.int p3)] below meth c T L 2 7) (eT : T.heap = h) (N : Fr n0 L) (Zs : n0 ≤ h.size) (d0 : Slot) (od0 : OneS d0) (d1 : Slot) (od1 : OneS d1) (d2 : Slot) (od2 : OneS d2) (d3 : Slot) (od3 : OneS d3) (d4 : Slot) (od4 : OneS d4) (d5 : Slot) (od5 : OneS d5) (d6 : Slot) (od6 : OneS d6) (d7 : Slot) (od7 : OneS d7) (z8 : Int64) (z10 : Int64) (z12 : Int64), Ends p e below s 2 7 (Q0 Z  h0 n0 (F0_249 K)) (T.setTop (mkF m 249 #[d0, d1, d2, d3, d4, d5, d6, d7, .val (.long z8), .second, .val (.long z10), .second, .val (.long z12), .second] [])) := by
    intro T L h X eT N Zs d0 od0 d1 od1 d2 od2 d3 od3 d4 od4 d5 od5 d6 od6 d7 od7 z8 z10 z12
    refine Ends.step (u' := (T.setTop (mkF m 250 #[d0, d1, d2, d3, d4, d5, d6, d7, .val (.long z8), .second, .val (.long z10), .second, .val (.long z12), .second] [(.int (0 : Int32))]))) ?_ (fun _ k => XT.iconstV X.here hx rfl (0 : Int32) (hb hby at_249) rfl k)
    exact b250 T _ _ X eT N Zs (0 : Int32) (d0) od0 (d1) od1 (d2) od2 (d3) od3 (d4) od4 (d5) od5 (d6) od6 (d7) od7 z8 z10 z12
  have b236 : ∀ (T : State) (L : List Loc) (h : Heap) (X : Stand p l e room_1 s m #[(.int p0), (.int p1), (.int p2), (.int p3)] below meth c T L 2 7) (eT : T.heap = h) (N : Fr n0 L) (Zs : n0 ≤ h.size) (x10 : Int64) (d0 : Slot) (od0 : OneS d0) (d1 : Slot) (od1 : OneS d1) (d2 : Slot) (od2 : OneS d2) (d3 : Slot) (od3 : OneS d3) (d4 : Slot) (od4 : OneS d4) (d5 : Slot) (od5 : OneS d5) (d6 : Slot) (od6 : OneS d6) (d7 : Slot) (od7 : OneS d7) (z8 : Int64) (z12 : Int64), Ends p e below s 2 7 (Q0 Z  h0 n0 (F0_236 K x10)) (T.setTop (mkF m 236 #[d0, d1, d2, d3, d4, d5, d6, d7, .val (.long z8), .second, .val (.long x10), .second, .val (.long z12), .second] [])) := by
    intro T L h X eT N Zs x10 d0 od0 d1 od1 d2 od2 d3 od3 d4 od4 d5 od5 d6 od6 d7 od7 z8 z12
    refine Ends.step (u' := (T.setTop (mkF m 238 #[d0, d1, d2, d3, d4, d5, d6, d7, .val (.long z8), .second, .val (.long x10), .second, .val (.long z12), .second] [(.long x10)]))) ?_ (fun _ k => XT.lload X.here hx rfl (hb hby at_236) rfl k)
    refine Ends.step (u' := (T.setTop (mkF m 241 #[d0, d1, d2, d3, d4, d5, d6, d7, .val (.long z8), .second, .val (.long x10), .second, .val (.long z12), .second] [(.long (-5808556873153909620 : Int64)), (.long x10)]))) ?_ (fun _ k => X.ldc2J hx hown (mvT hZ (hw _ (List.mem_of_getElem? (i := 14) rfl))) rfl (hb hby at_238) k)
    refine Ends.step (u' := (T.setTop (mkF m 242 #[d0, d1, d2, d3, d4, d5, d6, d7, .val (.long z8), .second, .val (.long x10), .second, .val (.long z12), .second] [(.int (XT.cmpL x10 (-5808556873153909620 : Int64)))]))) ?_ (fun _ k => XT.lcmp X.here hx rfl (hb hby at_241) rfl k)
    by_cases hc242 : x10 = (-5808556873153909620 : Int64)
    · refine Eq.mp (congrArg (fun z => Ends p e below s 2 7 (Q0 Z  h0 n0 z) (T.setTop (mkF m 242 #[d0, d1, d2, d3, d4, d5, d6, d7, .val (.long z8), .second, .val (.long x10), .second, .val (.long z12), .second] [(.int (XT.cmpL x10 (-5808556873153909620 : Int64)))]))) (show (F0_236 K x10) = (F0_245 K) from (if_pos hc242)).symm) ?_
      refine Ends.step (u' := (T.setTop (mkF m 245 #[d0, d1, d2, d3, d4, d5, d6, d7, .val (.long z8), .second, .val (.long x10), .second, .val (.long z12), .second] []))) ?_ (fun _ k => XS.ifNo X.here hx rfl (hb hby at_242) rfl (XT.ll_ne_f hc242) k)
      exact b245 T _ _ X eT N Zs (d0) od0 (d1) od1 (d2) od2 (d3) od3 (d4) od4 (d5) od5 (d6) od6 (d7) od7 z8 x10 z12
    · refine Eq.mp (congrArg (fun z => Ends p e below s 2 7 (Q0 Z  h0 n0 z) (T.setTop (mkF m 242 #[d0, d1, d2, d3, d4, d5, d6, d7, .val (.long z8), .second, .val (.long x10), .second, .val (.long z12), .second] [(.int (XT.cmpL x10 (-5808556873153909620 : Int64)))]))) (show (F0_236 K x10) = (F0_249 K) from (if_neg hc242)).symm) ?_
      refine Ends.step (u' := (T.setTop (mkF m 249 #[d0, d1, d2, d3, d4, d5, d6, d7, .val (.long z8), .second, .val (.long x10), .second, .val (.long z12), .second] []))) ?_ (fun _ k => XS.ifYes X.here hx rfl (pc0 := 242) (pc' := 249) rfl (hb hby at_242) rfl (XT.ll_ne_t hc242) (by decide) (by decide) k)
      exact b249 T _ _ X eT N Zs (d0) od0 (d1) od1 (d2) od2 (d3) od3 (d4) od4 (d5) od5 (d6) od6 (d7) od7 z8 x10 z12
  have b228 : ∀ (T : State) (L : List Loc) (h : Heap) (X : Stand p l e room_1 s m #[(.int p0), (.int p1), (.int p2), (.int p3)] below meth c T L 2 7) (eT : T.heap = h) (N : Fr n0 L) (Zs : n0 ≤ h.size) (x8 : Int64) (x10 : Int64) (x12 : Int64) (d0 : Slot) (od0 : OneS d0) (d1 : Slot) (od1 : OneS d1) (d2 : Slot) (od2 : OneS d2) (d3 : Slot) (od3 : OneS d3) (d4 : Slot) (od4 : OneS d4) (d5 : Slot) (od5 : OneS d5) (d6 : Slot) (od6 : OneS d6) (d7 : Slot) (od7 : OneS d7), Ends p e below s 2 7 (Q0 Z  h0 n0 (F0_228 K x8 x10 x12)) (T.setTop (mkF m 228 #[d0, d1, d2, d3, d4, d5, d6, d7, .val (.long x8), .second, .val (.long x10), .second, .val (.long x12), .second] [])) := by
    intro T L h X eT N Zs x8 x10 x12 d0 od0 d1 od1 d2 od2 d3 od3 d4 od4 d5 od5 d6 od6 d7 od7
    refine Ends.step (u' := (T.setTop (mkF m 230 #[d0, d1, d2, d3, d4, d5, d6, d7, .val (.long x8), .second, .val (.long x10), .second, .val (.long x12), .second] [(.long x8)]))) ?_ (fun _ k => XT.lload X.here hx rfl (hb hby at_228) rfl k)
    refine Ends.step (u' := (T.setTop (mkF m 232 #[d0, d1, d2, d3, d4, d5, d6, d7, .val (.long x8), .second, .val (.long x10), .second, .val (.long x12), .second] [(.long x12), (.long x8)]))) ?_ (fun _ k => XT.lload X.here hx rfl (hb hby at_230) rfl k)
    refine Ends.step (u' := (T.setTop (mkF m 233 #[d0, d1, d2, d3, d4, d5, d6, d7, .val (.long x8), .second, .val (.long x10), .second, .val (.long x12), .second] [(.int (XT.cmpL x8 x12))]))) ?_ (fun _ k => XT.lcmp X.here hx rfl (hb hby at_232) rfl k)
    by_cases hc233 : x8 = x12
    · refine Eq.mp (congrArg (fun z => Ends p e below s 2 7 (Q0 Z  h0 n0 z) (T.setTop (mkF m 233 #[d0, d1, d2, d3, d4, d5, d6, d7, .val (.long x8), .second, .val (.long x10), .second, .val (.long x12), .second] [(.int (XT.cmpL x8 x12))]))) (show (F0_228 K x8 x10 x12) = (F0_236 K x10) from (if_pos hc233)).symm) ?_
      refine Ends.step (u' := (T.setTop (mkF m 236 #[d0, d1, d2, d3, d4, d5, d6, d7, .val (.long x8), .second, .val (.long x10), .second, .val (.long x12), .second] []))) ?_ (fun _ k => XS.ifNo X.here hx rfl (hb hby at_233) rfl (XT.ll_ne_f hc233) k)
      exact b236 T _ _ X eT N Zs x10 (d0) od0 (d1) od1 (d2) od2 (d3) od3 (d4) od4 (d5) od5 (d6) od6 (d7) od7 x8 x12
    · refine Eq.mp (congrArg (fun z => Ends p e below s 2 7 (Q0 Z  h0 n0 z) (T.setTop (mkF m 233 #[d0, d1, d2, d3, d4, d5, d6, d7, .val (.long x8), .second, .val (.long x10), .second, .val (.long x12), .second] [(.int (XT.cmpL x8 x12))]))) (show (F0_228 K x8 x10 x12) = (F0_249 K) from (if_neg hc233)).symm) ?_
      refine Ends.step (u' := (T.setTop (mkF m 249 #[d0, d1, d2, d3, d4, d5, d6, d7, .val (.long x8), .second, .val (.long x10), .second, .val (.long x12), .second] []))) ?_ (fun _ k => XS.ifYes X.here hx rfl (pc0 := 233) (pc' := 249) rfl (hb hby at_233) rfl (XT.ll_ne_t hc233) (by decide) (by decide) k)
      exact b249 T _ _ X eT N Zs (d0) od0 (d1) od1 (d2) od2 (d3) od3 (d4) od4 (d5) od5 (d6) od6 (d7) od7 x8 x10 x12
  have b214 : ∀ (T : State) (L : List Loc) (h : Heap) (X : Stand p l e room_1 s m #[(.int p0), (.int p1), (.int p2), (.int p3)] below meth c T L 2 7) (eT : T.heap = h) (N : Fr n0 L) (Zs : n0 ≤ h.size) (cf_q2 : Nat → Int32) (x5 : Int32) (x8 : Int64) (x10 : Int64) (x12 : Int64) (d0 : Slot) (od0 : OneS d0) (d1 : Slot) (od1 : OneS d1) (d2 : Slot) (od2 : OneS d2) (d3 : Slot) (od3 : OneS d3) (d6 : Slot) (od6 : OneS d6) (d7 : Slot) (od7 : OneS d7) (a_q2 : Addr) (g_q2 : n0 ≤ a_q2) (A_q2 : Ar Z h a_q2 .byte 6 cf_q2) (ok : (O0_214 K cf_q2 x5 x8 x10 x12)), Ends p e below s 2 7 (Q0 Z  h0 n0 (F0_214 K cf_q2 x5 x8 x10 x12)) (T.setTop (mkF m 214 #[d0, d1, d2, d3, .val (.ref a_q2), .val (.int x5), d6, d7, .val (.long x8), .second, .val (.long x10), .second, .val (.long x12), .second] [])) := by
    intro T L h X eT N Zs cf_q2 x5 x8 x10 x12 d0 od0 d1 od1 d2 od2 d3 od3 d6 od6 d7 od7 a_q2 g_q2 A_q2 ok
    obtain ⟨o1, ok⟩ := ok
    refine Ends.step (u' := (T.setTop (mkF m 216 #[d0, d1, d2, d3, .val (.ref a_q2), .val (.int x5), d6, d7, .val (.long x8), .second, .val (.long x10), .second, .val (.long x12), .second] [(.long x12)]))) ?_ (fun _ k => XT.lload X.here hx rfl (hb hby at_214) rfl k)
    refine Ends.step (u' := (T.setTop (mkF m 218 #[d0, d1, d2, d3, .val (.ref a_q2), .val (.int x5), d6, d7, .val (.long x8), .second, .val (.long x10), .second, .val (.long x12), .second] [(.ref a_q2), (.long x12)]))) ?_ (fun _ k => XS.aload X.here hx rfl (hb hby at_216) rfl rfl k)
    refine Ends.step (u' := (T.setTop (mkF m 220 #[d0, d1, d2, d3, .val (.ref a_q2), .val (.int x5), d6, d7, .val (.long x8), .second, .val (.long x10), .second, .val (.long x12), .second] [(.int x5), (.ref a_q2), (.long x12)]))) ?_ (fun _ k => XS.iload X.here hx rfl (hb hby at_218) rfl k)
    refine Ends.step (u' := (T.setTop (mkF m 221 #[d0, d1, d2, d3, .val (.ref a_q2), .val (.int x5), d6, d7, .val (.long x8), .second, .val (.long x10), .second, .val (.long x12), .second] [(.int (5 : Int32)), (.int x5), (.ref a_q2), (.long x12)]))) ?_ (fun _ k => XT.iconstV X.here hx rfl (5 : Int32) (hb hby at_220) rfl k)
    refine Ends.step (u' := (T.setTop (mkF m 222 #[d0, d1, d2, d3, .val (.ref a_q2), .val (.int x5), d6, d7, .val (.long x8), .second, .val (.long x10), .second, .val (.long x12), .second] [(.int (x5 + (5 : Int32))), (.ref a_q2), (.long x12)]))) ?_ (fun _ k => XS.iadd X.here hx rfl (hb hby at_221) rfl k)
    refine Ends.baload X hx hZ eT A_q2 o1 (g := (mkF m 222 #[d0, d1, d2, d3, .val (.ref a_q2), .val (.int x5), d6, d7, .val (.long x8), .second, .val (.long x10), .second, .val (.long x12), .second] [(.int (x5 + (5 : Int32))), (.ref a_q2), (.long x12)])) rfl rfl (hb hby at_222) ?_
    show Ends p e below s _ _ _ (T.setTop (mkF m 223 #[d0, d1, d2, d3, .val (.ref a_q2), .val (.int x5), d6, d7, .val (.long x8), .second, .val (.long x10), .second, .val (.long x12), .second] [(.int (cf_q2 ((x5 + (5 : Int32))).toNatClampNeg)), (.long x12)]))
    refine Ends.callS X hx hZ hown (hw _ (List.mem_of_getElem? (i := 9) rfl)) (hw _ (List.mem_of_getElem? (i := 10) rfl)) (hw _ (List.mem_of_getElem? (i := 11) rfl)) (hw _ (List.mem_of_getElem? (i := 12) rfl)) (by decide) (rm2 l Z a0 hw x12 (cf_q2 ((x5 + (5 : Int32))).toNatClampNeg) h n0 Zs) 0 (by decide) (by decide) eT  (g := (mkF m 223 #[d0, d1, d2, d3, .val (.ref a_q2), .val (.int x5), d6, d7, .val (.long x8), .second, .val (.long x10), .second, .val (.long x12), .second] [(.int (cf_q2 ((x5 + (5 : Int32))).toNatClampNeg)), (.long x12)])) rfl (by rw [hml]; rfl)  [(.long x12), (.int (cf_q2 ((x5 + (5 : Int32))).toNatClampNeg))] [] (lenOf pd_1 rfl) rfl (by show 2 * 0 + _ ≤ _; exact Nat.le_of_eq rfl) (hb hby at_223) rfl (by decide) (by decide) (fun v1 T1 L1 X1 hQ1 => ?_)
    obtain ⟨rfl, Nq1, e1⟩ := hQ1
    have N1 := Fr.app N Nq1
    show Ends p e below s _ _ _ (T1.setTop (mkF m 226 #[d0, d1, d2, d3, .val (.ref a_q2), .val (.int x5), d6, d7, .val (.long x8), .second, .val (.long x10), .second, .val (.long x12), .second] [(.long (F2 x12 (cf_q2 ((x5 + (5 : Int32))).toNatClampNeg)))]))
    refine Ends.step (u' := (T1.setTop (mkF m 228 #[d0, d1, d2, d3, .val (.ref a_q2), .val (.int x5), d6, d7, .val (.long x8), .second, .val (.long x10), .second, .val (.long (F2 x12 (cf_q2 ((x5 + (5 : Int32))).toNatClampNeg))), .second] []))) ?_ (fun _ k => XT.lstore X1.here hx rfl (hb hby at_226) rfl (l' := #[d0, d1, d2, d3, .val (.ref a_q2), .val (.int x5), d6, d7, .val (.long x8), .second, .val (.long x10), .second, .val (.long (F2 x12 (cf_q2 ((x5 + (5 : Int32))).toNatClampNeg))), .second]) rfl k)
    exact b228 T1 _ _ X1 e1 N1 Zs x8 x10 (F2 x12 (cf_q2 ((x5 + (5 : Int32))).toNatClampNeg)) (d0) od0 (d1) od1 (d2) od2 (d3) od3 (.val (.ref a_q2)) (Or.inr ⟨_, rfl, rfl⟩) (.val (.int x5)) (Or.inr ⟨_, rfl, rfl⟩) (d6) od6 (d7) od7
  have b208 : ∀ (T : State) (L : List Loc) (h : Heap) (X : Stand p l e room_1 s m #[(.int p0), (.int p1), (.int p2), (.int p3)] below meth c T L 2 7) (eT : T.heap = h) (N : Fr n0 L) (Zs : n0 ≤ h.size) (cf_q2 : Nat → Int32) (x5 : Int32) (x6 : Int32) (x8 : Int64) (x10 : Int64) (x12 : Int64) (d0 : Slot) (od0 : OneS d0) (d1 : Slot) (od1 : OneS d1) (d2 : Slot) (od2 : OneS d2) (d3 : Slot) (od3 : OneS d3) (d7 : Slot) (od7 : OneS d7) (a_q2 : Addr) (g_q2 : n0 ≤ a_q2) (A_q2 : Ar Z h a_q2 .byte 6 cf_q2) (ok : (O0_208 K cf_q2 x5 x6 x8 x10 x12)), Ends p e below s 2 7 (Q0 Z  h0 n0 (F0_208 K cf_q2 x5 x6 x8 x10 x12)) (T.setTop (mkF m 208 #[d0, d1, d2, d3, .val (.ref a_q2), .val (.int x5), .val (.int x6), d7, .val (.long x8), .second, .val (.long x10), .second, .val (.long x12), .second] [])) := by
    intro T L h X eT N Zs cf_q2 x5 x6 x8 x10 x12 d0 od0 d1 od1 d2 od2 d3 od3 d7 od7 a_q2 g_q2 A_q2 ok
    obtain ⟨okt, okf⟩ := ok
    refine Ends.step (u' := (T.setTop (mkF m 210 #[d0, d1, d2, d3, .val (.ref a_q2), .val (.int x5), .val (.int x6), d7, .val (.long x8), .second, .val (.long x10), .second, .val (.long x12), .second] [(.int x6)]))) ?_ (fun _ k => XS.iload X.here hx rfl (hb hby at_208) rfl k)
    refine Ends.step (u' := (T.setTop (mkF m 211 #[d0, d1, d2, d3, .val (.ref a_q2), .val (.int x5), .val (.int x6), d7, .val (.long x8), .second, .val (.long x10), .second, .val (.long x12), .second] [(.int (5 : Int32)), (.int x6)]))) ?_ (fun _ k => XT.iconstV X.here hx rfl (5 : Int32) (hb hby at_210) rfl k)
    by_cases hc211 : (5 : Int32) < x6
    · refine Eq.mp (congrArg (fun z => Ends p e below s 2 7 (Q0 Z  h0 n0 z) (T.setTop (mkF m 211 #[d0, d1, d2, d3, .val (.ref a_q2), .val (.int x5), .val (.int x6), d7, .val (.long x8), .second, .val (.long x10), .second, .val (.long x12), .second] [(.int (5 : Int32)), (.int x6)]))) (show (F0_208 K cf_q2 x5 x6 x8 x10 x12) = (F0_214 K cf_q2 x5 x8 x10 x12) from (if_pos hc211)).symm) ?_
      refine Ends.step (u' := (T.setTop (mkF m 214 #[d0, d1, d2, d3, .val (.ref a_q2), .val (.int x5), .val (.int x6), d7, .val (.long x8), .second, .val (.long x10), .second, .val (.long x12), .second] []))) ?_ (fun _ k => XS.icmpNo X.here hx rfl (hb hby at_211) rfl (XT.ii_le_f hc211) k)
      exact b214 T _ _ X eT N Zs cf_q2 x5 x8 x10 x12 (d0) od0 (d1) od1 (d2) od2 (d3) od3 (.val (.int x6)) (Or.inr ⟨_, rfl, rfl⟩) (d7) od7 a_q2 g_q2 A_q2 (okt hc211)
    · refine Eq.mp (congrArg (fun z => Ends p e below s 2 7 (Q0 Z  h0 n0 z) (T.setTop (mkF m 211 #[d0, d1, d2, d3, .val (.ref a_q2), .val (.int x5), .val (.int x6), d7, .val (.long x8), .second, .val (.long x10), .second, .val (.long x12), .second] [(.int (5 : Int32)), (.int x6)]))) (show (F0_208 K cf_q2 x5 x6 x8 x10 x12) = (F0_228 K x8 x10 x12) from (if_neg hc211)).symm) ?_
      refine Ends.step (u' := (T.setTop (mkF m 228 #[d0, d1, d2, d3, .val (.ref a_q2), .val (.int x5), .val (.int x6), d7, .val (.long x8), .second, .val (.long x10), .second, .val (.long x12), .second] []))) ?_ (fun _ k => XS.icmpYes X.here hx rfl (pc0 := 211) (pc' := 228) rfl (hb hby at_211) rfl (XT.ii_le_t hc211) (by decide) (by decide) k)
      exact b228 T _ _ X eT N Zs x8 x10 x12 (d0) od0 (d1) od1 (d2) od2 (d3) od3 (.val (.ref a_q2)) (Or.inr ⟨_, rfl, rfl⟩) (.val (.int x5)) (Or.inr ⟨_, rfl, rfl⟩) (.val (.int x6)) (Or.inr ⟨_, rfl, rfl⟩) (d7) od7
  have b194 : ∀ (T : State) (L : List Loc) (h : Heap) (X : Stand p l e room_1 s m #[(.int p0), (.int p1), (.int p2), (.int p3)] below meth c T L 2 7) (eT : T.heap = h) (N : Fr n0 L) (Zs : n0 ≤ h.size) (cf_q2 : Nat → Int32) (x5 : Int32) (x6 : Int32) (x8 : Int64) (x10 : Int64) (x12 : Int64) (d0 : Slot) (od0 : OneS d0) (d1 : Slot) (od1 : OneS d1) (d2 : Slot) (od2 : OneS d2) (d3 : Slot) (od3 : OneS d3) (d7 : Slot) (od7 : OneS d7) (a_q2 : Addr) (g_q2 : n0 ≤ a_q2) (A_q2 : Ar Z h a_q2 .byte 6 cf_q2) (ok : (O0_194 K cf_q2 x5 x6 x8 x10 x12)), Ends p e below s 2 7 (Q0 Z  h0 n0 (F0_194 K cf_q2 x5 x6 x8 x10 x12)) (T.setTop (mkF m 194 #[d0, d1, d2, d3, .val (.ref a_q2), .val (.int x5), .val (.int x6), d7, .val (.long x8), .second, .val (.long x10), .second, .val (.long x12), .second] [])) := by
    intro T L h X eT N Zs cf_q2 x5 x6 x8 x10 x12 d0 od0 d1 od1 d2 od2 d3 od3 d7 od7 a_q2 g_q2 A_q2 ok
    obtain ⟨o1, ok⟩ := ok
    refine Ends.step (u' := (T.setTop (mkF m 196 #[d0, d1, d2, d3, .val (.ref a_q2), .val (.int x5), .val (.int x6), d7, .val (.long x8), .second, .val (.long x10), .second, .val (.long x12), .second] [(.long x12)]))) ?_ (fun _ k => XT.lload X.here hx rfl (hb hby at_194) rfl k)
    refine Ends.step (u' := (T.setTop (mkF m 198 #[d0, d1, d2, d3, .val (.ref a_q2), .val (.int x5), .val (.int x6), d7, .val (.long x8), .second, .val (.long x10), .second, .val (.long x12), .second] [(.ref a_q2), (.long x12)]))) ?_ (fun _ k => XS.aload X.here hx rfl (hb hby at_196) rfl rfl k)
    refine Ends.step (u' := (T.setTop (mkF m 200 #[d0, d1, d2, d3, .val (.ref a_q2), .val (.int x5), .val (.int x6), d7, .val (.long x8), .second, .val (.long x10), .second, .val (.long x12), .second] [(.int x5), (.ref a_q2), (.long x12)]))) ?_ (fun _ k => XS.iload X.here hx rfl (hb hby at_198) rfl k)
    refine Ends.step (u' := (T.setTop (mkF m 201 #[d0, d1, d2, d3, .val (.ref a_q2), .val (.int x5), .val (.int x6), d7, .val (.long x8), .second, .val (.long x10), .second, .val (.long x12), .second] [(.int (4 : Int32)), (.int x5), (.ref a_q2), (.long x12)]))) ?_ (fun _ k => XT.iconstV X.here hx rfl (4 : Int32) (hb hby at_200) rfl k)
    refine Ends.step (u' := (T.setTop (mkF m 202 #[d0, d1, d2, d3, .val (.ref a_q2), .val (.int x5), .val (.int x6), d7, .val (.long x8), .second, .val (.long x10), .second, .val (.long x12), .second] [(.int (x5 + (4 : Int32))), (.ref a_q2), (.long x12)]))) ?_ (fun _ k => XS.iadd X.here hx rfl (hb hby at_201) rfl k)
    refine Ends.baload X hx hZ eT A_q2 o1 (g := (mkF m 202 #[d0, d1, d2, d3, .val (.ref a_q2), .val (.int x5), .val (.int x6), d7, .val (.long x8), .second, .val (.long x10), .second, .val (.long x12), .second] [(.int (x5 + (4 : Int32))), (.ref a_q2), (.long x12)])) rfl rfl (hb hby at_202) ?_
    show Ends p e below s _ _ _ (T.setTop (mkF m 203 #[d0, d1, d2, d3, .val (.ref a_q2), .val (.int x5), .val (.int x6), d7, .val (.long x8), .second, .val (.long x10), .second, .val (.long x12), .second] [(.int (cf_q2 ((x5 + (4 : Int32))).toNatClampNeg)), (.long x12)]))
    refine Ends.callS X hx hZ hown (hw _ (List.mem_of_getElem? (i := 9) rfl)) (hw _ (List.mem_of_getElem? (i := 10) rfl)) (hw _ (List.mem_of_getElem? (i := 11) rfl)) (hw _ (List.mem_of_getElem? (i := 12) rfl)) (by decide) (rm2 l Z a0 hw x12 (cf_q2 ((x5 + (4 : Int32))).toNatClampNeg) h n0 Zs) 0 (by decide) (by decide) eT  (g := (mkF m 203 #[d0, d1, d2, d3, .val (.ref a_q2), .val (.int x5), .val (.int x6), d7, .val (.long x8), .second, .val (.long x10), .second, .val (.long x12), .second] [(.int (cf_q2 ((x5 + (4 : Int32))).toNatClampNeg)), (.long x12)])) rfl (by rw [hml]; rfl)  [(.long x12), (.int (cf_q2 ((x5 + (4 : Int32))).toNatClampNeg))] [] (lenOf pd_1 rfl) rfl (by show 2 * 0 + _ ≤ _; exact Nat.le_of_eq rfl) (hb hby at_203) rfl (by decide) (by decide) (fun v2 T2 L2 X2 hQ2 => ?_)
    obtain ⟨rfl, Nq2, e2⟩ := hQ2
    have N2 := Fr.app N Nq2
    show Ends p e below s _ _ _ (T2.setTop (mkF m 206 #[d0, d1, d2, d3, .val (.ref a_q2), .val (.int x5), .val (.int x6), d7, .val (.long x8), .second, .val (.long x10), .second, .val (.long x12), .second] [(.long (F2 x12 (cf_q2 ((x5 + (4 : Int32))).toNatClampNeg)))]))
    refine Ends.step (u' := (T2.setTop (mkF m 208 #[d0, d1, d2, d3, .val (.ref a_q2), .val (.int x5), .val (.int x6), d7, .val (.long x8), .second, .val (.long x10), .second, .val (.long (F2 x12 (cf_q2 ((x5 + (4 : Int32))).toNatClampNeg))), .second] []))) ?_ (fun _ k => XT.lstore X2.here hx rfl (hb hby at_206) rfl (l' := #[d0, d1, d2, d3, .val (.ref a_q2), .val (.int x5), .val (.int x6), d7, .val (.long x8), .second, .val (.long x10), .second, .val (.long (F2 x12 (cf_q2 ((x5 + (4 : Int32))).toNatClampNeg))), .second]) rfl k)
    exact b208 T2 _ _ X2 e2 N2 Zs cf_q2 x5 x6 x8 x10 (F2 x12 (cf_q2 ((x5 + (4 : Int32))).toNatClampNeg)) (d0) od0 (d1) od1 (d2) od2 (d3) od3 (d7) od7 a_q2 g_q2 A_q2 ok
  have b188 : ∀ (T : State) (L : List Loc) (h : Heap) (X : Stand p l e room_1 s m #[(.int p0), (.int p1), (.int p2), (.int p3)] below meth c T L 2 7) (eT : T.heap = h) (N : Fr n0 L) (Zs : n0 ≤ h.size) (cf_q2 : Nat → Int32) (x5 : Int32) (x6 : Int32) (x8 : Int64) (x10 : Int64) (x12 : Int64) (d0 : Slot) (od0 : OneS d0) (d1 : Slot) (od1 : OneS d1) (d2 : Slot) (od2 : OneS d2) (d3 : Slot) (od3 : OneS d3) (d7 : Slot) (od7 : OneS d7) (a_q2 : Addr) (g_q2 : n0 ≤ a_q2) (A_q2 : Ar Z h a_q2 .byte 6 cf_q2) (ok : (O0_188 K cf_q2 x5 x6 x8 x10 x12)), Ends p e below s 2 7 (Q0 Z  h0 n0 (F0_188 K cf_q2 x5 x6 x8 x10 x12)) (T.setTop (mkF m 188 #[d0, d1, d2, d3, .val (.ref a_q2), .val (.int x5), .val (.int x6), d7, .val (.long x8), .second, .val (.long x10), .second, .val (.long x12), .second] [])) := by
    intro T L h X eT N Zs cf_q2 x5 x6 x8 x10 x12 d0 od0 d1 od1 d2 od2 d3 od3 d7 od7 a_q2 g_q2 A_q2 ok
    obtain ⟨okt, okf⟩ := ok
    refine Ends.step (u' := (T.setTop (mkF m 190 #[d0, d1, d2, d3, .val (.ref a_q2), .val (.int x5), .val (.int x6), d7, .val (.long x8), .second, .val (.long x10), .second, .val (.long x12), .second] [(.int x6)]))) ?_ (fun _ k => XS.iload X.here hx rfl (hb hby at_188) rfl k)
    refine Ends.step (u' := (T.setTop (mkF m 191 #[d0, d1, d2, d3, .val (.ref a_q2), .val (.int x5), .val (.int x6), d7, .val (.long x8), .second, .val (.long x10), .second, .val (.long x12), .second] [(.int (4 : Int32)), (.int x6)]))) ?_ (fun _ k => XT.iconstV X.here hx rfl (4 : Int32) (hb hby at_190) rfl k)
    by_cases hc191 : (4 : Int32) < x6
    · refine Eq.mp (congrArg (fun z => Ends p e below s 2 7 (Q0 Z  h0 n0 z) (T.setTop (mkF m 191 #[d0, d1, d2, d3, .val (.ref a_q2), .val (.int x5), .val (.int x6), d7, .val (.long x8), .second, .val (.long x10), .second, .val (.long x12), .second] [(.int (4 : Int32)), (.int x6)]))) (show (F0_188 K cf_q2 x5 x6 x8 x10 x12) = (F0_194 K cf_q2 x5 x6 x8 x10 x12) from (if_pos hc191)).symm) ?_
      refine Ends.step (u' := (T.setTop (mkF m 194 #[d0, d1, d2, d3, .val (.ref a_q2), .val (.int x5), .val (.int x6), d7, .val (.long x8), .second, .val (.long x10), .second, .val (.long x12), .second] []))) ?_ (fun _ k => XS.icmpNo X.here hx rfl (hb hby at_191) rfl (XT.ii_le_f hc191) k)
      exact b194 T _ _ X eT N Zs cf_q2 x5 x6 x8 x10 x12 (d0) od0 (d1) od1 (d2) od2 (d3) od3 (d7) od7 a_q2 g_q2 A_q2 (okt hc191)
    · refine Eq.mp (congrArg (fun z => Ends p e below s 2 7 (Q0 Z  h0 n0 z) (T.setTop (mkF m 191 #[d0, d1, d2, d3, .val (.ref a_q2), .val (.int x5), .val (.int x6), d7, .val (.long x8), .second, .val (.long x10), .second, .val (.long x12), .second] [(.int (4 : Int32)), (.int x6)]))) (show (F0_188 K cf_q2 x5 x6 x8 x10 x12) = (F0_208 K cf_q2 x5 x6 x8 x10 x12) from (if_neg hc191)).symm) ?_
      refine Ends.step (u' := (T.setTop (mkF m 208 #[d0, d1, d2, d3, .val (.ref a_q2), .val (.int x5), .val (.int x6), d7, .val (.long x8), .second, .val (.long x10), .second, .val (.long x12), .second] []))) ?_ (fun _ k => XS.icmpYes X.here hx rfl (pc0 := 191) (pc' := 208) rfl (hb hby at_191) rfl (XT.ii_le_t hc191) (by decide) (by decide) k)
      exact b208 T _ _ X eT N Zs cf_q2 x5 x6 x8 x10 x12 (d0) od0 (d1) od1 (d2) od2 (d3) od3 (d7) od7 a_q2 g_q2 A_q2 (okf hc191)
  have b174 : ∀ (T : State) (L : List Loc) (h : Heap) (X : Stand p l e room_1 s m #[(.int p0), (.int p1), (.int p2), (.int p3)] below meth c T L 2 7) (eT : T.heap = h) (N : Fr n0 L) (Zs : n0 ≤ h.size) (cf_q2 : Nat → Int32) (x5 : Int32) (x6 : Int32) (x8 : Int64) (x10 : Int64) (x12 : Int64) (d0 : Slot) (od0 : OneS d0) (d1 : Slot) (od1 : OneS d1) (d2 : Slot) (od2 : OneS d2) (d3 : Slot) (od3 : OneS d3) (d7 : Slot) (od7 : OneS d7) (a_q2 : Addr) (g_q2 : n0 ≤ a_q2) (A_q2 : Ar Z h a_q2 .byte 6 cf_q2) (ok : (O0_174 K cf_q2 x5 x6 x8 x10 x12)), Ends p e below s 2 7 (Q0 Z  h0 n0 (F0_174 K cf_q2 x5 x6 x8 x10 x12)) (T.setTop (mkF m 174 #[d0, d1, d2, d3, .val (.ref a_q2), .val (.int x5), .val (.int x6), d7, .val (.long x8), .second, .val (.long x10), .second, .val (.long x12), .second] [])) := by
    intro T L h X eT N Zs cf_q2 x5 x6 x8 x10 x12 d0 od0 d1 od1 d2 od2 d3 od3 d7 od7 a_q2 g_q2 A_q2 ok
    obtain ⟨o1, ok⟩ := ok
    refine Ends.step (u' := (T.setTop (mkF m 176 #[d0, d1, d2, d3, .val (.ref a_q2), .val (.int x5), .val (.int x6), d7, .val (.long x8), .second, .val (.long x10), .second, .val (.long x12), .second] [(.long x12)]))) ?_ (fun _ k => XT.lload X.here hx rfl (hb hby at_174) rfl k)
    refine Ends.step (u' := (T.setTop (mkF m 178 #[d0, d1, d2, d3, .val (.ref a_q2), .val (.int x5), .val (.int x6), d7, .val (.long x8), .second, .val (.long x10), .second, .val (.long x12), .second] [(.ref a_q2), (.long x12)]))) ?_ (fun _ k => XS.aload X.here hx rfl (hb hby at_176) rfl rfl k)
    refine Ends.step (u' := (T.setTop (mkF m 180 #[d0, d1, d2, d3, .val (.ref a_q2), .val (.int x5), .val (.int x6), d7, .val (.long x8), .second, .val (.long x10), .second, .val (.long x12), .second] [(.int x5), (.ref a_q2), (.long x12)]))) ?_ (fun _ k => XS.iload X.here hx rfl (hb hby at_178) rfl k)
    refine Ends.step (u' := (T.setTop (mkF m 181 #[d0, d1, d2, d3, .val (.ref a_q2), .val (.int x5), .val (.int x6), d7, .val (.long x8), .second, .val (.long x10), .second, .val (.long x12), .second] [(.int (3 : Int32)), (.int x5), (.ref a_q2), (.long x12)]))) ?_ (fun _ k => XT.iconstV X.here hx rfl (3 : Int32) (hb hby at_180) rfl k)
    refine Ends.step (u' := (T.setTop (mkF m 182 #[d0, d1, d2, d3, .val (.ref a_q2), .val (.int x5), .val (.int x6), d7, .val (.long x8), .second, .val (.long x10), .second, .val (.long x12), .second] [(.int (x5 + (3 : Int32))), (.ref a_q2), (.long x12)]))) ?_ (fun _ k => XS.iadd X.here hx rfl (hb hby at_181) rfl k)
    refine Ends.baload X hx hZ eT A_q2 o1 (g := (mkF m 182 #[d0, d1, d2, d3, .val (.ref a_q2), .val (.int x5), .val (.int x6), d7, .val (.long x8), .second, .val (.long x10), .second, .val (.long x12), .second] [(.int (x5 + (3 : Int32))), (.ref a_q2), (.long x12)])) rfl rfl (hb hby at_182) ?_
    show Ends p e below s _ _ _ (T.setTop (mkF m 183 #[d0, d1, d2, d3, .val (.ref a_q2), .val (.int x5), .val (.int x6), d7, .val (.long x8), .second, .val (.long x10), .second, .val (.long x12), .second] [(.int (cf_q2 ((x5 + (3 : Int32))).toNatClampNeg)), (.long x12)]))
    refine Ends.callS X hx hZ hown (hw _ (List.mem_of_getElem? (i := 9) rfl)) (hw _ (List.mem_of_getElem? (i := 10) rfl)) (hw _ (List.mem_of_getElem? (i := 11) rfl)) (hw _ (List.mem_of_getElem? (i := 12) rfl)) (by decide) (rm2 l Z a0 hw x12 (cf_q2 ((x5 + (3 : Int32))).toNatClampNeg) h n0 Zs) 0 (by decide) (by decide) eT  (g := (mkF m 183 #[d0, d1, d2, d3, .val (.ref a_q2), .val (.int x5), .val (.int x6), d7, .val (.long x8), .second, .val (.long x10), .second, .val (.long x12), .second] [(.int (cf_q2 ((x5 + (3 : Int32))).toNatClampNeg)), (.long x12)])) rfl (by rw [hml]; rfl)  [(.long x12), (.int (cf_q2 ((x5 + (3 : Int32))).toNatClampNeg))] [] (lenOf pd_1 rfl) rfl (by show 2 * 0 + _ ≤ _; exact Nat.le_of_eq rfl) (hb hby at_183) rfl (by decide) (by decide) (fun v3 T3 L3 X3 hQ3 => ?_)
    obtain ⟨rfl, Nq3, e3⟩ := hQ3
    have N3 := Fr.app N Nq3
    show Ends p e below s _ _ _ (T3.setTop (mkF m 186 #[d0, d1, d2, d3, .val (.ref a_q2), .val (.int x5), .val (.int x6), d7, .val (.long x8), .second, .val (.long x10), .second, .val (.long x12), .second] [(.long (F2 x12 (cf_q2 ((x5 + (3 : Int32))).toNatClampNeg)))]))
    refine Ends.step (u' := (T3.setTop (mkF m 188 #[d0, d1, d2, d3, .val (.ref a_q2), .val (.int x5), .val (.int x6), d7, .val (.long x8), .second, .val (.long x10), .second, .val (.long (F2 x12 (cf_q2 ((x5 + (3 : Int32))).toNatClampNeg))), .second] []))) ?_ (fun _ k => XT.lstore X3.here hx rfl (hb hby at_186) rfl (l' := #[d0, d1, d2, d3, .val (.ref a_q2), .val (.int x5), .val (.int x6), d7, .val (.long x8), .second, .val (.long x10), .second, .val (.long (F2 x12 (cf_q2 ((x5 + (3 : Int32))).toNatClampNeg))), .second]) rfl k)
    exact b188 T3 _ _ X3 e3 N3 Zs cf_q2 x5 x6 x8 x10 (F2 x12 (cf_q2 ((x5 + (3 : Int32))).toNatClampNeg)) (d0) od0 (d1) od1 (d2) od2 (d3) od3 (d7) od7 a_q2 g_q2 A_q2 ok
  have b168 : ∀ (T : State) (L : List Loc) (h : Heap) (X : Stand p l e room_1 s m #[(.int p0), (.int p1), (.int p2), (.int p3)] below meth c T L 2 7) (eT : T.heap = h) (N : Fr n0 L) (Zs : n0 ≤ h.size) (cf_q2 : Nat → Int32) (x5 : Int32) (x6 : Int32) (x8 : Int64) (x10 : Int64) (x12 : Int64) (d0 : Slot) (od0 : OneS d0) (d1 : Slot) (od1 : OneS d1) (d2 : Slot) (od2 : OneS d2) (d3 : Slot) (od3 : OneS d3) (d7 : Slot) (od7 : OneS d7) (a_q2 : Addr) (g_q2 : n0 ≤ a_q2) (A_q2 : Ar Z h a_q2 .byte 6 cf_q2) (ok : (O0_168 K cf_q2 x5 x6 x8 x10 x12)), Ends p e below s 2 7 (Q0 Z  h0 n0 (F0_168 K cf_q2 x5 x6 x8 x10 x12)) (T.setTop (mkF m 168 #[d0, d1, d2, d3, .val (.ref a_q2), .val (.int x5), .val (.int x6), d7, .val (.long x8), .second, .val (.long x10), .second, .val (.long x12), .second] [])) := by
    intro T L h X eT N Zs cf_q2 x5 x6 x8 x10 x12 d0 od0 d1 od1 d2 od2 d3 od3 d7 od7 a_q2 g_q2 A_q2 ok
    obtain ⟨okt, okf⟩ := ok
    refine Ends.step (u' := (T.setTop (mkF m 170 #[d0, d1, d2, d3, .val (.ref a_q2), .val (.int x5), .val (.int x6), d7, .val (.long x8), .second, .val (.long x10), .second, .val (.long x12), .second] [(.int x6)]))) ?_ (fun _ k => XS.iload X.here hx rfl (hb hby at_168) rfl k)
    refine Ends.step (u' := (T.setTop (mkF m 171 #[d0, d1, d2, d3, .val (.ref a_q2), .val (.int x5), .val (.int x6), d7, .val (.long x8), .second, .val (.long x10), .second, .val (.long x12), .second] [(.int (3 : Int32)), (.int x6)]))) ?_ (fun _ k => XT.iconstV X.here hx rfl (3 : Int32) (hb hby at_170) rfl k)
    by_cases hc171 : (3 : Int32) < x6
    · refine Eq.mp (congrArg (fun z => Ends p e below s 2 7 (Q0 Z  h0 n0 z) (T.setTop (mkF m 171 #[d0, d1, d2, d3, .val (.ref a_q2), .val (.int x5), .val (.int x6), d7, .val (.long x8), .second, .val (.long x10), .second, .val (.long x12), .second] [(.int (3 : Int32)), (.int x6)]))) (show (F0_168 K cf_q2 x5 x6 x8 x10 x12) = (F0_174 K cf_q2 x5 x6 x8 x10 x12) from (if_pos hc171)).symm) ?_
      refine Ends.step (u' := (T.setTop (mkF m 174 #[d0, d1, d2, d3, .val (.ref a_q2), .val (.int x5), .val (.int x6), d7, .val (.long x8), .second, .val (.long x10), .second, .val (.long x12), .second] []))) ?_ (fun _ k => XS.icmpNo X.here hx rfl (hb hby at_171) rfl (XT.ii_le_f hc171) k)
      exact b174 T _ _ X eT N Zs cf_q2 x5 x6 x8 x10 x12 (d0) od0 (d1) od1 (d2) od2 (d3) od3 (d7) od7 a_q2 g_q2 A_q2 (okt hc171)
    · refine Eq.mp (congrArg (fun z => Ends p e below s 2 7 (Q0 Z  h0 n0 z) (T.setTop (mkF m 171 #[d0, d1, d2, d3, .val (.ref a_q2), .val (.int x5), .val (.int x6), d7, .val (.long x8), .second, .val (.long x10), .second, .val (.long x12), .second] [(.int (3 : Int32)), (.int x6)]))) (show (F0_168 K cf_q2 x5 x6 x8 x10 x12) = (F0_188 K cf_q2 x5 x6 x8 x10 x12) from (if_neg hc171)).symm) ?_
      refine Ends.step (u' := (T.setTop (mkF m 188 #[d0, d1, d2, d3, .val (.ref a_q2), .val (.int x5), .val (.int x6), d7, .val (.long x8), .second, .val (.long x10), .second, .val (.long x12), .second] []))) ?_ (fun _ k => XS.icmpYes X.here hx rfl (pc0 := 171) (pc' := 188) rfl (hb hby at_171) rfl (XT.ii_le_t hc171) (by decide) (by decide) k)
      exact b188 T _ _ X eT N Zs cf_q2 x5 x6 x8 x10 x12 (d0) od0 (d1) od1 (d2) od2 (d3) od3 (d7) od7 a_q2 g_q2 A_q2 (okf hc171)
  have b154 : ∀ (T : State) (L : List Loc) (h : Heap) (X : Stand p l e room_1 s m #[(.int p0), (.int p1), (.int p2), (.int p3)] below meth c T L 2 7) (eT : T.heap = h) (N : Fr n0 L) (Zs : n0 ≤ h.size) (cf_q2 : Nat → Int32) (x5 : Int32) (x6 : Int32) (x8 : Int64) (x10 : Int64) (x12 : Int64) (d0 : Slot) (od0 : OneS d0) (d1 : Slot) (od1 : OneS d1) (d2 : Slot) (od2 : OneS d2) (d3 : Slot) (od3 : OneS d3) (d7 : Slot) (od7 : OneS d7) (a_q2 : Addr) (g_q2 : n0 ≤ a_q2) (A_q2 : Ar Z h a_q2 .byte 6 cf_q2) (ok : (O0_154 K cf_q2 x5 x6 x8 x10 x12)), Ends p e below s 2 7 (Q0 Z  h0 n0 (F0_154 K cf_q2 x5 x6 x8 x10 x12)) (T.setTop (mkF m 154 #[d0, d1, d2, d3, .val (.ref a_q2), .val (.int x5), .val (.int x6), d7, .val (.long x8), .second, .val (.long x10), .second, .val (.long x12), .second] [])) := by
    intro T L h X eT N Zs cf_q2 x5 x6 x8 x10 x12 d0 od0 d1 od1 d2 od2 d3 od3 d7 od7 a_q2 g_q2 A_q2 ok
    obtain ⟨o1, ok⟩ := ok
    refine Ends.step (u' := (T.setTop (mkF m 156 #[d0, d1, d2, d3, .val (.ref a_q2), .val (.int x5), .val (.int x6), d7, .val (.long x8), .second, .val (.long x10), .second, .val (.long x12), .second] [(.long x12)]))) ?_ (fun _ k => XT.lload X.here hx rfl (hb hby at_154) rfl k)
    refine Ends.step (u' := (T.setTop (mkF m 158 #[d0, d1, d2, d3, .val (.ref a_q2), .val (.int x5), .val (.int x6), d7, .val (.long x8), .second, .val (.long x10), .second, .val (.long x12), .second] [(.ref a_q2), (.long x12)]))) ?_ (fun _ k => XS.aload X.here hx rfl (hb hby at_156) rfl rfl k)
    refine Ends.step (u' := (T.setTop (mkF m 160 #[d0, d1, d2, d3, .val (.ref a_q2), .val (.int x5), .val (.int x6), d7, .val (.long x8), .second, .val (.long x10), .second, .val (.long x12), .second] [(.int x5), (.ref a_q2), (.long x12)]))) ?_ (fun _ k => XS.iload X.here hx rfl (hb hby at_158) rfl k)
    refine Ends.step (u' := (T.setTop (mkF m 161 #[d0, d1, d2, d3, .val (.ref a_q2), .val (.int x5), .val (.int x6), d7, .val (.long x8), .second, .val (.long x10), .second, .val (.long x12), .second] [(.int (2 : Int32)), (.int x5), (.ref a_q2), (.long x12)]))) ?_ (fun _ k => XT.iconstV X.here hx rfl (2 : Int32) (hb hby at_160) rfl k)
    refine Ends.step (u' := (T.setTop (mkF m 162 #[d0, d1, d2, d3, .val (.ref a_q2), .val (.int x5), .val (.int x6), d7, .val (.long x8), .second, .val (.long x10), .second, .val (.long x12), .second] [(.int (x5 + (2 : Int32))), (.ref a_q2), (.long x12)]))) ?_ (fun _ k => XS.iadd X.here hx rfl (hb hby at_161) rfl k)
    refine Ends.baload X hx hZ eT A_q2 o1 (g := (mkF m 162 #[d0, d1, d2, d3, .val (.ref a_q2), .val (.int x5), .val (.int x6), d7, .val (.long x8), .second, .val (.long x10), .second, .val (.long x12), .second] [(.int (x5 + (2 : Int32))), (.ref a_q2), (.long x12)])) rfl rfl (hb hby at_162) ?_
    show Ends p e below s _ _ _ (T.setTop (mkF m 163 #[d0, d1, d2, d3, .val (.ref a_q2), .val (.int x5), .val (.int x6), d7, .val (.long x8), .second, .val (.long x10), .second, .val (.long x12), .second] [(.int (cf_q2 ((x5 + (2 : Int32))).toNatClampNeg)), (.long x12)]))
    refine Ends.callS X hx hZ hown (hw _ (List.mem_of_getElem? (i := 9) rfl)) (hw _ (List.mem_of_getElem? (i := 10) rfl)) (hw _ (List.mem_of_getElem? (i := 11) rfl)) (hw _ (List.mem_of_getElem? (i := 12) rfl)) (by decide) (rm2 l Z a0 hw x12 (cf_q2 ((x5 + (2 : Int32))).toNatClampNeg) h n0 Zs) 0 (by decide) (by decide) eT  (g := (mkF m 163 #[d0, d1, d2, d3, .val (.ref a_q2), .val (.int x5), .val (.int x6), d7, .val (.long x8), .second, .val (.long x10), .second, .val (.long x12), .second] [(.int (cf_q2 ((x5 + (2 : Int32))).toNatClampNeg)), (.long x12)])) rfl (by rw [hml]; rfl)  [(.long x12), (.int (cf_q2 ((x5 + (2 : Int32))).toNatClampNeg))] [] (lenOf pd_1 rfl) rfl (by show 2 * 0 + _ ≤ _; exact Nat.le_of_eq rfl) (hb hby at_163) rfl (by decide) (by decide) (fun v4 T4 L4 X4 hQ4 => ?_)
    obtain ⟨rfl, Nq4, e4⟩ := hQ4
    have N4 := Fr.app N Nq4
    show Ends p e below s _ _ _ (T4.setTop (mkF m 166 #[d0, d1, d2, d3, .val (.ref a_q2), .val (.int x5), .val (.int x6), d7, .val (.long x8), .second, .val (.long x10), .second, .val (.long x12), .second] [(.long (F2 x12 (cf_q2 ((x5 + (2 : Int32))).toNatClampNeg)))]))
    refine Ends.step (u' := (T4.setTop (mkF m 168 #[d0, d1, d2, d3, .val (.ref a_q2), .val (.int x5), .val (.int x6), d7, .val (.long x8), .second, .val (.long x10), .second, .val (.long (F2 x12 (cf_q2 ((x5 + (2 : Int32))).toNatClampNeg))), .second] []))) ?_ (fun _ k => XT.lstore X4.here hx rfl (hb hby at_166) rfl (l' := #[d0, d1, d2, d3, .val (.ref a_q2), .val (.int x5), .val (.int x6), d7, .val (.long x8), .second, .val (.long x10), .second, .val (.long (F2 x12 (cf_q2 ((x5 + (2 : Int32))).toNatClampNeg))), .second]) rfl k)
    exact b168 T4 _ _ X4 e4 N4 Zs cf_q2 x5 x6 x8 x10 (F2 x12 (cf_q2 ((x5 + (2 : Int32))).toNatClampNeg)) (d0) od0 (d1) od1 (d2) od2 (d3) od3 (d7) od7 a_q2 g_q2 A_q2 ok
  have b148 : ∀ (T : State) (L : List Loc) (h : Heap) (X : Stand p l e room_1 s m #[(.int p0), (.int p1), (.int p2), (.int p3)] below meth c T L 2 7) (eT : T.heap = h) (N : Fr n0 L) (Zs : n0 ≤ h.size) (cf_q2 : Nat → Int32) (x5 : Int32) (x6 : Int32) (x8 : Int64) (x10 : Int64) (x12 : Int64) (d0 : Slot) (od0 : OneS d0) (d1 : Slot) (od1 : OneS d1) (d2 : Slot) (od2 : OneS d2) (d3 : Slot) (od3 : OneS d3) (d7 : Slot) (od7 : OneS d7) (a_q2 : Addr) (g_q2 : n0 ≤ a_q2) (A_q2 : Ar Z h a_q2 .byte 6 cf_q2) (ok : (O0_148 K cf_q2 x5 x6 x8 x10 x12)), Ends p e below s 2 7 (Q0 Z  h0 n0 (F0_148 K cf_q2 x5 x6 x8 x10 x12)) (T.setTop (mkF m 148 #[d0, d1, d2, d3, .val (.ref a_q2), .val (.int x5), .val (.int x6), d7, .val (.long x8), .second, .val (.long x10), .second, .val (.long x12), .second] [])) := by
    intro T L h X eT N Zs cf_q2 x5 x6 x8 x10 x12 d0 od0 d1 od1 d2 od2 d3 od3 d7 od7 a_q2 g_q2 A_q2 ok
    obtain ⟨okt, okf⟩ := ok
    refine Ends.step (u' := (T.setTop (mkF m 150 #[d0, d1, d2, d3, .val (.ref a_q2), .val (.int x5), .val (.int x6), d7, .val (.long x8), .second, .val (.long x10), .second, .val (.long x12), .second] [(.int x6)]))) ?_ (fun _ k => XS.iload X.here hx rfl (hb hby at_148) rfl k)
    refine Ends.step (u' := (T.setTop (mkF m 151 #[d0, d1, d2, d3, .val (.ref a_q2), .val (.int x5), .val (.int x6), d7, .val (.long x8), .second, .val (.long x10), .second, .val (.long x12), .second] [(.int (2 : Int32)), (.int x6)]))) ?_ (fun _ k => XT.iconstV X.here hx rfl (2 : Int32) (hb hby at_150) rfl k)
    by_cases hc151 : (2 : Int32) < x6
    · refine Eq.mp (congrArg (fun z => Ends p e below s 2 7 (Q0 Z  h0 n0 z) (T.setTop (mkF m 151 #[d0, d1, d2, d3, .val (.ref a_q2), .val (.int x5), .val (.int x6), d7, .val (.long x8), .second, .val (.long x10), .second, .val (.long x12), .second] [(.int (2 : Int32)), (.int x6)]))) (show (F0_148 K cf_q2 x5 x6 x8 x10 x12) = (F0_154 K cf_q2 x5 x6 x8 x10 x12) from (if_pos hc151)).symm) ?_
      refine Ends.step (u' := (T.setTop (mkF m 154 #[d0, d1, d2, d3, .val (.ref a_q2), .val (.int x5), .val (.int x6), d7, .val (.long x8), .second, .val (.long x10), .second, .val (.long x12), .second] []))) ?_ (fun _ k => XS.icmpNo X.here hx rfl (hb hby at_151) rfl (XT.ii_le_f hc151) k)
      exact b154 T _ _ X eT N Zs cf_q2 x5 x6 x8 x10 x12 (d0) od0 (d1) od1 (d2) od2 (d3) od3 (d7) od7 a_q2 g_q2 A_q2 (okt hc151)
    · refine Eq.mp (congrArg (fun z => Ends p e below s 2 7 (Q0 Z  h0 n0 z) (T.setTop (mkF m 151 #[d0, d1, d2, d3, .val (.ref a_q2), .val (.int x5), .val (.int x6), d7, .val (.long x8), .second, .val (.long x10), .second, .val (.long x12), .second] [(.int (2 : Int32)), (.int x6)]))) (show (F0_148 K cf_q2 x5 x6 x8 x10 x12) = (F0_168 K cf_q2 x5 x6 x8 x10 x12) from (if_neg hc151)).symm) ?_
      refine Ends.step (u' := (T.setTop (mkF m 168 #[d0, d1, d2, d3, .val (.ref a_q2), .val (.int x5), .val (.int x6), d7, .val (.long x8), .second, .val (.long x10), .second, .val (.long x12), .second] []))) ?_ (fun _ k => XS.icmpYes X.here hx rfl (pc0 := 151) (pc' := 168) rfl (hb hby at_151) rfl (XT.ii_le_t hc151) (by decide) (by decide) k)
      exact b168 T _ _ X eT N Zs cf_q2 x5 x6 x8 x10 x12 (d0) od0 (d1) od1 (d2) od2 (d3) od3 (d7) od7 a_q2 g_q2 A_q2 (okf hc151)
  have b134 : ∀ (T : State) (L : List Loc) (h : Heap) (X : Stand p l e room_1 s m #[(.int p0), (.int p1), (.int p2), (.int p3)] below meth c T L 2 7) (eT : T.heap = h) (N : Fr n0 L) (Zs : n0 ≤ h.size) (cf_q2 : Nat → Int32) (x5 : Int32) (x6 : Int32) (x8 : Int64) (x10 : Int64) (x12 : Int64) (d0 : Slot) (od0 : OneS d0) (d1 : Slot) (od1 : OneS d1) (d2 : Slot) (od2 : OneS d2) (d3 : Slot) (od3 : OneS d3) (d7 : Slot) (od7 : OneS d7) (a_q2 : Addr) (g_q2 : n0 ≤ a_q2) (A_q2 : Ar Z h a_q2 .byte 6 cf_q2) (ok : (O0_134 K cf_q2 x5 x6 x8 x10 x12)), Ends p e below s 2 7 (Q0 Z  h0 n0 (F0_134 K cf_q2 x5 x6 x8 x10 x12)) (T.setTop (mkF m 134 #[d0, d1, d2, d3, .val (.ref a_q2), .val (.int x5), .val (.int x6), d7, .val (.long x8), .second, .val (.long x10), .second, .val (.long x12), .second] [])) := by
    intro T L h X eT N Zs cf_q2 x5 x6 x8 x10 x12 d0 od0 d1 od1 d2 od2 d3 od3 d7 od7 a_q2 g_q2 A_q2 ok
    obtain ⟨o1, ok⟩ := ok
    refine Ends.step (u' := (T.setTop (mkF m 136 #[d0, d1, d2, d3, .val (.ref a_q2), .val (.int x5), .val (.int x6), d7, .val (.long x8), .second, .val (.long x10), .second, .val (.long x12), .second] [(.long x12)]))) ?_ (fun _ k => XT.lload X.here hx rfl (hb hby at_134) rfl k)
    refine Ends.step (u' := (T.setTop (mkF m 138 #[d0, d1, d2, d3, .val (.ref a_q2), .val (.int x5), .val (.int x6), d7, .val (.long x8), .second, .val (.long x10), .second, .val (.long x12), .second] [(.ref a_q2), (.long x12)]))) ?_ (fun _ k => XS.aload X.here hx rfl (hb hby at_136) rfl rfl k)
    refine Ends.step (u' := (T.setTop (mkF m 140 #[d0, d1, d2, d3, .val (.ref a_q2), .val (.int x5), .val (.int x6), d7, .val (.long x8), .second, .val (.long x10), .second, .val (.long x12), .second] [(.int x5), (.ref a_q2), (.long x12)]))) ?_ (fun _ k => XS.iload X.here hx rfl (hb hby at_138) rfl k)
    refine Ends.step (u' := (T.setTop (mkF m 141 #[d0, d1, d2, d3, .val (.ref a_q2), .val (.int x5), .val (.int x6), d7, .val (.long x8), .second, .val (.long x10), .second, .val (.long x12), .second] [(.int (1 : Int32)), (.int x5), (.ref a_q2), (.long x12)]))) ?_ (fun _ k => XT.iconstV X.here hx rfl (1 : Int32) (hb hby at_140) rfl k)
    refine Ends.step (u' := (T.setTop (mkF m 142 #[d0, d1, d2, d3, .val (.ref a_q2), .val (.int x5), .val (.int x6), d7, .val (.long x8), .second, .val (.long x10), .second, .val (.long x12), .second] [(.int (x5 + (1 : Int32))), (.ref a_q2), (.long x12)]))) ?_ (fun _ k => XS.iadd X.here hx rfl (hb hby at_141) rfl k)
    refine Ends.baload X hx hZ eT A_q2 o1 (g := (mkF m 142 #[d0, d1, d2, d3, .val (.ref a_q2), .val (.int x5), .val (.int x6), d7, .val (.long x8), .second, .val (.long x10), .second, .val (.long x12), .second] [(.int (x5 + (1 : Int32))), (.ref a_q2), (.long x12)])) rfl rfl (hb hby at_142) ?_
    show Ends p e below s _ _ _ (T.setTop (mkF m 143 #[d0, d1, d2, d3, .val (.ref a_q2), .val (.int x5), .val (.int x6), d7, .val (.long x8), .second, .val (.long x10), .second, .val (.long x12), .second] [(.int (cf_q2 ((x5 + (1 : Int32))).toNatClampNeg)), (.long x12)]))
    refine Ends.callS X hx hZ hown (hw _ (List.mem_of_getElem? (i := 9) rfl)) (hw _ (List.mem_of_getElem? (i := 10) rfl)) (hw _ (List.mem_of_getElem? (i := 11) rfl)) (hw _ (List.mem_of_getElem? (i := 12) rfl)) (by decide) (rm2 l Z a0 hw x12 (cf_q2 ((x5 + (1 : Int32))).toNatClampNeg) h n0 Zs) 0 (by decide) (by decide) eT  (g := (mkF m 143 #[d0, d1, d2, d3, .val (.ref a_q2), .val (.int x5), .val (.int x6), d7, .val (.long x8), .second, .val (.long x10), .second, .val (.long x12), .second] [(.int (cf_q2 ((x5 + (1 : Int32))).toNatClampNeg)), (.long x12)])) rfl (by rw [hml]; rfl)  [(.long x12), (.int (cf_q2 ((x5 + (1 : Int32))).toNatClampNeg))] [] (lenOf pd_1 rfl) rfl (by show 2 * 0 + _ ≤ _; exact Nat.le_of_eq rfl) (hb hby at_143) rfl (by decide) (by decide) (fun v5 T5 L5 X5 hQ5 => ?_)
    obtain ⟨rfl, Nq5, e5⟩ := hQ5
    have N5 := Fr.app N Nq5
    show Ends p e below s _ _ _ (T5.setTop (mkF m 146 #[d0, d1, d2, d3, .val (.ref a_q2), .val (.int x5), .val (.int x6), d7, .val (.long x8), .second, .val (.long x10), .second, .val (.long x12), .second] [(.long (F2 x12 (cf_q2 ((x5 + (1 : Int32))).toNatClampNeg)))]))
    refine Ends.step (u' := (T5.setTop (mkF m 148 #[d0, d1, d2, d3, .val (.ref a_q2), .val (.int x5), .val (.int x6), d7, .val (.long x8), .second, .val (.long x10), .second, .val (.long (F2 x12 (cf_q2 ((x5 + (1 : Int32))).toNatClampNeg))), .second] []))) ?_ (fun _ k => XT.lstore X5.here hx rfl (hb hby at_146) rfl (l' := #[d0, d1, d2, d3, .val (.ref a_q2), .val (.int x5), .val (.int x6), d7, .val (.long x8), .second, .val (.long x10), .second, .val (.long (F2 x12 (cf_q2 ((x5 + (1 : Int32))).toNatClampNeg))), .second]) rfl k)
    exact b148 T5 _ _ X5 e5 N5 Zs cf_q2 x5 x6 x8 x10 (F2 x12 (cf_q2 ((x5 + (1 : Int32))).toNatClampNeg)) (d0) od0 (d1) od1 (d2) od2 (d3) od3 (d7) od7 a_q2 g_q2 A_q2 ok
  have b128 : ∀ (T : State) (L : List Loc) (h : Heap) (X : Stand p l e room_1 s m #[(.int p0), (.int p1), (.int p2), (.int p3)] below meth c T L 2 7) (eT : T.heap = h) (N : Fr n0 L) (Zs : n0 ≤ h.size) (cf_q2 : Nat → Int32) (x5 : Int32) (x6 : Int32) (x8 : Int64) (x10 : Int64) (x12 : Int64) (d0 : Slot) (od0 : OneS d0) (d1 : Slot) (od1 : OneS d1) (d2 : Slot) (od2 : OneS d2) (d3 : Slot) (od3 : OneS d3) (d7 : Slot) (od7 : OneS d7) (a_q2 : Addr) (g_q2 : n0 ≤ a_q2) (A_q2 : Ar Z h a_q2 .byte 6 cf_q2) (ok : (O0_128 K cf_q2 x5 x6 x8 x10 x12)), Ends p e below s 2 7 (Q0 Z  h0 n0 (F0_128 K cf_q2 x5 x6 x8 x10 x12)) (T.setTop (mkF m 128 #[d0, d1, d2, d3, .val (.ref a_q2), .val (.int x5), .val (.int x6), d7, .val (.long x8), .second, .val (.long x10), .second, .val (.long x12), .second] [])) := by
    intro T L h X eT N Zs cf_q2 x5 x6 x8 x10 x12 d0 od0 d1 od1 d2 od2 d3 od3 d7 od7 a_q2 g_q2 A_q2 ok
    obtain ⟨okt, okf⟩ := ok
    refine Ends.step (u' := (T.setTop (mkF m 130 #[d0, d1, d2, d3, .val (.ref a_q2), .val (.int x5), .val (.int x6), d7, .val (.long x8), .second, .val (.long x10), .second, .val (.long x12), .second] [(.int x6)]))) ?_ (fun _ k => XS.iload X.here hx rfl (hb hby at_128) rfl k)
    refine Ends.step (u' := (T.setTop (mkF m 131 #[d0, d1, d2, d3, .val (.ref a_q2), .val (.int x5), .val (.int x6), d7, .val (.long x8), .second, .val (.long x10), .second, .val (.long x12), .second] [(.int (1 : Int32)), (.int x6)]))) ?_ (fun _ k => XT.iconstV X.here hx rfl (1 : Int32) (hb hby at_130) rfl k)
    by_cases hc131 : (1 : Int32) < x6
    · refine Eq.mp (congrArg (fun z => Ends p e below s 2 7 (Q0 Z  h0 n0 z) (T.setTop (mkF m 131 #[d0, d1, d2, d3, .val (.ref a_q2), .val (.int x5), .val (.int x6), d7, .val (.long x8), .second, .val (.long x10), .second, .val (.long x12), .second] [(.int (1 : Int32)), (.int x6)]))) (show (F0_128 K cf_q2 x5 x6 x8 x10 x12) = (F0_134 K cf_q2 x5 x6 x8 x10 x12) from (if_pos hc131)).symm) ?_
      refine Ends.step (u' := (T.setTop (mkF m 134 #[d0, d1, d2, d3, .val (.ref a_q2), .val (.int x5), .val (.int x6), d7, .val (.long x8), .second, .val (.long x10), .second, .val (.long x12), .second] []))) ?_ (fun _ k => XS.icmpNo X.here hx rfl (hb hby at_131) rfl (XT.ii_le_f hc131) k)
      exact b134 T _ _ X eT N Zs cf_q2 x5 x6 x8 x10 x12 (d0) od0 (d1) od1 (d2) od2 (d3) od3 (d7) od7 a_q2 g_q2 A_q2 (okt hc131)
    · refine Eq.mp (congrArg (fun z => Ends p e below s 2 7 (Q0 Z  h0 n0 z) (T.setTop (mkF m 131 #[d0, d1, d2, d3, .val (.ref a_q2), .val (.int x5), .val (.int x6), d7, .val (.long x8), .second, .val (.long x10), .second, .val (.long x12), .second] [(.int (1 : Int32)), (.int x6)]))) (show (F0_128 K cf_q2 x5 x6 x8 x10 x12) = (F0_148 K cf_q2 x5 x6 x8 x10 x12) from (if_neg hc131)).symm) ?_
      refine Ends.step (u' := (T.setTop (mkF m 148 #[d0, d1, d2, d3, .val (.ref a_q2), .val (.int x5), .val (.int x6), d7, .val (.long x8), .second, .val (.long x10), .second, .val (.long x12), .second] []))) ?_ (fun _ k => XS.icmpYes X.here hx rfl (pc0 := 131) (pc' := 148) rfl (hb hby at_131) rfl (XT.ii_le_t hc131) (by decide) (by decide) k)
      exact b148 T _ _ X eT N Zs cf_q2 x5 x6 x8 x10 x12 (d0) od0 (d1) od1 (d2) od2 (d3) od3 (d7) od7 a_q2 g_q2 A_q2 (okf hc131)
  have b116 : ∀ (T : State) (L : List Loc) (h : Heap) (X : Stand p l e room_1 s m #[(.int p0), (.int p1), (.int p2), (.int p3)] below meth c T L 2 7) (eT : T.heap = h) (N : Fr n0 L) (Zs : n0 ≤ h.size) (cf_q2 : Nat → Int32) (x5 : Int32) (x6 : Int32) (x8 : Int64) (x10 : Int64) (x12 : Int64) (d0 : Slot) (od0 : OneS d0) (d1 : Slot) (od1 : OneS d1) (d2 : Slot) (od2 : OneS d2) (d3 : Slot) (od3 : OneS d3) (d7 : Slot) (od7 : OneS d7) (a_q2 : Addr) (g_q2 : n0 ≤ a_q2) (A_q2 : Ar Z h a_q2 .byte 6 cf_q2) (ok : (O0_116 K cf_q2 x5 x6 x8 x10 x12)), Ends p e below s 2 7 (Q0 Z  h0 n0 (F0_116 K cf_q2 x5 x6 x8 x10 x12)) (T.setTop (mkF m 116 #[d0, d1, d2, d3, .val (.ref a_q2), .val (.int x5), .val (.int x6), d7, .val (.long x8), .second, .val (.long x10), .second, .val (.long x12), .second] [])) := by
    intro T L h X eT N Zs cf_q2 x5 x6 x8 x10 x12 d0 od0 d1 od1 d2 od2 d3 od3 d7 od7 a_q2 g_q2 A_q2 ok
    obtain ⟨o1, ok⟩ := ok
    refine Ends.step (u' := (T.setTop (mkF m 118 #[d0, d1, d2, d3, .val (.ref a_q2), .val (.int x5), .val (.int x6), d7, .val (.long x8), .second, .val (.long x10), .second, .val (.long x12), .second] [(.long x12)]))) ?_ (fun _ k => XT.lload X.here hx rfl (hb hby at_116) rfl k)
    refine Ends.step (u' := (T.setTop (mkF m 120 #[d0, d1, d2, d3, .val (.ref a_q2), .val (.int x5), .val (.int x6), d7, .val (.long x8), .second, .val (.long x10), .second, .val (.long x12), .second] [(.ref a_q2), (.long x12)]))) ?_ (fun _ k => XS.aload X.here hx rfl (hb hby at_118) rfl rfl k)
    refine Ends.step (u' := (T.setTop (mkF m 122 #[d0, d1, d2, d3, .val (.ref a_q2), .val (.int x5), .val (.int x6), d7, .val (.long x8), .second, .val (.long x10), .second, .val (.long x12), .second] [(.int x5), (.ref a_q2), (.long x12)]))) ?_ (fun _ k => XS.iload X.here hx rfl (hb hby at_120) rfl k)
    refine Ends.baload X hx hZ eT A_q2 o1 (g := (mkF m 122 #[d0, d1, d2, d3, .val (.ref a_q2), .val (.int x5), .val (.int x6), d7, .val (.long x8), .second, .val (.long x10), .second, .val (.long x12), .second] [(.int x5), (.ref a_q2), (.long x12)])) rfl rfl (hb hby at_122) ?_
    show Ends p e below s _ _ _ (T.setTop (mkF m 123 #[d0, d1, d2, d3, .val (.ref a_q2), .val (.int x5), .val (.int x6), d7, .val (.long x8), .second, .val (.long x10), .second, .val (.long x12), .second] [(.int (cf_q2 (x5).toNatClampNeg)), (.long x12)]))
    refine Ends.callS X hx hZ hown (hw _ (List.mem_of_getElem? (i := 9) rfl)) (hw _ (List.mem_of_getElem? (i := 10) rfl)) (hw _ (List.mem_of_getElem? (i := 11) rfl)) (hw _ (List.mem_of_getElem? (i := 12) rfl)) (by decide) (rm2 l Z a0 hw x12 (cf_q2 (x5).toNatClampNeg) h n0 Zs) 0 (by decide) (by decide) eT  (g := (mkF m 123 #[d0, d1, d2, d3, .val (.ref a_q2), .val (.int x5), .val (.int x6), d7, .val (.long x8), .second, .val (.long x10), .second, .val (.long x12), .second] [(.int (cf_q2 (x5).toNatClampNeg)), (.long x12)])) rfl (by rw [hml]; rfl)  [(.long x12), (.int (cf_q2 (x5).toNatClampNeg))] [] (lenOf pd_1 rfl) rfl (by show 2 * 0 + _ ≤ _; exact Nat.le_of_eq rfl) (hb hby at_123) rfl (by decide) (by decide) (fun v6 T6 L6 X6 hQ6 => ?_)
    obtain ⟨rfl, Nq6, e6⟩ := hQ6
    have N6 := Fr.app N Nq6
    show Ends p e below s _ _ _ (T6.setTop (mkF m 126 #[d0, d1, d2, d3, .val (.ref a_q2), .val (.int x5), .val (.int x6), d7, .val (.long x8), .second, .val (.long x10), .second, .val (.long x12), .second] [(.long (F2 x12 (cf_q2 (x5).toNatClampNeg)))]))
    refine Ends.step (u' := (T6.setTop (mkF m 128 #[d0, d1, d2, d3, .val (.ref a_q2), .val (.int x5), .val (.int x6), d7, .val (.long x8), .second, .val (.long x10), .second, .val (.long (F2 x12 (cf_q2 (x5).toNatClampNeg))), .second] []))) ?_ (fun _ k => XT.lstore X6.here hx rfl (hb hby at_126) rfl (l' := #[d0, d1, d2, d3, .val (.ref a_q2), .val (.int x5), .val (.int x6), d7, .val (.long x8), .second, .val (.long x10), .second, .val (.long (F2 x12 (cf_q2 (x5).toNatClampNeg))), .second]) rfl k)
    exact b128 T6 _ _ X6 e6 N6 Zs cf_q2 x5 x6 x8 x10 (F2 x12 (cf_q2 (x5).toNatClampNeg)) (d0) od0 (d1) od1 (d2) od2 (d3) od3 (d7) od7 a_q2 g_q2 A_q2 ok
  have b106 : ∀ (T : State) (L : List Loc) (h : Heap) (X : Stand p l e room_1 s m #[(.int p0), (.int p1), (.int p2), (.int p3)] below meth c T L 2 7) (eT : T.heap = h) (N : Fr n0 L) (Zs : n0 ≤ h.size) (cf_q2 : Nat → Int32) (x5 : Int32) (x6 : Int32) (x8 : Int64) (x10 : Int64) (d0 : Slot) (od0 : OneS d0) (d1 : Slot) (od1 : OneS d1) (d2 : Slot) (od2 : OneS d2) (d3 : Slot) (od3 : OneS d3) (d7 : Slot) (od7 : OneS d7) (a_q2 : Addr) (g_q2 : n0 ≤ a_q2) (A_q2 : Ar Z h a_q2 .byte 6 cf_q2) (ok : (O0_106 K cf_q2 x5 x6 x8 x10)), Ends p e below s 2 7 (Q0 Z  h0 n0 (F0_106 K cf_q2 x5 x6 x8 x10)) (T.setTop (mkF m 106 #[d0, d1, d2, d3, .val (.ref a_q2), .val (.int x5), .val (.int x6), d7, .val (.long x8), .second, .val (.long x10), .second, .unset, .unset] [])) := by
    intro T L h X eT N Zs cf_q2 x5 x6 x8 x10 d0 od0 d1 od1 d2 od2 d3 od3 d7 od7 a_q2 g_q2 A_q2 ok
    obtain ⟨okt, okf⟩ := ok
    refine Ends.step (u' := (T.setTop (mkF m 109 #[d0, d1, d2, d3, .val (.ref a_q2), .val (.int x5), .val (.int x6), d7, .val (.long x8), .second, .val (.long x10), .second, .unset, .unset] [(.long (-3750763034362895579 : Int64))]))) ?_ (fun _ k => X.ldc2J hx hown (mvT hZ (hw _ (List.mem_of_getElem? (i := 8) rfl))) rfl (hb hby at_106) k)
    refine Ends.step (u' := (T.setTop (mkF m 111 #[d0, d1, d2, d3, .val (.ref a_q2), .val (.int x5), .val (.int x6), d7, .val (.long x8), .second, .val (.long x10), .second, .val (.long (-3750763034362895579 : Int64)), .second] []))) ?_ (fun _ k => XT.lstore X.here hx rfl (hb hby at_109) rfl (l' := #[d0, d1, d2, d3, .val (.ref a_q2), .val (.int x5), .val (.int x6), d7, .val (.long x8), .second, .val (.long x10), .second, .val (.long (-3750763034362895579 : Int64)), .second]) rfl k)
    refine Ends.step (u' := (T.setTop (mkF m 113 #[d0, d1, d2, d3, .val (.ref a_q2), .val (.int x5), .val (.int x6), d7, .val (.long x8), .second, .val (.long x10), .second, .val (.long (-3750763034362895579 : Int64)), .second] [(.int x6)]))) ?_ (fun _ k => XS.iload X.here hx rfl (hb hby at_111) rfl k)
    by_cases hc113 : 0 < x6
    · refine Eq.mp (congrArg (fun z => Ends p e below s 2 7 (Q0 Z  h0 n0 z) (T.setTop (mkF m 113 #[d0, d1, d2, d3, .val (.ref a_q2), .val (.int x5), .val (.int x6), d7, .val (.long x8), .second, .val (.long x10), .second, .val (.long (-3750763034362895579 : Int64)), .second] [(.int x6)]))) (show (F0_106 K cf_q2 x5 x6 x8 x10) = (F0_116 K cf_q2 x5 x6 x8 x10 (-3750763034362895579 : Int64)) from (if_pos hc113)).symm) ?_
      refine Ends.step (u' := (T.setTop (mkF m 116 #[d0, d1, d2, d3, .val (.ref a_q2), .val (.int x5), .val (.int x6), d7, .val (.long x8), .second, .val (.long x10), .second, .val (.long (-3750763034362895579 : Int64)), .second] []))) ?_ (fun _ k => XS.ifNo X.here hx rfl (hb hby at_113) rfl (XT.i0_le_f hc113) k)
      exact b116 T _ _ X eT N Zs cf_q2 x5 x6 x8 x10 (-3750763034362895579 : Int64) (d0) od0 (d1) od1 (d2) od2 (d3) od3 (d7) od7 a_q2 g_q2 A_q2 (okt hc113)
    · refine Eq.mp (congrArg (fun z => Ends p e below s 2 7 (Q0 Z  h0 n0 z) (T.setTop (mkF m 113 #[d0, d1, d2, d3, .val (.ref a_q2), .val (.int x5), .val (.int x6), d7, .val (.long x8), .second, .val (.long x10), .second, .val (.long (-3750763034362895579 : Int64)), .second] [(.int x6)]))) (show (F0_106 K cf_q2 x5 x6 x8 x10) = (F0_128 K cf_q2 x5 x6 x8 x10 (-3750763034362895579 : Int64)) from (if_neg hc113)).symm) ?_
      refine Ends.step (u' := (T.setTop (mkF m 128 #[d0, d1, d2, d3, .val (.ref a_q2), .val (.int x5), .val (.int x6), d7, .val (.long x8), .second, .val (.long x10), .second, .val (.long (-3750763034362895579 : Int64)), .second] []))) ?_ (fun _ k => XS.ifYes X.here hx rfl (pc0 := 113) (pc' := 128) rfl (hb hby at_113) rfl (XT.i0_le_t hc113) (by decide) (by decide) k)
      exact b128 T _ _ X eT N Zs cf_q2 x5 x6 x8 x10 (-3750763034362895579 : Int64) (d0) od0 (d1) od1 (d2) od2 (d3) od3 (d7) od7 a_q2 g_q2 A_q2 (okf hc113)
  have b97 : ∀ (T : State) (L : List Loc) (h : Heap) (X : Stand p l e room_1 s m #[(.int p0), (.int p1), (.int p2), (.int p3)] below meth c T L 2 7) (eT : T.heap = h) (N : Fr n0 L) (Zs : n0 ≤ h.size) (cf_q2 : Nat → Int32) (cf_q76 : Nat → Int32) (x5 : Int32) (x6 : Int32) (x8 : Int64) (d0 : Slot) (od0 : OneS d0) (d1 : Slot) (od1 : OneS d1) (d2 : Slot) (od2 : OneS d2) (d3 : Slot) (od3 : OneS d3) (a_q2 : Addr) (g_q2 : n0 ≤ a_q2) (a_q76 : Addr) (g_q76 : n0 ≤ a_q76) (ne_q2_q76 : a_q2 ≠ a_q76) (A_q2 : Ar Z h a_q2 .byte 6 cf_q2) (A_q76 : Ar Z h a_q76 .byte 1 cf_q76) (ok : (O0_97 K cf_q2 cf_q76 x5 x6 x8)), Ends p e below s 2 7 (Q0 Z  h0 n0 (F0_97 K cf_q2 cf_q76 x5 x6 x8)) (T.setTop (mkF m 97 #[d0, d1, d2, d3, .val (.ref a_q2), .val (.int x5), .val (.int x6), .val (.ref a_q76), .val (.long x8), .second, .unset, .unset, .unset, .unset] [])) := by
    intro T L h X eT N Zs cf_q2 cf_q76 x5 x6 x8 d0 od0 d1 od1 d2 od2 d3 od3 a_q2 g_q2 a_q76 g_q76 ne_q2_q76 A_q2 A_q76 ok
    obtain ⟨o1, ok⟩ := ok
    refine Ends.step (u' := (T.setTop (mkF m 99 #[d0, d1, d2, d3, .val (.ref a_q2), .val (.int x5), .val (.int x6), .val (.ref a_q76), .val (.long x8), .second, .unset, .unset, .unset, .unset] [(.ref a_q76)]))) ?_ (fun _ k => XS.aload X.here hx rfl (hb hby at_97) rfl rfl k)
    refine Ends.step (u' := (T.setTop (mkF m 100 #[d0, d1, d2, d3, .val (.ref a_q2), .val (.int x5), .val (.int x6), .val (.ref a_q76), .val (.long x8), .second, .unset, .unset, .unset, .unset] [(.int (0 : Int32)), (.ref a_q76)]))) ?_ (fun _ k => XT.iconstV X.here hx rfl (0 : Int32) (hb hby at_99) rfl k)
    refine Ends.step (u' := (T.setTop (mkF m 101 #[d0, d1, d2, d3, .val (.ref a_q2), .val (.int x5), .val (.int x6), .val (.ref a_q76), .val (.long x8), .second, .unset, .unset, .unset, .unset] [(.int (1 : Int32)), (.int (0 : Int32)), (.ref a_q76)]))) ?_ (fun _ k => XT.iconstV X.here hx rfl (1 : Int32) (hb hby at_100) rfl k)
    refine Ends.callS X hx hZ hown (hw _ (List.mem_of_getElem? (i := 2) rfl)) (hw _ (List.mem_of_getElem? (i := 3) rfl)) (hw _ (List.mem_of_getElem? (i := 4) rfl)) (hw _ (List.mem_of_getElem? (i := 5) rfl)) (by decide) (rm1 l Z a0 hw K (0 : Int32) (1 : Int32) 1 cf_q76 a_q76 h n0 Zs A_q76 o1) 0 (by decide) (by decide) eT  (g := (mkF m 101 #[d0, d1, d2, d3, .val (.ref a_q2), .val (.int x5), .val (.int x6), .val (.ref a_q76), .val (.long x8), .second, .unset, .unset, .unset, .unset] [(.int (1 : Int32)), (.int (0 : Int32)), (.ref a_q76)])) rfl (by rw [hml]; rfl)  [(.ref a_q76), (.int (0 : Int32)), (.int (1 : Int32))] [] (lenOf pd_0 rfl) rfl (by show 2 * 0 + _ ≤ _; exact Nat.le_of_eq rfl) (hb hby at_101) rfl (by decide) (by decide) (fun v7 T7 L7 X7 hQ7 => ?_)
    obtain ⟨rfl, Nq7, e7⟩ := hQ7
    have N7 := Fr.app N Nq7
    show Ends p e below s _ _ _ (T7.setTop (mkF m 104 #[d0, d1, d2, d3, .val (.ref a_q2), .val (.int x5), .val (.int x6), .val (.ref a_q76), .val (.long x8), .second, .unset, .unset, .unset, .unset] [(.long (F1 K (0 : Int32) (1 : Int32) 1 cf_q76))]))
    refine Ends.step (u' := (T7.setTop (mkF m 106 #[d0, d1, d2, d3, .val (.ref a_q2), .val (.int x5), .val (.int x6), .val (.ref a_q76), .val (.long x8), .second, .val (.long (F1 K (0 : Int32) (1 : Int32) 1 cf_q76)), .second, .unset, .unset] []))) ?_ (fun _ k => XT.lstore X7.here hx rfl (hb hby at_104) rfl (l' := #[d0, d1, d2, d3, .val (.ref a_q2), .val (.int x5), .val (.int x6), .val (.ref a_q76), .val (.long x8), .second, .val (.long (F1 K (0 : Int32) (1 : Int32) 1 cf_q76)), .second, .unset, .unset]) rfl k)
    exact b106 T7 _ _ X7 e7 N7 Zs cf_q2 x5 x6 x8 (F1 K (0 : Int32) (1 : Int32) 1 cf_q76) (d0) od0 (d1) od1 (d2) od2 (d3) od3 (.val (.ref a_q76)) (Or.inr ⟨_, rfl, rfl⟩) a_q2 g_q2 A_q2 ok
  have b75 : ∀ (T : State) (L : List Loc) (h : Heap) (X : Stand p l e room_1 s m #[(.int p0), (.int p1), (.int p2), (.int p3)] below meth c T L 1 6) (eT : T.heap = h) (N : Fr n0 L) (Zs : n0 ≤ h.size) (cf_q2 : Nat → Int32) (x5 : Int32) (x6 : Int32) (d0 : Slot) (od0 : OneS d0) (d1 : Slot) (od1 : OneS d1) (d2 : Slot) (od2 : OneS d2) (d3 : Slot) (od3 : OneS d3) (a_q2 : Addr) (g_q2 : n0 ≤ a_q2) (A_q2 : Ar Z h a_q2 .byte 6 cf_q2) (ok : (O0_75 K cf_q2 x5 x6)), Ends p e below s 2 7 (Q0 Z  h0 n0 (F0_75 K cf_q2 x5 x6)) (T.setTop (mkF m 75 #[d0, d1, d2, d3, .val (.ref a_q2), .val (.int x5), .val (.int x6), .unset, .unset, .unset, .unset, .unset, .unset, .unset] [])) := by
    intro T L h X eT N Zs cf_q2 x5 x6 d0 od0 d1 od1 d2 od2 d3 od3 a_q2 g_q2 A_q2 ok
    obtain ⟨o1, ok⟩ := ok
    refine Ends.step (u' := (T.setTop (mkF m 76 #[d0, d1, d2, d3, .val (.ref a_q2), .val (.int x5), .val (.int x6), .unset, .unset, .unset, .unset, .unset, .unset, .unset] [(.int (1 : Int32))]))) ?_ (fun _ k => XT.iconstV X.here hx rfl (1 : Int32) (hb hby at_75) rfl k)
    refine Ends.newA X hx hZ (hw _ (List.mem_of_getElem? (i := 0) rfl)) eT (g := (mkF m 76 #[d0, d1, d2, d3, .val (.ref a_q2), .val (.int x5), .val (.int x6), .unset, .unset, .unset, .unset, .unset, .unset, .unset] [(.int (1 : Int32))])) rfl (hb hby at_76) rfl rfl (by decide) 1 (by decide) (by decide) (by decide) (by decide) (fun T8 h8 a8 X8 e8 E8 q8 A8 => ?_)
    have ne9 : a_q2 ≠ a8 := q8 ▸ Nat.ne_of_lt A_q2.lt
    have A10 := A_q2.ext E8
    have g11 : n0 ≤ a8 := q8 ▸ Zs
    have Z12 := Nat.le_trans Zs E8.1
    show Ends p e below s _ _ _ (T8.setTop (mkF m 78 #[d0, d1, d2, d3, .val (.ref a_q2), .val (.int x5), .val (.int x6), .unset, .unset, .unset, .unset, .unset, .unset, .unset] [(.ref a8)]))
    refine Ends.step (u' := (T8.setTop (mkF m 80 #[d0, d1, d2, d3, .val (.ref a_q2), .val (.int x5), .val (.int x6), .val (.ref a8), .unset, .unset, .unset, .unset, .unset, .unset] []))) ?_ (fun _ k => XS.astore X8.here hx rfl (hb hby at_78) rfl rfl (l' := #[d0, d1, d2, d3, .val (.ref a_q2), .val (.int x5), .val (.int x6), .val (.ref a8), .unset, .unset, .unset, .unset, .unset, .unset]) rfl k)
    refine Ends.step (u' := (T8.setTop (mkF m 82 #[d0, d1, d2, d3, .val (.ref a_q2), .val (.int x5), .val (.int x6), .val (.ref a8), .unset, .unset, .unset, .unset, .unset, .unset] [(.ref a8)]))) ?_ (fun _ k => XS.aload X8.here hx rfl (hb hby at_80) rfl rfl k)
    refine Ends.step (u' := (T8.setTop (mkF m 83 #[d0, d1, d2, d3, .val (.ref a_q2), .val (.int x5), .val (.int x6), .val (.ref a8), .unset, .unset, .unset, .unset, .unset, .unset] [(.int (0 : Int32)), (.ref a8)]))) ?_ (fun _ k => XT.iconstV X8.here hx rfl (0 : Int32) (hb hby at_82) rfl k)
    refine Ends.step (u' := (T8.setTop (mkF m 85 #[d0, d1, d2, d3, .val (.ref a_q2), .val (.int x5), .val (.int x6), .val (.ref a8), .unset, .unset, .unset, .unset, .unset, .unset] [(.int (97 : Int32)), (.int (0 : Int32)), (.ref a8)]))) ?_ (fun _ k => XT.bipushV X8.here hx rfl (97 : Int32) (hb hby at_83) rfl k)
    refine Ends.bastore X8 hx hZ e8 A8 (by unfold inb; decide) N g11 (g := (mkF m 85 #[d0, d1, d2, d3, .val (.ref a_q2), .val (.int x5), .val (.int x6), .val (.ref a8), .unset, .unset, .unset, .unset, .unset, .unset] [(.int (97 : Int32)), (.int (0 : Int32)), (.ref a8)])) rfl rfl (hb hby at_85) (fun T13 h13 sl13 X13 e13 N13 W13 A13 => ?_)
    show Ends p e below s _ _ _ (T13.setTop (mkF m 86 #[d0, d1, d2, d3, .val (.ref a_q2), .val (.int x5), .val (.int x6), .val (.ref a8), .unset, .unset, .unset, .unset, .unset, .unset] []))
    have A14 := A10.other W13 ne9
    have Z15 : n0 ≤ h13.size := W13.size.symm ▸ Z12
    refine Ends.step (u' := (T13.setTop (mkF m 88 #[d0, d1, d2, d3, .val (.ref a_q2), .val (.int x5), .val (.int x6), .val (.ref a8), .unset, .unset, .unset, .unset, .unset, .unset] [(.ref a_q2)]))) ?_ (fun _ k => XS.aload X13.here hx rfl (hb hby at_86) rfl rfl k)
    refine Ends.step (u' := (T13.setTop (mkF m 90 #[d0, d1, d2, d3, .val (.ref a_q2), .val (.int x5), .val (.int x6), .val (.ref a8), .unset, .unset, .unset, .unset, .unset, .unset] [(.int x5), (.ref a_q2)]))) ?_ (fun _ k => XS.iload X13.here hx rfl (hb hby at_88) rfl k)
    refine Ends.step (u' := (T13.setTop (mkF m 92 #[d0, d1, d2, d3, .val (.ref a_q2), .val (.int x5), .val (.int x6), .val (.ref a8), .unset, .unset, .unset, .unset, .unset, .unset] [(.int x6), (.int x5), (.ref a_q2)]))) ?_ (fun _ k => XS.iload X13.here hx rfl (hb hby at_90) rfl k)
    refine Ends.callS X13 hx hZ hown (hw _ (List.mem_of_getElem? (i := 2) rfl)) (hw _ (List.mem_of_getElem? (i := 3) rfl)) (hw _ (List.mem_of_getElem? (i := 4) rfl)) (hw _ (List.mem_of_getElem? (i := 5) rfl)) (by decide) (rm1 l Z a0 hw K x5 x6 6 cf_q2 a_q2 h13 n0 Z15 A14 o1) 0 (by decide) (by decide) e13  (g := (mkF m 92 #[d0, d1, d2, d3, .val (.ref a_q2), .val (.int x5), .val (.int x6), .val (.ref a8), .unset, .unset, .unset, .unset, .unset, .unset] [(.int x6), (.int x5), (.ref a_q2)])) rfl (by rw [hml]; rfl)  [(.ref a_q2), (.int x5), (.int x6)] [] (lenOf pd_0 rfl) rfl (by show 2 * 0 + _ ≤ _; exact Nat.le_of_eq rfl) (hb hby at_92) rfl (by decide) (by decide) (fun v16 T16 L16 X16 hQ16 => ?_)
    obtain ⟨rfl, Nq16, e16⟩ := hQ16
    have N16 := Fr.app N13 Nq16
    show Ends p e below s _ _ _ (T16.setTop (mkF m 95 #[d0, d1, d2, d3, .val (.ref a_q2), .val (.int x5), .val (.int x6), .val (.ref a8), .unset, .unset, .unset, .unset, .unset, .unset] [(.long (F1 K x5 x6 6 cf_q2))]))
    refine Ends.step (u' := (T16.setTop (mkF m 97 #[d0, d1, d2, d3, .val (.ref a_q2), .val (.int x5), .val (.int x6), .val (.ref a8), .val (.long (F1 K x5 x6 6 cf_q2)), .second, .unset, .unset, .unset, .unset] []))) ?_ (fun _ k => XT.lstore X16.here hx rfl (hb hby at_95) rfl (l' := #[d0, d1, d2, d3, .val (.ref a_q2), .val (.int x5), .val (.int x6), .val (.ref a8), .val (.long (F1 K x5 x6 6 cf_q2)), .second, .unset, .unset, .unset, .unset]) rfl k)
    exact b97 T16 _ _ X16 e16 N16 Z15 cf_q2 (upd (fun _ => 0) 0 (nar .byte (97 : Int32))) x5 x6 (F1 K x5 x6 6 cf_q2) (d0) od0 (d1) od1 (d2) od2 (d3) od3 a_q2 g_q2 a8 g11 ne9 A14 A13 ok
  have b63 : ∀ (T : State) (L : List Loc) (h : Heap) (X : Stand p l e room_1 s m #[(.int p0), (.int p1), (.int p2), (.int p3)] below meth c T L 1 6) (eT : T.heap = h) (N : Fr n0 L) (Zs : n0 ≤ h.size) (cf_q2 : Nat → Int32) (x3 : Int32) (x5 : Int32) (d0 : Slot) (od0 : OneS d0) (d1 : Slot) (od1 : OneS d1) (d2 : Slot) (od2 : OneS d2) (a_q2 : Addr) (g_q2 : n0 ≤ a_q2) (A_q2 : Ar Z h a_q2 .byte 6 cf_q2) (ok : (O0_63 K cf_q2 x3 x5)), Ends p e below s 2 7 (Q0 Z  h0 n0 (F0_63 K cf_q2 x3 x5)) (T.setTop (mkF m 63 #[d0, d1, d2, .val (.int x3), .val (.ref a_q2), .val (.int x5), .unset, .unset, .unset, .unset, .unset, .unset, .unset, .unset] [])) := by
    intro T L h X eT N Zs cf_q2 x3 x5 d0 od0 d1 od1 d2 od2 a_q2 g_q2 A_q2 ok
    obtain ⟨o1, ok⟩ := ok
    refine Ends.step (u' := (T.setTop (mkF m 64 #[d0, d1, d2, .val (.int x3), .val (.ref a_q2), .val (.int x5), .unset, .unset, .unset, .unset, .unset, .unset, .unset, .unset] [(.int x3)]))) ?_ (fun _ k => XS.iloadN X.here hx rfl (hb hby at_63) rfl k)
    refine Ends.step (u' := (T.setTop (mkF m 66 #[d0, d1, d2, .val (.int x3), .val (.ref a_q2), .val (.int x5), .unset, .unset, .unset, .unset, .unset, .unset, .unset, .unset] [(.int (2147483647 : Int32)), (.int x3)]))) ?_ (fun _ k => X.ldcI hx hown (mvT hZ (hw _ (List.mem_of_getElem? (i := 1) rfl))) rfl (hb hby at_64) k)
    refine Ends.step (u' := (T.setTop (mkF m 67 #[d0, d1, d2, .val (.int x3), .val (.ref a_q2), .val (.int x5), .unset, .unset, .unset, .unset, .unset, .unset, .unset, .unset] [(.int (x3 &&& (2147483647 : Int32)))]))) ?_ (fun _ k => XS.iand X.here hx rfl (hb hby at_66) rfl k)
    refine Ends.step (u' := (T.setTop (mkF m 69 #[d0, d1, d2, .val (.int x3), .val (.ref a_q2), .val (.int x5), .unset, .unset, .unset, .unset, .unset, .unset, .unset, .unset] [(.int (7 : Int32)), (.int (x3 &&& (2147483647 : Int32)))]))) ?_ (fun _ k => XT.bipushV X.here hx rfl (7 : Int32) (hb hby at_67) rfl k)
    refine Ends.step (u' := (T.setTop (mkF m 71 #[d0, d1, d2, .val (.int x3), .val (.ref a_q2), .val (.int x5), .unset, .unset, .unset, .unset, .unset, .unset, .unset, .unset] [(.int x5), (.int (7 : Int32)), (.int (x3 &&& (2147483647 : Int32)))]))) ?_ (fun _ k => XS.iload X.here hx rfl (hb hby at_69) rfl k)
    refine Ends.step (u' := (T.setTop (mkF m 72 #[d0, d1, d2, .val (.int x3), .val (.ref a_q2), .val (.int x5), .unset, .unset, .unset, .unset, .unset, .unset, .unset, .unset] [(.int ((7 : Int32) - x5)), (.int (x3 &&& (2147483647 : Int32)))]))) ?_ (fun _ k => XS.isub X.here hx rfl (hb hby at_71) rfl k)
    refine Ends.step (u' := (T.setTop (mkF m 73 #[d0, d1, d2, .val (.int x3), .val (.ref a_q2), .val (.int x5), .unset, .unset, .unset, .unset, .unset, .unset, .unset, .unset] [(.int ((x3 &&& (2147483647 : Int32)) % ((7 : Int32) - x5)))]))) ?_ (fun _ k => iremM X hx rfl (hb hby at_72) rfl o1 k)
    refine Ends.step (u' := (T.setTop (mkF m 75 #[d0, d1, d2, .val (.int x3), .val (.ref a_q2), .val (.int x5), .val (.int ((x3 &&& (2147483647 : Int32)) % ((7 : Int32) - x5))), .unset, .unset, .unset, .unset, .unset, .unset, .unset] []))) ?_ (fun _ k => XS.istore X.here hx rfl (hb hby at_73) rfl (l' := #[d0, d1, d2, .val (.int x3), .val (.ref a_q2), .val (.int x5), .val (.int ((x3 &&& (2147483647 : Int32)) % ((7 : Int32) - x5))), .unset, .unset, .unset, .unset, .unset, .unset, .unset]) rfl k)
    exact b75 T _ _ X eT N Zs cf_q2 x5 ((x3 &&& (2147483647 : Int32)) % ((7 : Int32) - x5)) (d0) od0 (d1) od1 (d2) od2 (.val (.int x3)) (Or.inr ⟨_, rfl, rfl⟩) a_q2 g_q2 A_q2 ok
  refine Ends.step (u' := (s₁.setTop (mkF m 0 #[.val (.int p0), .val (.int p1), .val (.int p2), .val (.int p3), .unset, .unset, .unset, .unset, .unset, .unset, .unset, .unset, .unset, .unset] []))) ?_ (fun _ k => castTop (ef_0 m p0 p1 p2 p3) k)
  refine Ends.step (u' := (s₁.setTop (mkF m 2 #[.val (.int p0), .val (.int p1), .val (.int p2), .val (.int p3), .unset, .unset, .unset, .unset, .unset, .unset, .unset, .unset, .unset, .unset] [(.int (6 : Int32))]))) ?_ (fun _ k => XT.bipushV X0.here hx rfl (6 : Int32) (hb hby at_0) rfl k)
  refine Ends.newA X0 hx hZ (hw _ (List.mem_of_getElem? (i := 0) rfl)) e0 (g := (mkF m 2 #[.val (.int p0), .val (.int p1), .val (.int p2), .val (.int p3), .unset, .unset, .unset, .unset, .unset, .unset, .unset, .unset, .unset, .unset] [(.int (6 : Int32))])) rfl (hb hby at_2) rfl rfl (by decide) 6 (by decide) (by decide) (by decide) (by decide) (fun T17 h17 a17 X17 e17 E17 q17 A17 => ?_)
  have g18 : n0 ≤ a17 := q17 ▸ Z0
  have Z19 := Nat.le_trans Z0 E17.1
  show Ends p e below s _ _ _ (T17.setTop (mkF m 4 #[.val (.int p0), .val (.int p1), .val (.int p2), .val (.int p3), .unset, .unset, .unset, .unset, .unset, .unset, .unset, .unset, .unset, .unset] [(.ref a17)]))
  refine Ends.step (u' := (T17.setTop (mkF m 6 #[.val (.int p0), .val (.int p1), .val (.int p2), .val (.int p3), .val (.ref a17), .unset, .unset, .unset, .unset, .unset, .unset, .unset, .unset, .unset] []))) ?_ (fun _ k => XS.astore X17.here hx rfl (hb hby at_4) rfl rfl (l' := #[.val (.int p0), .val (.int p1), .val (.int p2), .val (.int p3), .val (.ref a17), .unset, .unset, .unset, .unset, .unset, .unset, .unset, .unset, .unset]) rfl k)
  refine Ends.step (u' := (T17.setTop (mkF m 8 #[.val (.int p0), .val (.int p1), .val (.int p2), .val (.int p3), .val (.ref a17), .unset, .unset, .unset, .unset, .unset, .unset, .unset, .unset, .unset] [(.ref a17)]))) ?_ (fun _ k => XS.aload X17.here hx rfl (hb hby at_6) rfl rfl k)
  refine Ends.step (u' := (T17.setTop (mkF m 9 #[.val (.int p0), .val (.int p1), .val (.int p2), .val (.int p3), .val (.ref a17), .unset, .unset, .unset, .unset, .unset, .unset, .unset, .unset, .unset] [(.int (0 : Int32)), (.ref a17)]))) ?_ (fun _ k => XT.iconstV X17.here hx rfl (0 : Int32) (hb hby at_8) rfl k)
  refine Ends.step (u' := (T17.setTop (mkF m 10 #[.val (.int p0), .val (.int p1), .val (.int p2), .val (.int p3), .val (.ref a17), .unset, .unset, .unset, .unset, .unset, .unset, .unset, .unset, .unset] [(.int p0), (.int (0 : Int32)), (.ref a17)]))) ?_ (fun _ k => XS.iloadN X17.here hx rfl (hb hby at_9) rfl k)
  refine Ends.step (u' := (T17.setTop (mkF m 11 #[.val (.int p0), .val (.int p1), .val (.int p2), .val (.int p3), .val (.ref a17), .unset, .unset, .unset, .unset, .unset, .unset, .unset, .unset, .unset] [(.int ((p0).toInt8.toInt32)), (.int (0 : Int32)), (.ref a17)]))) ?_ (fun _ k => XT.i2b X17.here hx rfl (hb hby at_10) rfl k)
  refine Ends.bastore X17 hx hZ e17 A17 (by unfold inb; decide) N0 g18 (g := (mkF m 11 #[.val (.int p0), .val (.int p1), .val (.int p2), .val (.int p3), .val (.ref a17), .unset, .unset, .unset, .unset, .unset, .unset, .unset, .unset, .unset] [(.int ((p0).toInt8.toInt32)), (.int (0 : Int32)), (.ref a17)])) rfl rfl (hb hby at_11) (fun T20 h20 sl20 X20 e20 N20 W20 A20 => ?_)
  show Ends p e below s _ _ _ (T20.setTop (mkF m 12 #[.val (.int p0), .val (.int p1), .val (.int p2), .val (.int p3), .val (.ref a17), .unset, .unset, .unset, .unset, .unset, .unset, .unset, .unset, .unset] []))
  have Z21 : n0 ≤ h20.size := W20.size.symm ▸ Z19
  refine Ends.step (u' := (T20.setTop (mkF m 14 #[.val (.int p0), .val (.int p1), .val (.int p2), .val (.int p3), .val (.ref a17), .unset, .unset, .unset, .unset, .unset, .unset, .unset, .unset, .unset] [(.ref a17)]))) ?_ (fun _ k => XS.aload X20.here hx rfl (hb hby at_12) rfl rfl k)
  refine Ends.step (u' := (T20.setTop (mkF m 15 #[.val (.int p0), .val (.int p1), .val (.int p2), .val (.int p3), .val (.ref a17), .unset, .unset, .unset, .unset, .unset, .unset, .unset, .unset, .unset] [(.int (1 : Int32)), (.ref a17)]))) ?_ (fun _ k => XT.iconstV X20.here hx rfl (1 : Int32) (hb hby at_14) rfl k)
  refine Ends.step (u' := (T20.setTop (mkF m 16 #[.val (.int p0), .val (.int p1), .val (.int p2), .val (.int p3), .val (.ref a17), .unset, .unset, .unset, .unset, .unset, .unset, .unset, .unset, .unset] [(.int p0), (.int (1 : Int32)), (.ref a17)]))) ?_ (fun _ k => XS.iloadN X20.here hx rfl (hb hby at_15) rfl k)
  refine Ends.step (u' := (T20.setTop (mkF m 18 #[.val (.int p0), .val (.int p1), .val (.int p2), .val (.int p3), .val (.ref a17), .unset, .unset, .unset, .unset, .unset, .unset, .unset, .unset, .unset] [(.int (8 : Int32)), (.int p0), (.int (1 : Int32)), (.ref a17)]))) ?_ (fun _ k => XT.bipushV X20.here hx rfl (8 : Int32) (hb hby at_16) rfl k)
  refine Ends.step (u' := (T20.setTop (mkF m 19 #[.val (.int p0), .val (.int p1), .val (.int p2), .val (.int p3), .val (.ref a17), .unset, .unset, .unset, .unset, .unset, .unset, .unset, .unset, .unset] [(.int (XT.ushr p0 (8 : Int32))), (.int (1 : Int32)), (.ref a17)]))) ?_ (fun _ k => XT.iushr X20.here hx rfl (hb hby at_18) rfl k)
  refine Ends.step (u' := (T20.setTop (mkF m 20 #[.val (.int p0), .val (.int p1), .val (.int p2), .val (.int p3), .val (.ref a17), .unset, .unset, .unset, .unset, .unset, .unset, .unset, .unset, .unset] [(.int (((XT.ushr p0 (8 : Int32))).toInt8.toInt32)), (.int (1 : Int32)), (.ref a17)]))) ?_ (fun _ k => XT.i2b X20.here hx rfl (hb hby at_19) rfl k)
  refine Ends.bastore X20 hx hZ e20 A20 (by unfold inb; decide) N20 g18 (g := (mkF m 20 #[.val (.int p0), .val (.int p1), .val (.int p2), .val (.int p3), .val (.ref a17), .unset, .unset, .unset, .unset, .unset, .unset, .unset, .unset, .unset] [(.int (((XT.ushr p0 (8 : Int32))).toInt8.toInt32)), (.int (1 : Int32)), (.ref a17)])) rfl rfl (hb hby at_20) (fun T22 h22 sl22 X22 e22 N22 W22 A22 => ?_)
  show Ends p e below s _ _ _ (T22.setTop (mkF m 21 #[.val (.int p0), .val (.int p1), .val (.int p2), .val (.int p3), .val (.ref a17), .unset, .unset, .unset, .unset, .unset, .unset, .unset, .unset, .unset] []))
  have Z23 : n0 ≤ h22.size := W22.size.symm ▸ Z21
  refine Ends.step (u' := (T22.setTop (mkF m 23 #[.val (.int p0), .val (.int p1), .val (.int p2), .val (.int p3), .val (.ref a17), .unset, .unset, .unset, .unset, .unset, .unset, .unset, .unset, .unset] [(.ref a17)]))) ?_ (fun _ k => XS.aload X22.here hx rfl (hb hby at_21) rfl rfl k)
  refine Ends.step (u' := (T22.setTop (mkF m 24 #[.val (.int p0), .val (.int p1), .val (.int p2), .val (.int p3), .val (.ref a17), .unset, .unset, .unset, .unset, .unset, .unset, .unset, .unset, .unset] [(.int (2 : Int32)), (.ref a17)]))) ?_ (fun _ k => XT.iconstV X22.here hx rfl (2 : Int32) (hb hby at_23) rfl k)
  refine Ends.step (u' := (T22.setTop (mkF m 25 #[.val (.int p0), .val (.int p1), .val (.int p2), .val (.int p3), .val (.ref a17), .unset, .unset, .unset, .unset, .unset, .unset, .unset, .unset, .unset] [(.int p0), (.int (2 : Int32)), (.ref a17)]))) ?_ (fun _ k => XS.iloadN X22.here hx rfl (hb hby at_24) rfl k)
  refine Ends.step (u' := (T22.setTop (mkF m 27 #[.val (.int p0), .val (.int p1), .val (.int p2), .val (.int p3), .val (.ref a17), .unset, .unset, .unset, .unset, .unset, .unset, .unset, .unset, .unset] [(.int (16 : Int32)), (.int p0), (.int (2 : Int32)), (.ref a17)]))) ?_ (fun _ k => XT.bipushV X22.here hx rfl (16 : Int32) (hb hby at_25) rfl k)
  refine Ends.step (u' := (T22.setTop (mkF m 28 #[.val (.int p0), .val (.int p1), .val (.int p2), .val (.int p3), .val (.ref a17), .unset, .unset, .unset, .unset, .unset, .unset, .unset, .unset, .unset] [(.int (XT.ushr p0 (16 : Int32))), (.int (2 : Int32)), (.ref a17)]))) ?_ (fun _ k => XT.iushr X22.here hx rfl (hb hby at_27) rfl k)
  refine Ends.step (u' := (T22.setTop (mkF m 29 #[.val (.int p0), .val (.int p1), .val (.int p2), .val (.int p3), .val (.ref a17), .unset, .unset, .unset, .unset, .unset, .unset, .unset, .unset, .unset] [(.int (((XT.ushr p0 (16 : Int32))).toInt8.toInt32)), (.int (2 : Int32)), (.ref a17)]))) ?_ (fun _ k => XT.i2b X22.here hx rfl (hb hby at_28) rfl k)
  refine Ends.bastore X22 hx hZ e22 A22 (by unfold inb; decide) N22 g18 (g := (mkF m 29 #[.val (.int p0), .val (.int p1), .val (.int p2), .val (.int p3), .val (.ref a17), .unset, .unset, .unset, .unset, .unset, .unset, .unset, .unset, .unset] [(.int (((XT.ushr p0 (16 : Int32))).toInt8.toInt32)), (.int (2 : Int32)), (.ref a17)])) rfl rfl (hb hby at_29) (fun T24 h24 sl24 X24 e24 N24 W24 A24 => ?_)
  show Ends p e below s _ _ _ (T24.setTop (mkF m 30 #[.val (.int p0), .val (.int p1), .val (.int p2), .val (.int p3), .val (.ref a17), .unset, .unset, .unset, .unset, .unset, .unset, .unset, .unset, .unset] []))
  have Z25 : n0 ≤ h24.size := W24.size.symm ▸ Z23
  refine Ends.step (u' := (T24.setTop (mkF m 32 #[.val (.int p0), .val (.int p1), .val (.int p2), .val (.int p3), .val (.ref a17), .unset, .unset, .unset, .unset, .unset, .unset, .unset, .unset, .unset] [(.ref a17)]))) ?_ (fun _ k => XS.aload X24.here hx rfl (hb hby at_30) rfl rfl k)
  refine Ends.step (u' := (T24.setTop (mkF m 33 #[.val (.int p0), .val (.int p1), .val (.int p2), .val (.int p3), .val (.ref a17), .unset, .unset, .unset, .unset, .unset, .unset, .unset, .unset, .unset] [(.int (3 : Int32)), (.ref a17)]))) ?_ (fun _ k => XT.iconstV X24.here hx rfl (3 : Int32) (hb hby at_32) rfl k)
  refine Ends.step (u' := (T24.setTop (mkF m 34 #[.val (.int p0), .val (.int p1), .val (.int p2), .val (.int p3), .val (.ref a17), .unset, .unset, .unset, .unset, .unset, .unset, .unset, .unset, .unset] [(.int p0), (.int (3 : Int32)), (.ref a17)]))) ?_ (fun _ k => XS.iloadN X24.here hx rfl (hb hby at_33) rfl k)
  refine Ends.step (u' := (T24.setTop (mkF m 36 #[.val (.int p0), .val (.int p1), .val (.int p2), .val (.int p3), .val (.ref a17), .unset, .unset, .unset, .unset, .unset, .unset, .unset, .unset, .unset] [(.int (24 : Int32)), (.int p0), (.int (3 : Int32)), (.ref a17)]))) ?_ (fun _ k => XT.bipushV X24.here hx rfl (24 : Int32) (hb hby at_34) rfl k)
  refine Ends.step (u' := (T24.setTop (mkF m 37 #[.val (.int p0), .val (.int p1), .val (.int p2), .val (.int p3), .val (.ref a17), .unset, .unset, .unset, .unset, .unset, .unset, .unset, .unset, .unset] [(.int (XT.ushr p0 (24 : Int32))), (.int (3 : Int32)), (.ref a17)]))) ?_ (fun _ k => XT.iushr X24.here hx rfl (hb hby at_36) rfl k)
  refine Ends.step (u' := (T24.setTop (mkF m 38 #[.val (.int p0), .val (.int p1), .val (.int p2), .val (.int p3), .val (.ref a17), .unset, .unset, .unset, .unset, .unset, .unset, .unset, .unset, .unset] [(.int (((XT.ushr p0 (24 : Int32))).toInt8.toInt32)), (.int (3 : Int32)), (.ref a17)]))) ?_ (fun _ k => XT.i2b X24.here hx rfl (hb hby at_37) rfl k)
  refine Ends.bastore X24 hx hZ e24 A24 (by unfold inb; decide) N24 g18 (g := (mkF m 38 #[.val (.int p0), .val (.int p1), .val (.int p2), .val (.int p3), .val (.ref a17), .unset, .unset, .unset, .unset, .unset, .unset, .unset, .unset, .unset] [(.int (((XT.ushr p0 (24 : Int32))).toInt8.toInt32)), (.int (3 : Int32)), (.ref a17)])) rfl rfl (hb hby at_38) (fun T26 h26 sl26 X26 e26 N26 W26 A26 => ?_)
  show Ends p e below s _ _ _ (T26.setTop (mkF m 39 #[.val (.int p0), .val (.int p1), .val (.int p2), .val (.int p3), .val (.ref a17), .unset, .unset, .unset, .unset, .unset, .unset, .unset, .unset, .unset] []))
  have Z27 : n0 ≤ h26.size := W26.size.symm ▸ Z25
  refine Ends.step (u' := (T26.setTop (mkF m 41 #[.val (.int p0), .val (.int p1), .val (.int p2), .val (.int p3), .val (.ref a17), .unset, .unset, .unset, .unset, .unset, .unset, .unset, .unset, .unset] [(.ref a17)]))) ?_ (fun _ k => XS.aload X26.here hx rfl (hb hby at_39) rfl rfl k)
  refine Ends.step (u' := (T26.setTop (mkF m 42 #[.val (.int p0), .val (.int p1), .val (.int p2), .val (.int p3), .val (.ref a17), .unset, .unset, .unset, .unset, .unset, .unset, .unset, .unset, .unset] [(.int (4 : Int32)), (.ref a17)]))) ?_ (fun _ k => XT.iconstV X26.here hx rfl (4 : Int32) (hb hby at_41) rfl k)
  refine Ends.step (u' := (T26.setTop (mkF m 43 #[.val (.int p0), .val (.int p1), .val (.int p2), .val (.int p3), .val (.ref a17), .unset, .unset, .unset, .unset, .unset, .unset, .unset, .unset, .unset] [(.int p1), (.int (4 : Int32)), (.ref a17)]))) ?_ (fun _ k => XS.iloadN X26.here hx rfl (hb hby at_42) rfl k)
  refine Ends.step (u' := (T26.setTop (mkF m 44 #[.val (.int p0), .val (.int p1), .val (.int p2), .val (.int p3), .val (.ref a17), .unset, .unset, .unset, .unset, .unset, .unset, .unset, .unset, .unset] [(.int ((p1).toInt8.toInt32)), (.int (4 : Int32)), (.ref a17)]))) ?_ (fun _ k => XT.i2b X26.here hx rfl (hb hby at_43) rfl k)
  refine Ends.bastore X26 hx hZ e26 A26 (by unfold inb; decide) N26 g18 (g := (mkF m 44 #[.val (.int p0), .val (.int p1), .val (.int p2), .val (.int p3), .val (.ref a17), .unset, .unset, .unset, .unset, .unset, .unset, .unset, .unset, .unset] [(.int ((p1).toInt8.toInt32)), (.int (4 : Int32)), (.ref a17)])) rfl rfl (hb hby at_44) (fun T28 h28 sl28 X28 e28 N28 W28 A28 => ?_)
  show Ends p e below s _ _ _ (T28.setTop (mkF m 45 #[.val (.int p0), .val (.int p1), .val (.int p2), .val (.int p3), .val (.ref a17), .unset, .unset, .unset, .unset, .unset, .unset, .unset, .unset, .unset] []))
  have Z29 : n0 ≤ h28.size := W28.size.symm ▸ Z27
  refine Ends.step (u' := (T28.setTop (mkF m 47 #[.val (.int p0), .val (.int p1), .val (.int p2), .val (.int p3), .val (.ref a17), .unset, .unset, .unset, .unset, .unset, .unset, .unset, .unset, .unset] [(.ref a17)]))) ?_ (fun _ k => XS.aload X28.here hx rfl (hb hby at_45) rfl rfl k)
  refine Ends.step (u' := (T28.setTop (mkF m 48 #[.val (.int p0), .val (.int p1), .val (.int p2), .val (.int p3), .val (.ref a17), .unset, .unset, .unset, .unset, .unset, .unset, .unset, .unset, .unset] [(.int (5 : Int32)), (.ref a17)]))) ?_ (fun _ k => XT.iconstV X28.here hx rfl (5 : Int32) (hb hby at_47) rfl k)
  refine Ends.step (u' := (T28.setTop (mkF m 49 #[.val (.int p0), .val (.int p1), .val (.int p2), .val (.int p3), .val (.ref a17), .unset, .unset, .unset, .unset, .unset, .unset, .unset, .unset, .unset] [(.int p1), (.int (5 : Int32)), (.ref a17)]))) ?_ (fun _ k => XS.iloadN X28.here hx rfl (hb hby at_48) rfl k)
  refine Ends.step (u' := (T28.setTop (mkF m 51 #[.val (.int p0), .val (.int p1), .val (.int p2), .val (.int p3), .val (.ref a17), .unset, .unset, .unset, .unset, .unset, .unset, .unset, .unset, .unset] [(.int (8 : Int32)), (.int p1), (.int (5 : Int32)), (.ref a17)]))) ?_ (fun _ k => XT.bipushV X28.here hx rfl (8 : Int32) (hb hby at_49) rfl k)
  refine Ends.step (u' := (T28.setTop (mkF m 52 #[.val (.int p0), .val (.int p1), .val (.int p2), .val (.int p3), .val (.ref a17), .unset, .unset, .unset, .unset, .unset, .unset, .unset, .unset, .unset] [(.int (XT.ushr p1 (8 : Int32))), (.int (5 : Int32)), (.ref a17)]))) ?_ (fun _ k => XT.iushr X28.here hx rfl (hb hby at_51) rfl k)
  refine Ends.step (u' := (T28.setTop (mkF m 53 #[.val (.int p0), .val (.int p1), .val (.int p2), .val (.int p3), .val (.ref a17), .unset, .unset, .unset, .unset, .unset, .unset, .unset, .unset, .unset] [(.int (((XT.ushr p1 (8 : Int32))).toInt8.toInt32)), (.int (5 : Int32)), (.ref a17)]))) ?_ (fun _ k => XT.i2b X28.here hx rfl (hb hby at_52) rfl k)
  refine Ends.bastore X28 hx hZ e28 A28 (by unfold inb; decide) N28 g18 (g := (mkF m 53 #[.val (.int p0), .val (.int p1), .val (.int p2), .val (.int p3), .val (.ref a17), .unset, .unset, .unset, .unset, .unset, .unset, .unset, .unset, .unset] [(.int (((XT.ushr p1 (8 : Int32))).toInt8.toInt32)), (.int (5 : Int32)), (.ref a17)])) rfl rfl (hb hby at_53) (fun T30 h30 sl30 X30 e30 N30 W30 A30 => ?_)
  show Ends p e below s _ _ _ (T30.setTop (mkF m 54 #[.val (.int p0), .val (.int p1), .val (.int p2), .val (.int p3), .val (.ref a17), .unset, .unset, .unset, .unset, .unset, .unset, .unset, .unset, .unset] []))
  have Z31 : n0 ≤ h30.size := W30.size.symm ▸ Z29
  refine Ends.step (u' := (T30.setTop (mkF m 55 #[.val (.int p0), .val (.int p1), .val (.int p2), .val (.int p3), .val (.ref a17), .unset, .unset, .unset, .unset, .unset, .unset, .unset, .unset, .unset] [(.int p2)]))) ?_ (fun _ k => XS.iloadN X30.here hx rfl (hb hby at_54) rfl k)
  refine Ends.step (u' := (T30.setTop (mkF m 57 #[.val (.int p0), .val (.int p1), .val (.int p2), .val (.int p3), .val (.ref a17), .unset, .unset, .unset, .unset, .unset, .unset, .unset, .unset, .unset] [(.int (2147483647 : Int32)), (.int p2)]))) ?_ (fun _ k => X30.ldcI hx hown (mvT hZ (hw _ (List.mem_of_getElem? (i := 1) rfl))) rfl (hb hby at_55) k)
  refine Ends.step (u' := (T30.setTop (mkF m 58 #[.val (.int p0), .val (.int p1), .val (.int p2), .val (.int p3), .val (.ref a17), .unset, .unset, .unset, .unset, .unset, .unset, .unset, .unset, .unset] [(.int (p2 &&& (2147483647 : Int32)))]))) ?_ (fun _ k => XS.iand X30.here hx rfl (hb hby at_57) rfl k)
  refine Ends.step (u' := (T30.setTop (mkF m 60 #[.val (.int p0), .val (.int p1), .val (.int p2), .val (.int p3), .val (.ref a17), .unset, .unset, .unset, .unset, .unset, .unset, .unset, .unset, .unset] [(.int (7 : Int32)), (.int (p2 &&& (2147483647 : Int32)))]))) ?_ (fun _ k => XT.bipushV X30.here hx rfl (7 : Int32) (hb hby at_58) rfl k)
  refine Ends.step (u' := (T30.setTop (mkF m 61 #[.val (.int p0), .val (.int p1), .val (.int p2), .val (.int p3), .val (.ref a17), .unset, .unset, .unset, .unset, .unset, .unset, .unset, .unset, .unset] [(.int ((p2 &&& (2147483647 : Int32)) % (7 : Int32)))]))) ?_ (fun _ k => iremM X30 hx rfl (hb hby at_60) rfl (by decide) k)
  refine Ends.step (u' := (T30.setTop (mkF m 63 #[.val (.int p0), .val (.int p1), .val (.int p2), .val (.int p3), .val (.ref a17), .val (.int ((p2 &&& (2147483647 : Int32)) % (7 : Int32))), .unset, .unset, .unset, .unset, .unset, .unset, .unset, .unset] []))) ?_ (fun _ k => XS.istore X30.here hx rfl (hb hby at_61) rfl (l' := #[.val (.int p0), .val (.int p1), .val (.int p2), .val (.int p3), .val (.ref a17), .val (.int ((p2 &&& (2147483647 : Int32)) % (7 : Int32))), .unset, .unset, .unset, .unset, .unset, .unset, .unset, .unset]) rfl k)
  exact b63 T30 _ _ X30 e30 N30 Z31 (upd (upd (upd (upd (upd (upd (fun _ => 0) 0 (nar .byte ((p0).toInt8.toInt32))) 1 (nar .byte (((XT.ushr p0 (8 : Int32))).toInt8.toInt32))) 2 (nar .byte (((XT.ushr p0 (16 : Int32))).toInt8.toInt32))) 3 (nar .byte (((XT.ushr p0 (24 : Int32))).toInt8.toInt32))) 4 (nar .byte ((p1).toInt8.toInt32))) 5 (nar .byte (((XT.ushr p1 (8 : Int32))).toInt8.toInt32))) p3 ((p2 &&& (2147483647 : Int32)) % (7 : Int32)) (.val (.int p0)) (Or.inr ⟨_, rfl, rfl⟩) (.val (.int p1)) (Or.inr ⟨_, rfl, rfl⟩) (.val (.int p2)) (Or.inr ⟨_, rfl, rfl⟩) a17 g18 A30 ok
theorem own_toInt (x : Int32) (h : x.toBitVec.toNat < 2 ^ 31) : x.toInt = x.toBitVec.toNat := by
  show x.toBitVec.toInt = _
  rw [BitVec.toInt_eq_toNat_cond, if_pos (by omega)]
theorem own_nonneg (x : Int32) (h : 0 ≤ x.toInt) : x.toBitVec.toNat < 2 ^ 31 := by
  have h' : 0 ≤ x.toBitVec.toInt := h
  rw [BitVec.toInt_eq_toNat_cond] at h'
  split at h' <;> omega
theorem own_band (x c : Int32) (hc : 0 ≤ c.toInt) : 0 ≤ (x &&& c).toInt ∧ (x &&& c).toInt ≤ c.toInt := by
  have hb := own_nonneg c hc
  have e : (x &&& c).toBitVec.toNat = x.toBitVec.toNat &&& c.toBitVec.toNat := by rw [Int32.toBitVec_and, BitVec.toNat_and]
  have l : x.toBitVec.toNat &&& c.toBitVec.toNat ≤ c.toBitVec.toNat := Nat.and_le_right
  rw [own_toInt (x &&& c) (by omega), own_toInt c hb, e]
  omega
theorem own_inb (j : Int32) (n : Nat) (h0 : 0 ≤ j.toInt) (h1 : j.toInt < n) : inb j n := by
  intro h
  rcases h with h | h
  · rw [Int32.lt_iff_toInt_lt] at h
    have : (0 : Int32).toInt = 0 := rfl
    omega
  · simp only [Int32.toNatClampNeg] at h
    omega
theorem own_n_toInt (i : Nat) (h : i < 2 ^ 31) : (Int32.ofNat i).toInt = i := Int32.toInt_ofNat_of_lt h
theorem own_n_lt (i j : Nat) (hi : i < 2 ^ 31) (hj : j < 2 ^ 31) : Int32.ofNat i < Int32.ofNat j ↔ i < j := by
  rw [Int32.lt_iff_toInt_lt, own_n_toInt i hi, own_n_toInt j hj]; omega
theorem own_n_add (i j : Nat) : Int32.ofNat i + Int32.ofNat j = Int32.ofNat (i + j) := (Int32.ofNat_add i j).symm
theorem own_n_ix (i : Nat) (h : i < 2 ^ 31) : (Int32.ofNat i).toNatClampNeg = i := by
  simp only [Int32.toNatClampNeg, own_n_toInt i h]; omega
theorem own_n_inb (i n : Nat) (h : i < n) (hn : n < 2 ^ 31) : inb (Int32.ofNat i) n :=
  own_inb _ _ (by rw [own_n_toInt i (by omega)]; omega) (by rw [own_n_toInt i (by omega)]; omega)
theorem own_n_ex (x : Int32) (h : 0 ≤ x.toInt) : ∃ n : Nat, n < 2 ^ 31 ∧ x = Int32.ofNat n ∧ x.toInt = n := by
  have := Int32.toInt_lt x
  refine ⟨x.toInt.toNat, by omega, ?_, by omega⟩
  apply Int32.toInt_inj.mp
  rw [own_n_toInt _ (by omega)]
  omega
theorem own_pos_mod (x c : Int32) (hc : 0 < c.toInt) : 0 ≤ ((x &&& (2147483647 : Int32)) % c).toInt ∧ ((x &&& (2147483647 : Int32)) % c).toInt < c.toInt := by
  have h := own_band x 2147483647 (by decide)
  rw [Int32.toInt_mod, Int.tmod_eq_emod_of_nonneg h.1]
  exact ⟨Int.emod_nonneg _ (by omega), Int.emod_lt_of_pos _ hc⟩
def own_fold (f : Nat → Int32) (h : Int64) : Nat → Nat → Int64
  | _, 0 => h
  | i, d + 1 => own_fold f (F2 h (f i)) (i + 1) d
theorem own_loop (K : Nat) (n : Nat) (f : Nat → Int32) (hn : n < 1000) : ∀ (d j i : Nat) (h : Int64), d < j → i + d ≤ n →
    O1_12 K j n f (Int32.ofNat (i + d)) h (Int32.ofNat i) ∧ F1_12 K j n f (Int32.ofNat (i + d)) h (Int32.ofNat i) = own_fold f h i d
  | d, 0, _, _, q, _ => absurd q (Nat.not_lt_zero d)
  | 0, j + 1, i, h, _, _ => by
    have c : ¬ Int32.ofNat i < Int32.ofNat (i + 0) := by rw [own_n_lt _ _ (by omega) (by omega)]; omega
    exact ⟨⟨fun q => absurd q c, fun _ => trivial⟩, if_neg c⟩
  | d + 1, j + 1, i, h, q, r => by
    have c : Int32.ofNat i < Int32.ofNat (i + (d + 1)) := by rw [own_n_lt _ _ (by omega) (by omega)]; omega
    have ih := own_loop K n f hn d j (i + 1) (F2 h (f i)) (by omega) (by omega)
    have e : i + 1 + d = i + (d + 1) := by omega
    rw [e] at ih
    have e1 : Int32.ofNat i + 1 = Int32.ofNat (i + 1) := own_n_add i 1
    have e2 : (Int32.ofNat i).toNatClampNeg = i := own_n_ix i (by omega)
    refine ⟨⟨fun _ => ⟨own_n_inb i n (by omega) (by omega), ?_⟩, fun q => absurd c q⟩, (if_pos c).trans ?_⟩
    · simp only [O1_32, O1_40, e1, e2]; exact ih.1
    · simp only [F1_18, F1_32, F1_40, e1, e2]; exact ih.2
theorem own_hash (K o l n : Nat) (f : Nat → Int32) (hn : n < 1000) (hK : l < K) (h : o + l ≤ n) : O1 K (Int32.ofNat o) (Int32.ofNat l) n f ∧ F1 K (Int32.ofNat o) (Int32.ofNat l) n f = own_fold f (-3750763034362895579 : Int64) o l := by
  have q := own_loop K n f hn l K o (-3750763034362895579 : Int64) hK h
  simp only [O1, F1, O1_4, F1_4, own_n_add]
  exact q
def own_g (f : Nat → Int32) (o l k : Nat) (h : Int64) : Int64 := if k < l then F2 h (f (o + k)) else h
theorem own_s5 (K : Nat) (f : Nat → Int32) (o l : Nat) (x8 x10 : Int64) (hh : o + l ≤ 6) (h : Int64) : O0_208 K f (Int32.ofNat o) (Int32.ofNat l) x8 x10 h ∧ F0_208 K f (Int32.ofNat o) (Int32.ofNat l) x8 x10 h = F0_228 K x8 x10 (own_g f o l 5 h) := by
  have e0 : Int32.ofNat o + (5 : Int32) = Int32.ofNat (o + 5) := own_n_add o 5
  by_cases c : (5 : Int32) < Int32.ofNat l
  · have c' : 5 < l := (own_n_lt 5 l (by decide) (by omega)).mp c
    have e : (Int32.ofNat (o + 5)).toNatClampNeg = o + 5 := own_n_ix _ (by omega)
    have hb : inb (Int32.ofNat o + (5 : Int32)) 6 := by rw [e0]; exact own_n_inb _ _ (by omega) (by decide)
    have eg : own_g f o l 5 h = F2 h (f (o + 5)) := if_pos c'
    refine ⟨⟨fun _ => ⟨hb, trivial⟩, fun q => absurd c q⟩, (if_pos c).trans ?_⟩
    show F0_228 K x8 x10 _ = _
    rw [e0, e, eg]
  · have c' : ¬ 5 < l := fun z => c ((own_n_lt 5 l (by decide) (by omega)).mpr z)
    have eg : own_g f o l 5 h = h := if_neg c'
    rw [eg]
    exact ⟨⟨fun q => absurd q c, fun _ => trivial⟩, if_neg c⟩
theorem own_s4 (K : Nat) (f : Nat → Int32) (o l : Nat) (x8 x10 : Int64) (hh : o + l ≤ 6) (h : Int64) : O0_188 K f (Int32.ofNat o) (Int32.ofNat l) x8 x10 h ∧ F0_188 K f (Int32.ofNat o) (Int32.ofNat l) x8 x10 h = F0_228 K x8 x10 (own_g f o l 5 (own_g f o l 4 h)) := by
  have e0 : Int32.ofNat o + (4 : Int32) = Int32.ofNat (o + 4) := own_n_add o 4
  by_cases c : (4 : Int32) < Int32.ofNat l
  · have c' : 4 < l := (own_n_lt 4 l (by decide) (by omega)).mp c
    have e : (Int32.ofNat (o + 4)).toNatClampNeg = o + 4 := own_n_ix _ (by omega)
    have hb : inb (Int32.ofNat o + (4 : Int32)) 6 := by rw [e0]; exact own_n_inb _ _ (by omega) (by decide)
    have eg : own_g f o l 4 h = F2 h (f (o + 4)) := if_pos c'
    have t := own_s5 K f o l x8 x10 hh (own_g f o l 4 h)
    refine ⟨⟨fun _ => ⟨hb, ?_⟩, fun q => absurd c q⟩, (if_pos c).trans ?_⟩
    · rw [e0, e, ← eg]; exact t.1
    · show F0_208 K f _ _ x8 x10 _ = _
      rw [e0, e, ← eg]; exact t.2
  · have c' : ¬ 4 < l := fun z => c ((own_n_lt 4 l (by decide) (by omega)).mpr z)
    have eg : own_g f o l 4 h = h := if_neg c'
    have t := own_s5 K f o l x8 x10 hh (own_g f o l 4 h)
    rw [eg] at t ⊢
    exact ⟨⟨fun q => absurd q c, fun _ => t.1⟩, (if_neg c).trans t.2⟩
theorem own_s3 (K : Nat) (f : Nat → Int32) (o l : Nat) (x8 x10 : Int64) (hh : o + l ≤ 6) (h : Int64) : O0_168 K f (Int32.ofNat o) (Int32.ofNat l) x8 x10 h ∧ F0_168 K f (Int32.ofNat o) (Int32.ofNat l) x8 x10 h = F0_228 K x8 x10 (own_g f o l 5 (own_g f o l 4 (own_g f o l 3 h))) := by
  have e0 : Int32.ofNat o + (3 : Int32) = Int32.ofNat (o + 3) := own_n_add o 3
  by_cases c : (3 : Int32) < Int32.ofNat l
  · have c' : 3 < l := (own_n_lt 3 l (by decide) (by omega)).mp c
    have e : (Int32.ofNat (o + 3)).toNatClampNeg = o + 3 := own_n_ix _ (by omega)
    have hb : inb (Int32.ofNat o + (3 : Int32)) 6 := by rw [e0]; exact own_n_inb _ _ (by omega) (by decide)
    have eg : own_g f o l 3 h = F2 h (f (o + 3)) := if_pos c'
    have t := own_s4 K f o l x8 x10 hh (own_g f o l 3 h)
    refine ⟨⟨fun _ => ⟨hb, ?_⟩, fun q => absurd c q⟩, (if_pos c).trans ?_⟩
    · rw [e0, e, ← eg]; exact t.1
    · show F0_188 K f _ _ x8 x10 _ = _
      rw [e0, e, ← eg]; exact t.2
  · have c' : ¬ 3 < l := fun z => c ((own_n_lt 3 l (by decide) (by omega)).mpr z)
    have eg : own_g f o l 3 h = h := if_neg c'
    have t := own_s4 K f o l x8 x10 hh (own_g f o l 3 h)
    rw [eg] at t ⊢
    exact ⟨⟨fun q => absurd q c, fun _ => t.1⟩, (if_neg c).trans t.2⟩
theorem own_s2 (K : Nat) (f : Nat → Int32) (o l : Nat) (x8 x10 : Int64) (hh : o + l ≤ 6) (h : Int64) : O0_148 K f (Int32.ofNat o) (Int32.ofNat l) x8 x10 h ∧ F0_148 K f (Int32.ofNat o) (Int32.ofNat l) x8 x10 h = F0_228 K x8 x10 (own_g f o l 5 (own_g f o l 4 (own_g f o l 3 (own_g f o l 2 h)))) := by
  have e0 : Int32.ofNat o + (2 : Int32) = Int32.ofNat (o + 2) := own_n_add o 2
  by_cases c : (2 : Int32) < Int32.ofNat l
  · have c' : 2 < l := (own_n_lt 2 l (by decide) (by omega)).mp c
    have e : (Int32.ofNat (o + 2)).toNatClampNeg = o + 2 := own_n_ix _ (by omega)
    have hb : inb (Int32.ofNat o + (2 : Int32)) 6 := by rw [e0]; exact own_n_inb _ _ (by omega) (by decide)
    have eg : own_g f o l 2 h = F2 h (f (o + 2)) := if_pos c'
    have t := own_s3 K f o l x8 x10 hh (own_g f o l 2 h)
    refine ⟨⟨fun _ => ⟨hb, ?_⟩, fun q => absurd c q⟩, (if_pos c).trans ?_⟩
    · rw [e0, e, ← eg]; exact t.1
    · show F0_168 K f _ _ x8 x10 _ = _
      rw [e0, e, ← eg]; exact t.2
  · have c' : ¬ 2 < l := fun z => c ((own_n_lt 2 l (by decide) (by omega)).mpr z)
    have eg : own_g f o l 2 h = h := if_neg c'
    have t := own_s3 K f o l x8 x10 hh (own_g f o l 2 h)
    rw [eg] at t ⊢
    exact ⟨⟨fun q => absurd q c, fun _ => t.1⟩, (if_neg c).trans t.2⟩
theorem own_s1 (K : Nat) (f : Nat → Int32) (o l : Nat) (x8 x10 : Int64) (hh : o + l ≤ 6) (h : Int64) : O0_128 K f (Int32.ofNat o) (Int32.ofNat l) x8 x10 h ∧ F0_128 K f (Int32.ofNat o) (Int32.ofNat l) x8 x10 h = F0_228 K x8 x10 (own_g f o l 5 (own_g f o l 4 (own_g f o l 3 (own_g f o l 2 (own_g f o l 1 h))))) := by
  have e0 : Int32.ofNat o + (1 : Int32) = Int32.ofNat (o + 1) := own_n_add o 1
  by_cases c : (1 : Int32) < Int32.ofNat l
  · have c' : 1 < l := (own_n_lt 1 l (by decide) (by omega)).mp c
    have e : (Int32.ofNat (o + 1)).toNatClampNeg = o + 1 := own_n_ix _ (by omega)
    have hb : inb (Int32.ofNat o + (1 : Int32)) 6 := by rw [e0]; exact own_n_inb _ _ (by omega) (by decide)
    have eg : own_g f o l 1 h = F2 h (f (o + 1)) := if_pos c'
    have t := own_s2 K f o l x8 x10 hh (own_g f o l 1 h)
    refine ⟨⟨fun _ => ⟨hb, ?_⟩, fun q => absurd c q⟩, (if_pos c).trans ?_⟩
    · rw [e0, e, ← eg]; exact t.1
    · show F0_148 K f _ _ x8 x10 _ = _
      rw [e0, e, ← eg]; exact t.2
  · have c' : ¬ 1 < l := fun z => c ((own_n_lt 1 l (by decide) (by omega)).mpr z)
    have eg : own_g f o l 1 h = h := if_neg c'
    have t := own_s2 K f o l x8 x10 hh (own_g f o l 1 h)
    rw [eg] at t ⊢
    exact ⟨⟨fun q => absurd q c, fun _ => t.1⟩, (if_neg c).trans t.2⟩
theorem own_106 (K : Nat) (f : Nat → Int32) (o l : Nat) (x8 x10 : Int64) (hh : o + l ≤ 6) : O0_106 K f (Int32.ofNat o) (Int32.ofNat l) x8 x10 ∧ F0_106 K f (Int32.ofNat o) (Int32.ofNat l) x8 x10 = F0_228 K x8 x10 (own_g f o l 5 (own_g f o l 4 (own_g f o l 3 (own_g f o l 2 (own_g f o l 1 (own_g f o l 0 (-3750763034362895579 : Int64))))))) := by
  have t := own_s1 K f o l x8 x10 hh (own_g f o l 0 (-3750763034362895579 : Int64))
  by_cases c : (0 : Int32) < Int32.ofNat l
  · have c' : 0 < l := (own_n_lt 0 l (by decide) (by omega)).mp c
    have e : (Int32.ofNat o).toNatClampNeg = o := own_n_ix _ (by omega)
    have eg : own_g f o l 0 (-3750763034362895579 : Int64) = F2 (-3750763034362895579 : Int64) (f o) := if_pos c'
    refine ⟨⟨fun _ => ⟨own_n_inb _ _ (by omega) (by decide), ?_⟩, fun q => absurd c q⟩, (if_pos c).trans ?_⟩
    · rw [e, ← eg]; exact t.1
    · show F0_128 K f _ _ x8 x10 _ = _
      rw [e, ← eg]; exact t.2
  · have c' : ¬ 0 < l := fun z => c ((own_n_lt 0 l (by decide) (by omega)).mpr z)
    have eg : own_g f o l 0 (-3750763034362895579 : Int64) = (-3750763034362895579 : Int64) := if_neg c'
    rw [eg] at t ⊢
    exact ⟨⟨fun q => absurd q c, fun _ => t.1⟩, (if_neg c).trans t.2⟩
theorem own_same (f : Nat → Int32) (o l : Nat) (h : Int64) (hl : l ≤ 6) : own_fold f h o l = own_g f o l 5 (own_g f o l 4 (own_g f o l 3 (own_g f o l 2 (own_g f o l 1 (own_g f o l 0 h))))) := by
  match l, hl with
  | 0, _ => rfl
  | 1, _ => rfl
  | 2, _ => rfl
  | 3, _ => rfl
  | 4, _ => rfl
  | 5, _ => rfl
  | 6, _ => rfl
theorem own_vec (f : Nat → Int32) (h : f 0 = 97) : own_fold f (-3750763034362895579 : Int64) 0 1 = (-5808556873153909620 : Int64) := by
  show F2 _ (f 0) = _
  rw [h]; decide +kernel
theorem own_law (i0 : Int32) (i1 : Int32) (i2 : Int32) (i3 : Int32) : ∃ K, O0 K i0 i1 i2 i3 ∧ F0 K i0 i1 i2 i3 = 1 := by
  refine ⟨8, ?_⟩
  have key : ∀ f : Nat → Int32, O0_63 8 f i3 ((i2 &&& (2147483647 : Int32)) % (7 : Int32)) ∧ F0_63 8 f i3 ((i2 &&& (2147483647 : Int32)) % (7 : Int32)) = 1 := by
    intro f
    have ho := own_pos_mod i2 7 (by decide)
    have e7 : (7 : Int32).toInt = 7 := rfl
    obtain ⟨o, o1, eo, o2⟩ := own_n_ex _ ho.1
    rw [eo]
    have e8 : (7 : Int32) - Int32.ofNat o = Int32.ofNat (7 - o) := by
      apply Int32.toInt_inj.mp
      rw [Int32.toInt_sub, own_n_toInt o o1, own_n_toInt (7 - o) (by omega)]
      show ((7 : Int) - o).bmod (2 ^ 32) = _
      rw [Int.bmod_eq_of_le (by omega) (by omega)]
      omega
    have e9 := own_n_toInt (7 - o) (by omega)
    have hl := own_pos_mod i3 (Int32.ofNat (7 - o)) (by omega)
    obtain ⟨n, n1, en, n2⟩ := own_n_ex _ hl.1
    simp only [O0_63, F0_63, e8, en]
    have nz : Int32.ofNat (7 - o) ≠ 0 := fun z => by
      rw [z] at e9
      have : (0 : Int32).toInt = 0 := rfl
      omega
    have hh : o + n ≤ 6 := by omega
    obtain ⟨a1, a2⟩ := own_hash 8 o n 6 f (by decide) (by omega) hh
    obtain ⟨b1, b2⟩ : O1 8 (0 : Int32) (1 : Int32) 1 (upd (fun _ => 0) 0 (nar .byte (97 : Int32))) ∧ F1 8 (0 : Int32) (1 : Int32) 1 (upd (fun _ => 0) 0 (nar .byte (97 : Int32))) = _ := own_hash 8 0 1 1 (upd (fun _ => 0) 0 (nar .byte (97 : Int32))) (by decide) (by decide) (by decide)
    have b3 := own_vec (upd (fun _ => 0) 0 (nar .byte (97 : Int32))) (by decide)
    have t := own_106 8 f o n (own_fold f (-3750763034362895579 : Int64) o n) (-5808556873153909620 : Int64) hh
    rw [← own_same f o n _ (by omega)] at t
    refine ⟨⟨nz, a1, b1, ?_⟩, ?_⟩
    · rw [a2, b2, b3]; exact t.1
    · simp only [F0_75, F0_97, a2, b2, b3]
      rw [t.2]
      simp only [F0_228, if_true, F0_236]
      rfl
  exact key _
set_option maxRecDepth 65536 in
set_option maxHeartbeats 40000000 in
theorem comes_1 {Post : Tables → Env → Array Value → State → Outcome → State → Prop} (hpost : ∀ tb e args s v u, (limb_1_1.after args s (.returned v) u = true ∧ limb_1_2.after args s (.returned v) u = true ∧ True) → FrameEnd s (.returned v) u (Jvm.fieldLocs frame_1_writes args s ++ Jvm.arrayLocs frame_1_arrays args s ++ Jvm.staticLocs frame_1_statics s) 16 128 → Post tb e args s (.returned v) u) :
    ArmFor flags0 classFile x code maxLocals ret World_1 tables_1 room_1 Calls_1 rest_1 Pre_1 Post := by
  intro l hfl _ _ p e ha hc hk s m args below hf hA hF happ hP
  obtain ⟨hcalls, hrest, hpre⟩ := hP
  obtain ⟨-, -, -, hnamed, -, -, -, hat⟩ := (Spec.applies_iff hf).mp happ
  obtain ⟨hg, hn⟩ := and_e (Cond.before_iff.mp (show (Jvm.Cond.and given_1 narrow_1).before args s = true from hpre))
  obtain ⟨h1, r0⟩ := and_e hg
  obtain ⟨k0, r1⟩ := and_e r0
  obtain ⟨k1, r2⟩ := and_e r1
  obtain ⟨k2, r3⟩ := and_e r2
  obtain ⟨w0, w1, w2, w3, rfl⟩ : ∃ w0 w1 w2 w3 : Value, args = #[w0, w1, w2, w3] := by
    have hs : args.size = 4 := by simpa [Cond.value, given_1] using h1
    obtain ⟨L⟩ := args
    match L, hs with
    | [w0, w1, w2, w3], _ => exact ⟨w0, w1, w2, w3, rfl⟩
  have hw := fun d (hd : d ∈ tables_1) => atoms_spec (ws := Jvm.Cond.code x code maxLocals ret :: tables_1) hat d (List.mem_cons_of_mem _ hd)
  obtain ⟨i0, e0⟩ := is_v k0
  obtain rfl : w0 = (.int i0) := Option.some.inj e0
  obtain ⟨i1, e1⟩ := is_v k1
  obtain rfl : w1 = (.int i1) := Option.some.inj e1
  obtain ⟨i2, e2⟩ := is_v k2
  obtain rfl : w2 = (.int i2) := Option.some.inj e2
  obtain ⟨i3, e3⟩ := is_v r3
  obtain rfl : w3 = (.int i3) := Option.some.inj e3
  obtain ⟨K, ok, val⟩ := own_law i0 i1 i2 i3
  obtain ⟨n, o, h1, h2, h3, _, L, rfl, ⟨rfl, N⟩, hq⟩ := rm0 l s _ hw K i0 i1 i2 i3 s.heap s.heap.size (Nat.le_refl _) ok p e ha hc hk s m _ below hf ((Spec.applies_iff_loose hf).mp happ).1 ⟨rfl, State.Warmed39.refl s, rfl⟩ trivial
  refine ⟨n, _, h1, h2, h3, hpost _ _ _ _ _ _ ⟨Cond.after_iff.mpr rfl, Cond.after_iff.mpr (eq_i res_at (Term.int_eval (1)) (by rw [val])), trivial⟩ ⟨hq.1, hq.2.1, (hq.2.2.sift fun y hy => Or.inr (N y hy)).mono (by decide) (by decide)⟩⟩
theorem main_1_1 : Claimed_1_1 := comes_1 fun _ _ _ _ _ _ h hF => ⟨h.1, hF⟩
theorem main_1_2 : Claimed_1_2 := comes_1 fun _ _ _ _ _ _ h hF => ⟨h.2.1, hF⟩
end Jvm.Pilot.@@N@@
namespace Jvm.Pilot.@@N@@
open Jvm Jvm.ClassFile Sem Op Lib Jvm.Free Jvm.Stand Jvm.Pilot.@@N@@.Jvm.D
/-! MADE BY PROGRAM (witnessworld.py) out of the Statement's table words and the real class files: 9 classes; the members and pool entries that the words name. The judged class is class 1, her method 2. -/
namespace start1
open Jvm.ClassFile
def u (s : String) : CpInfo := .utf8 (stringToUtf16 s)
/-- a pool by its gaps: so many unusable entries, then the entry; so many at the end -/
def gap : Nat → List CpInfo → List CpInfo
  | 0, r => r
  | n + 1, r => .unusable :: gap n r
def poolList (es : List (Nat × CpInfo)) (last : Nat) : List CpInfo := es.foldr (fun e r => gap e.1 (e.2 :: r)) (gap last [])
def pool (es : List (Nat × CpInfo)) (last : Nat) : Array CpInfo := ⟨poolList es last⟩
def fileOf (pool : Array CpInfo) (this : Nat) (attrs : Array Attribute := #[]) (ms : Array MethodInfo := #[]) (fl : Nat := 33) (sup : Nat := 0) (ifs : Array Nat := #[]) (fds : Array FieldInfo := #[]) : ClassFile where
  minorVersion := 0
  majorVersion := 65
  constantPool := pool
  accessFlags := fl
  thisClass := this
  superClass := sup
  interfaces := ifs
  fields := fds
  methods := ms
  attributes := attrs
def plain (name : String) (sup : Option ClassId) : Class where
  name := name
  kind := .ordinary
  loader := none
  accessFlags := 33
  super := sup
  interfaces := #[]
  cf := none
  fields := #[]
  methods := #[]
  instanceTypes := #[]
  staticTypes := #[]
  resolved := #[]
  callSites := []
  init := .initialized
  statics := none
  mirror := none

def pool0 : Array CpInfo := pool [(5, u "<init>"), (0, u "()V"), (1, .class_ 10), (1, u "java/lang/Object")] 113

def k0m0 : Method := { name := "<init>", desc := "()V", sig := { parameters := [], returnType := none }, accessFlags := 1, code := none }
/-- java/lang/Object -/
def k0 : Class := { plain "java/lang/Object" none with
  accessFlags := 33
  interfaces := #[]
  cf := some (fileOf pool0 8 #[] #[{ accessFlags := 1, nameIndex := 5, descriptorIndex := 6, attributes := #[] }] 33 0 #[] #[])
  fields := #[]
  methods := #[k0m0]
  instanceTypes := #[]
  staticTypes := #[]
  resolved := Array.replicate 124 none
  statics := none }

def pool1 : Array CpInfo := pool [(2, .class_ 4), (1, u "java/lang/Object"), (0, u "<init>"), (0, u "()V"), (0, .long 1099511628211), (1, .integer 2147483647), (0, .methodref 11 12), (0, .class_ 13), (0, .nameAndType 14 15), (0, u "com/example/ananke/ananke/hash/Fnv1a"), (0, u "hash64"), (0, u "([BII)J"), (0, .long 14695981039346656037), (1, .methodref 19 20), (0, .class_ 21), (0, .nameAndType 22 23), (0, u "com/example/ananke/ananke/hash/Fnv1aHash64PinLaw"), (0, u "step"), (0, u "(JB)J"), (0, .long 12638187200555641996), (3, u "law"), (0, u "(IIII)Z")] 5

def k1m0 : Method := { name := "<init>", desc := "()V", sig := { parameters := [], returnType := none }, accessFlags := 1, code := none }
def k1c1 : Code := { maxStack := 4, maxLocals := 3, code := method_2_code, exceptionTable := #[], attributes := #[] }
def k1m1 : Method := { name := "step", desc := "(JB)J", sig := { parameters := [.long, .byte], returnType := some .long }, accessFlags := 10, code := some k1c1 }
def k1c2 : Code := { maxStack := 5, maxLocals := 14, code := code, exceptionTable := #[], attributes := #[] }
def k1m2 : Method := { name := "law", desc := "(IIII)Z", sig := { parameters := [.int, .int, .int, .int], returnType := some .boolean }, accessFlags := 9, code := some k1c2 }
/-- com/example/ananke/ananke/hash/Fnv1aHash64PinLaw -/
def k1 : Class := { plain "com/example/ananke/ananke/hash/Fnv1aHash64PinLaw" (some 0) with
  accessFlags := 49
  interfaces := #[]
  cf := some (fileOf pool1 19 #[] #[{ accessFlags := 1, nameIndex := 5, descriptorIndex := 6, attributes := #[] }, { accessFlags := 10, nameIndex := 22, descriptorIndex := 23, attributes := #[] }, { accessFlags := 9, nameIndex := 28, descriptorIndex := 29, attributes := #[] }] 49 2 #[] #[])
  fields := #[]
  methods := #[k1m0, k1m1, k1m2]
  instanceTypes := #[]
  staticTypes := #[]
  resolved := Array.replicate 35 none
  statics := none }

def pool2 : Array CpInfo := pool [(2, .class_ 4), (1, u "java/lang/Object"), (0, u "<init>"), (0, u "()V"), (0, .class_ 8), (0, u "com/example/ananke/ananke/hash/Fnv1a"), (8, .long 14695981039346656037), (1, .long 1099511628211), (1, u "OFFSET_BASIS_32"), (0, u "I"), (1, u "PRIME_32"), (0, u "OFFSET_BASIS_64"), (0, u "J"), (0, u "PRIME_64"), (3, u "([BII)J"), (1, u "hash64")] 2

def k2m0 : Method := { name := "<init>", desc := "()V", sig := { parameters := [], returnType := none }, accessFlags := 2, code := none }
def k2c1 : Code := { maxStack := 4, maxLocals := 7, code := prog_8_method_3_code, exceptionTable := #[], attributes := #[] }
def k2m1 : Method := { name := "hash64", desc := "([BII)J", sig := { parameters := [(.array .byte), .int, .int], returnType := some .long }, accessFlags := 8, code := some k2c1 }
/-- com/example/ananke/ananke/hash/Fnv1a -/
def k2 : Class := { plain "com/example/ananke/ananke/hash/Fnv1a" (some 0) with
  accessFlags := 48
  interfaces := #[]
  cf := some (fileOf pool2 7 #[] #[{ accessFlags := 2, nameIndex := 5, descriptorIndex := 6, attributes := #[] }, { accessFlags := 8, nameIndex := 33, descriptorIndex := 31, attributes := #[] }] 48 2 #[] #[{ accessFlags := 26, nameIndex := 21, descriptorIndex := 22, attributes := #[] }, { accessFlags := 26, nameIndex := 24, descriptorIndex := 22, attributes := #[] }, { accessFlags := 26, nameIndex := 25, descriptorIndex := 26, attributes := #[] }, { accessFlags := 26, nameIndex := 27, descriptorIndex := 26, attributes := #[] }])
  fields := #[{ name := "OFFSET_BASIS_32", type := .int, accessFlags := 26, slot := 0, constantValue := 0 }, { name := "PRIME_32", type := .int, accessFlags := 26, slot := 1, constantValue := 0 }, { name := "OFFSET_BASIS_64", type := .long, accessFlags := 26, slot := 2, constantValue := 0 }, { name := "PRIME_64", type := .long, accessFlags := 26, slot := 3, constantValue := 0 }]
  methods := #[k2m0, k2m1]
  instanceTypes := #[]
  staticTypes := #[.int, .int, .long, .long]
  resolved := Array.replicate 36 none
  statics := none }

def pool3 : Array CpInfo := pool [(1, u "java/lang/Cloneable"), (0, .class_ 1), (0, u "java/lang/Object"), (0, .class_ 3)] 3

/-- java/lang/Cloneable -/
def k3 : Class := { plain "java/lang/Cloneable" (some 0) with
  accessFlags := 1537
  interfaces := #[]
  cf := some (fileOf pool3 2 #[] #[] 1537 4 #[] #[])
  fields := #[]
  methods := #[]
  instanceTypes := #[]
  staticTypes := #[]
  resolved := Array.replicate 8 none
  statics := none }

def pool4 : Array CpInfo := pool [(1, u "java/io/Serializable"), (0, .class_ 1), (0, u "java/lang/Object"), (0, .class_ 3)] 3

/-- java/io/Serializable -/
def k4 : Class := { plain "java/io/Serializable" (some 0) with
  accessFlags := 1537
  interfaces := #[]
  cf := some (fileOf pool4 2 #[] #[] 1537 4 #[] #[])
  fields := #[]
  methods := #[]
  instanceTypes := #[]
  staticTypes := #[]
  resolved := Array.replicate 8 none
  statics := none }

/-- the primitive byte -/
def k5 : Class := { plain "byte" none with kind := .primitive 'B', accessFlags := 0x411 }
/-- [B -/
def k6 : Class := { plain "[B" (some 0) with kind := .array 5 .byte, interfaces := #[3, 4], accessFlags := 1041 }

/-- the primitive int -/
def k7 : Class := { plain "int" none with kind := .primitive 'I', accessFlags := 0x411 }
/-- [I -/
def k8 : Class := { plain "[I" (some 0) with kind := .array 7 .int, interfaces := #[3, 4], accessFlags := 1041 }

def heap : Heap := #[]
def classes : Array Class := #[k0, k1, k2, k3, k4, k5, k6, k7, k8]
def interned : List (Array UInt16 × Addr) := []
def slotsUsed : Nat := 0
def theMethod : MethodId := ⟨1, 2⟩
def args0 : Array Value := #[.int 5, .int 7, .int 1, .int 2]
def aboutOver (below : List Frame) : State where
  vm := { classes := classes, interned := interned.toArray }
  heap := heap
  slotsUsed := slotsUsed
  threads := #[{ frames := .invoking theMethod args0 :: below }]
def below0 : List Frame := [.native { method := ⟨0, 0⟩, args := #[] }]
def about1 : State := aboutOver below0
def p0 : Program := .bare "" "" ""
def e0 : Env := launch0.env 0 0 0
theorem w_frames : about1.frames = Frame.invoking theMethod args0 :: below0 := rfl
set_option maxRecDepth 65536 in
theorem w_args : argsFit about1.vm theMethod args0 = true := by decide +kernel
set_option maxRecDepth 65536 in
theorem w_heap : heapFits about1 = true := by decide +kernel
set_option maxRecDepth 65536 in
theorem w_runnable : about1.curStatus? = some .runnable := by decide +kernel
set_option maxRecDepth 65536 in
theorem w_alone : about1.alone = true := by decide +kernel
set_option maxRecDepth 65536 in
theorem w_named : about1.methodNamed? x = some theMethod := by decide +kernel
set_option maxRecDepth 65536 in
theorem w_hears : about1.hears theMethod below0 = true := by decide +kernel
set_option maxRecDepth 65536 in
theorem w_ripe : about1.ripe theMethod args0 below0 = true := by decide +kernel
theorem w_running : about1.status = .running := rfl
set_option maxRecDepth 65536 in
theorem w_room : about1.hasRoom e0.platform room_1 = true :=
  launch0.hasRoom_least _ room_1 (by decide +kernel) (by decide +kernel) (by decide +kernel) (by decide +kernel) (by decide +kernel) (by decide +kernel)
theorem allAtoms_all (ts : List Jvm.Cond) (a : Array Jvm.Value) (st : Jvm.State) : (allAtoms ts).before a st = ts.all (fun c => c.before a st) := by
  induction ts with
  | nil => rfl
  | cons c t ih =>
    show (Jvm.Cond.and c (allAtoms t)).before a st = _
    rw [Jvm.Cond.before_and, ih, List.all_cons]
def words1 : List Jvm.Cond := Jvm.Cond.code x code maxLocals ret :: tables_1
/-- a 'code' word, met by the world's own term for the bytes: nothing is compared byte by byte -/
theorem code_word {y : MethodName} {bytes : ByteArray} {mx : Nat} {rt : Option FieldType} {a : Array Value} {s : State} {m : MethodId} {meth : Method} {c : Code} (h1 : s.methodNamed? y = some m) (h2 : s.vm.method? m = some meth) (h3 : meth.code = some c) (h4 : c.code = bytes)
    (h5 : (c.maxLocals == mx && c.exceptionTable.isEmpty && decide (c.maxStack ≤ mostOperands) && decide (meth.sig.returnType = rt) && !meth.locks && decide (parseMethodDescriptor y.desc = some meth.sig)) = true) : (Jvm.Cond.code y bytes mx rt).before a s = true := by
  simp only [Bool.and_eq_true, beq_iff_eq, Bool.not_eq_true', decide_eq_true_eq] at h5
  obtain ⟨⟨⟨⟨⟨g1, g2⟩, g3⟩, g4⟩, g5⟩, g6⟩ := h5
  simp [Cond.before, Cond.holds, Cond.value, h1, h2, h3, h4, g1, g2, g3, g4, g5, g6]
def isCode : Jvm.Cond → Bool
  | .code _ _ _ _ => true
  | _ => false
theorem all_split {L : List Jvm.Cond} {P : Jvm.Cond → Bool} (h1 : L.all (fun c => isCode c || P c) = true) (h2 : ∀ c ∈ L.filter isCode, P c = true) : L.all P = true := by
  refine List.all_eq_true.mpr fun c hc => ?_
  have h := List.all_eq_true.mp h1 c hc
  rcases Bool.eq_false_or_eq_true (isCode c) with hi | hi
  · exact h2 c (List.mem_filter.mpr ⟨hc, hi⟩)
  · simpa [hi] using h
set_option maxRecDepth 65536 in
theorem w_c0 : (Jvm.Cond.code x code maxLocals ret).before args0 about1 = true := code_word (m := ⟨1, 2⟩) (meth := k1m2) (c := k1c2) (by decide +kernel) rfl rfl rfl (by decide +kernel)
set_option maxRecDepth 65536 in
theorem w_c1 : (Jvm.Cond.code ({ cls := "com/example/ananke/ananke/hash/Fnv1a", name := "hash64", desc := "([BII)J" } : Jvm.MethodName) prog_8_method_3_code (7 : Nat) (Option.some Jvm.ClassFile.FieldType.long)).before args0 about1 = true := code_word (m := ⟨2, 1⟩) (meth := k2m1) (c := k2c1) (by decide +kernel) rfl rfl rfl (by decide +kernel)
set_option maxRecDepth 65536 in
theorem w_c2 : (Jvm.Cond.code ({ cls := "com/example/ananke/ananke/hash/Fnv1aHash64PinLaw", name := "step", desc := "(JB)J" } : Jvm.MethodName) method_2_code (3 : Nat) (Option.some Jvm.ClassFile.FieldType.long)).before args0 about1 = true := code_word (m := ⟨1, 1⟩) (meth := k1m1) (c := k1c1) (by decide +kernel) rfl rfl rfl (by decide +kernel)
def codes1 : List Jvm.Cond := [Jvm.Cond.code x code maxLocals ret, Jvm.Cond.code ({ cls := "com/example/ananke/ananke/hash/Fnv1a", name := "hash64", desc := "([BII)J" } : Jvm.MethodName) prog_8_method_3_code (7 : Nat) (Option.some Jvm.ClassFile.FieldType.long), Jvm.Cond.code ({ cls := "com/example/ananke/ananke/hash/Fnv1aHash64PinLaw", name := "step", desc := "(JB)J" } : Jvm.MethodName) method_2_code (3 : Nat) (Option.some Jvm.ClassFile.FieldType.long)]
set_option maxRecDepth 65536 in
theorem codes_eq : words1.filter isCode = codes1 := rfl
theorem w_codes : ∀ c ∈ words1.filter isCode, c.before args0 about1 = true := by
  rw [codes_eq]
  intro c hc
  simp only [codes1, List.mem_cons, List.not_mem_nil, or_false] at hc
  rcases hc with rfl | rfl | rfl
  · exact w_c0
  · exact w_c1
  · exact w_c2
set_option maxRecDepth 65536 in
theorem w_t1 : words1.all (fun c => isCode c || c.before args0 about1) = true := by decide +kernel
theorem w_tables : (allAtoms (Jvm.Cond.code x code maxLocals ret :: tables_1)).before args0 about1 = true := by
  rw [allAtoms_all]
  show words1.all (fun c => c.before args0 about1) = true
  refine all_split ?_ w_codes
  rw [w_t1]
set_option maxRecDepth 65536 in
theorem w_case : (Jvm.Cond.and given_1 narrow_1).before args0 about1 = true := by decide +kernel
theorem w_applies : (headSpec (Jvm.Cond.code x code maxLocals ret :: tables_1) room_1).applies x e0.platform about1 = true :=
  (Spec.applies_iff w_frames).mpr ⟨w_running, w_runnable, w_alone, w_named, w_hears, w_ripe, w_room, w_tables⟩
theorem atStart : AtStart classFile x code maxLocals ret World_1 tables_1 room_1 Calls_1 rest_1 Pre_1 launch0 p0 e0 about1 theMethod args0 below0 :=
  ⟨lists_1, trivial, launch0.admits_env _ _ _, launch0.least_env, fairChoices_fair.cas, fairChoices_fair.clock, w_frames, w_args, w_heap, w_applies, trivial, trivial, w_case⟩
end start1
theorem witness_1 : WitnessClaimed_1 := ⟨start1.p0, start1.e0, start1.about1, start1.theMethod, start1.args0, start1.below0, start1.atStart⟩
end Jvm.Pilot.@@N@@
