import JvmDerived
import JvmDerived.Pilot.@@N@@Statement
import JvmDerived.Pilot.@@N@@Code
set_option linter.unusedVariables false
set_option linter.unusedSimpArgs false
namespace Jvm.RoadKit
open Sem ClassFile Op Lib Jvm.Stand Jvm.Free Jvm.LawKit
section New
variable {p : Program} {l : Launch} {e : Env} {R : Room} {s : State} {m : MethodId} {args : Array Value} {below : List Frame} {meth : Method} {c : Code} {T : State} {locs : List Loc} {cells slots : Nat}
theorem retI (X : Stand p l e R s m args below meth c T locs cells slots) (hx : p.tables.exec = Jvm.exec) {pc : Nat} {Ls : Array Slot} {z : Int32} {rest : List Value} (hret : meth.sig.returnType = some .int) (hd : decode c.code pc = .ok (.ireturn, 1)) {fs : List Frame}
    (hl : ∀ (f : JFrame) (acts : List Action), f.method = m → f.locked = none → f.entered = [] → (doReturn e (T.setTop f) acts (some (.int z))).1 = T.setFrames fs) : Steps p.tables e below (T.setTop (mkF m pc Ls (.int z :: rest))) (T.setFrames fs) := by
  have hm' : T.vm.method? m = some meth := X.method'
  have hn : narrow .int (.int z) = .int z := rfl
  show Steps p.tables e below (T.setTop { method := m, pc := pc, locals := Ls, stack := _ :: rest, locked := none }) _
  jvm_step X.here [X.here.top, hx, hd, hm', hret, hn]
  first | (intro acts; rw [hl _ acts rfl rfl rfl]) | rw [hl _ _ rfl rfl rfl]
  exact Steps.refl _
end New
end Jvm.RoadKit
namespace Jvm.Pilot.@@N@@
open Jvm Jvm.ClassFile Sem Op Lib Jvm.Free Jvm.Stand Jvm.LawKit Jvm.RoadKit Bundle Jvm.Pilot.@@N@@.Jvm.D
/-! ### the frame of this text: 'Ends': the run from u ends in a return that Q says -/
section OwnFrame
variable {p : Program} {l : Launch} {e : Env} {R : Room} {s : State} {m : MethodId} {args : Array Value} {below : List Frame} {meth : Method} {c : Code} {T : State} {locs : List Loc} {cells slots cs ss : Nat} {Z : State} {a0 : Array Value} {h h' : Heap} {Q : Option Value → Heap → List Loc → Prop} {u u' : State}
def Ends (p : Program) (e : Env) (below : List Frame) (s : State) (cs ss : Nat) (Q : Option Value → Heap → List Loc → Prop) (u : State) : Prop :=
  ∃ t v L, Steps p.tables e below u t ∧ t.status = .running ∧ Ended t below (.returned v) ∧ Q v t.heap L ∧ s.WarmedH t.vm ∧ s.sameButNew ({ t with vm := s.vm } : State) L cs ss
theorem Ends.step (h : Ends p e below s cs ss Q u') (k : ∀ t, Steps p.tables e below u' t → Steps p.tables e below u t) : Ends p e below s cs ss Q u := by
  obtain ⟨t, v, L, h1, r⟩ := h; exact ⟨t, v, L, k t h1, r⟩
theorem Ends.ret (X : Stand p l e R s m args below meth c T locs cells slots) {v : Option Value} (hv : meth.sig.returnType = none → v = none) (hlk : meth.locks = false)
    (k : ∀ fs, (∀ (f : JFrame) (acts : List Action), f.method = m → f.locked = none → f.entered = [] → (doReturn e (T.setTop f) acts v).1 = T.setFrames fs) → Steps p.tables e below u (T.setFrames fs))
    (hc : cells ≤ cs) (hs : slots ≤ ss) (hq : Q v T.heap locs) : Ends p e below s cs ss Q u := by
  obtain ⟨fs, hr, hrun, hended, hW, hsame⟩ := X.leave (v := v) hv hlk
  exact ⟨T.setFrames fs, v, locs, k fs hr, hrun, hended, hq, hW, hsame.mono hc hs⟩
/-- what a body promises -/
abbrev Meets (l : Launch) (Z : State) (y : MethodName) (bytes : ByteArray) (maxL : Nat) (ret : Option FieldType) (ws : List Jvm.Cond) (rm : Room) (as' : Array Value) (h : Heap) (Q : Option Value → Heap → List Loc → Prop) (cs ss : Nat) : Prop :=
  MetFree l y (head1 (Jvm.Cond.code y bytes maxL ret :: ws) rm) (fun a U => a = as' ∧ Z.Warmed39 U.vm ∧ U.heap = h) (fun _ _ _ _ _ => True) (fun _ U o U' => ∃ v L, o = .returned v ∧ Q v U'.heap L ∧ FrameEnd U o U' L cs ss)
theorem Meets.of {y : MethodName} {bytes : ByteArray} {maxL : Nat} {ret : Option FieldType} {ws : List Jvm.Cond} {rm : Room} {as' : Array Value} (pn : plainFor y = true)
    (k : ∀ (p : Program) (e : Env) (s : State) (m : MethodId) (below : List Frame) (meth : Method) (c : Code) (s₁ : State), p.tables.exec = Jvm.exec → c.code = bytes → c.maxLocals = maxL → Z.Warmed39 s.vm → s.vm.findClass y.cls = some m.cls → meth.name = y.name → meth.sig.returnType = ret → meth.locks = false →
      Stand p l e rm s m as' below meth c s₁ [] 0 0 → s₁.heap = h → Ends p e below s cs ss Q (s₁.setTop (entryFrame m as' maxL))) : Meets l Z y bytes maxL ret ws rm as' h Q cs ss := by
  refine MetFree.of_bodySF pn hisR ?_
  intro p e s m args below meth c s₁ Bd hml0 hP hK
  obtain ⟨rfl, hZ, hh⟩ := hP
  obtain ⟨t, v, L, h1, h2, h3, h4, h5, h6⟩ := k p e s m below meth c s₁ Bd.exec Bd.bytes hml0 hZ (findClass_of_methodNamed Bd.named) (name_of_methodNamed Bd.named Bd.method).1 Bd.returns (BodyLoose.notSynchronized Bd) (Stand.of_body Bd) (by rw [← hh, Bd.state]; rfl)
  exact ⟨t, .returned v, h1, h2, h3, v, L, rfl, h4, ⟨_, rfl⟩, h5, h6⟩
theorem Ends.callS (X : Stand p l e R s m args below meth c T locs cells slots) (hx : p.tables.exec = Jvm.exec) (hZ : Z.Warmed39 s.vm) {own : String} {index : Nat} {y : MethodName} {bytes : ByteArray} {maxL : Nat} {ret : Option FieldType}
    (hown : s.vm.findClass own = some m.cls) (w1 : (Jvm.Cond.methodLink own index y).before a0 Z = true) (w2 : (Jvm.Cond.static y).before a0 Z = true) (w3 : (Jvm.Cond.initialized y.cls).before a0 Z = true) (w4 : (Jvm.Cond.code y bytes maxL ret).before a0 Z = true)
    (hy : y.cls ≠ "java/lang/invoke/MethodHandle" ∧ y.cls ≠ "java/lang/invoke/VarHandle") {rm : Room} {as' : Array Value} {Q' : Option Value → Heap → List Loc → Prop} (hM : Meets l Z y bytes maxL ret [] rm as' h Q' rm.cells rm.slots)
    (W : Nat) (hf : rm.frames + 1 ≤ R.frames) (hl : W + (maxL + 11) + rm.locals ≤ R.locals) (eT : T.heap = h) {g : JFrame} (hg : g.method = m) (hsize : g.locals.size = c.maxLocals) (argsL rest : List Value)
    (hlen : ∀ sig, parseMethodDescriptor y.desc = some sig → argsL.length = sig.parameters.length) (hstack : g.stack = argsL.reverse ++ rest) (hW : 2 * g.monitorRoom + (rest.map fun v => v.category).sum ≤ W) (hdg : decode c.code g.pc = .ok (.invokestatic index, 3))
    (ha : argsL.toArray = as') (hc : cells + rm.cells ≤ R.cells) (hs : slots + rm.slots ≤ R.slots)
    (k : ∀ v T' L, Stand p l e R s m args below meth c T' (locs ++ L) (cells + rm.cells) (slots + rm.slots) → Q' v T'.heap L → Ends p e below s cs ss Q (T'.setTop { g with pc := g.pc + 3, stack := v.toList ++ rest })) : Ends p e below s cs ss Q (T.setTop g) := by
  obtain ⟨v, _, ⟨T', L', k', n'⟩, -, X', ⟨Lc, hQ, rfl, rfl, rfl⟩, st⟩ := Jvm.LawKit.callS X hx (y := y) hown (mvT hZ w1) (mvT hZ w2) (mvT hZ w3) (mvT hZ w4) hy (backOf (W := W) hM hZ w4 w3 hf hl) hg hsize (argsL := argsL) (rest := rest) hlen hstack hW hdg (fun _ _ => ⟨ha, eT, hc, hs⟩)
  exact (k v T' Lc X' hQ).step st
theorem Ends.callC (X : Stand p l e R s m args below meth c T locs cells slots) (hx : p.tables.exec = Jvm.exec) (hZ : Z.Warmed39 s.vm) {own : String} {index : Nat} {y : MethodName} {bytes : ByteArray} {maxL : Nat} (hy1 : y.name = "<init>")
    (hown : s.vm.findClass own = some m.cls) (w1 : (Jvm.Cond.methodLink own index y).before a0 Z = true) (w2 : (Jvm.Cond.instanceMethod y).before a0 Z = true) (w3 : (Jvm.Cond.initialized y.cls).before a0 Z = true) (w4 : (Jvm.Cond.code y bytes maxL none).before a0 Z = true)
    (hy : y.cls ≠ "java/lang/invoke/MethodHandle" ∧ y.cls ≠ "java/lang/invoke/VarHandle") {rm : Room} {as' : Array Value} {Q' : Option Value → Heap → List Loc → Prop} (hM : Meets l Z y bytes maxL none [] rm as' h Q' rm.cells rm.slots)
    (W : Nat) (hf : rm.frames + 1 ≤ R.frames) (hl : W + (maxL + 11) + rm.locals ≤ R.locals) (eT : T.heap = h) {g : JFrame} (hg : g.method = m) (hsize : g.locals.size = c.maxLocals) (a : Addr) (argsL rest : List Value)
    (hlen : ∀ sig, parseMethodDescriptor y.desc = some sig → argsL.length = sig.parameters.length) (hstack : g.stack = argsL.reverse ++ .ref a :: rest) (hW : 2 * g.monitorRoom + (rest.map fun v => v.category).sum ≤ W) (hdg : decode c.code g.pc = .ok (.invokespecial index, 3))
    (ha : (.ref a :: argsL).toArray = as') (hc : cells + rm.cells ≤ R.cells) (hs : slots + rm.slots ≤ R.slots)
    (k : ∀ v T' L, Stand p l e R s m args below meth c T' (locs ++ L) (cells + rm.cells) (slots + rm.slots) → Q' v T'.heap L → Ends p e below s cs ss Q (T'.setTop { g with pc := g.pc + 3, stack := v.toList ++ rest })) : Ends p e below s cs ss Q (T.setTop g) := by
  obtain ⟨v, _, ⟨T', L', k', n'⟩, -, X', ⟨Lc, hQ, rfl, rfl, rfl⟩, st⟩ := X.specialBack hx (y := y) hy1 hown (mvT hZ w1) (mvT hZ w2) (mvT hZ w4) hy (backOf (W := W) hM hZ w4 w3 hf hl) hg hsize (Steps.refl _) (a := a) (argsL := argsL) (rest := rest) hlen hstack hW hdg (fun _ _ => ⟨ha, eT, hc, hs⟩)
  exact (k v T' Lc X' hQ).step (fun _ q => st.trans q)
theorem Ends.callV (X : Stand p l e R s m args below meth c T locs cells slots) (hx : p.tables.exec = Jvm.exec) (hZ : Z.Warmed39 s.vm) {own C : String} {index : Nat} {y : MethodName} {bytes : ByteArray} {maxL : Nat} {ret : Option FieldType}
    (hown : s.vm.findClass own = some m.cls) (w1 : (Jvm.Cond.methodLink own index y).before a0 Z = true) (wd : (Jvm.Cond.declares y).before a0 Z = true) (wsel : (Jvm.Cond.selects C y y).before a0 Z = true) (w2 : (Jvm.Cond.instanceMethod y).before a0 Z = true) (w3 : (Jvm.Cond.initialized y.cls).before a0 Z = true) (w4 : (Jvm.Cond.code y bytes maxL ret).before a0 Z = true)
    (hy : y.cls ≠ "java/lang/invoke/MethodHandle" ∧ y.cls ≠ "java/lang/invoke/VarHandle") {rm : Room} {as' : Array Value} {Q' : Option Value → Heap → List Loc → Prop} (hM : Meets l Z y bytes maxL ret [] rm as' h Q' rm.cells rm.slots)
    (W : Nat) (hf : rm.frames + 1 ≤ R.frames) (hl : W + (maxL + 11) + rm.locals ≤ R.locals) (eT : T.heap = h) (a : Addr) (E : Exa Z h a C) {g : JFrame} (hg : g.method = m) (hsize : g.locals.size = c.maxLocals) (argsL rest : List Value)
    (hlen : ∀ sig, parseMethodDescriptor y.desc = some sig → argsL.length = sig.parameters.length) (hstack : g.stack = argsL.reverse ++ .ref a :: rest) (hW : 2 * g.monitorRoom + (rest.map fun v => v.category).sum ≤ W) (hdg : decode c.code g.pc = .ok (.invokevirtual index, 3))
    (ha : (.ref a :: argsL).toArray = as') (hc : cells + rm.cells ≤ R.cells) (hs : slots + rm.slots ≤ R.slots)
    (k : ∀ v T' L, Stand p l e R s m args below meth c T' (locs ++ L) (cells + rm.cells) (slots + rm.slots) → Q' v T'.heap L → Ends p e below s cs ss Q (T'.setTop { g with pc := g.pc + 3, stack := v.toList ++ rest })) : Ends p e below s cs ss Q (T.setTop g) := by
  obtain ⟨cq, kq, q1, q2, q3⟩ := isOf (T := T) hZ eT E
  obtain ⟨v, _, ⟨T', L', k', n'⟩, -, X', ⟨Lc, hQ, rfl, rfl, rfl⟩, st⟩ := X.virtualBack hx (y := y) (z := y) hown (mvT hZ w1) (mvT hZ wd) (notFace_of_selects (args := #[]) (mvT hZ wsel)) (mvT hZ wsel) (mvT hZ w2) hy (backOf (W := W) hM hZ w4 w3 hf hl) q1 q3 hg hsize (Steps.refl _) (argsL := argsL) (rest := rest) hlen hstack hW hdg (fun _ _ => ⟨ha, eT, hc, hs⟩)
  exact (k v T' Lc X' hQ).step (fun _ q => st.trans q)
/-! ### arrays of small numbers: what each place holds, as a function -/
def Ar (Z : State) (h : Heap) (a : Addr) (ty : FieldType) (n : Nat) (f : Nat → Int32) : Prop := ∃ cl : Cell, Arr Z h a cl ty ∧ cl.slots.size = n ∧ n < 2 ^ 31 ∧ ∀ i, i < n → cl.slots[i]? = some (.int (f i))
def upd (f : Nat → Int32) (j : Nat) (v : Int32) : Nat → Int32 := fun i => if i = j then v else f i
def inb (j : Int32) (n : Nat) : Prop := ¬ (j < 0 ∨ n ≤ j.toNatClampNeg)
variable {a b : Addr} {ty : FieldType} {n sl : Nat} {f : Nat → Int32} {v : Value} {wsA : List Addr}
theorem Ar.lt (A : Ar Z h a ty n f) : a < h.size := by obtain ⟨cl, A1, -⟩ := A; exact A1.lt
theorem Ar.ext (A : Ar Z h a ty n f) (E : Ext h h') : Ar Z h' a ty n f := by obtain ⟨cl, A1, r⟩ := A; exact ⟨cl, A1.ext E, r⟩
theorem Ar.other (A : Ar Z h b ty n f) (W : Wr h h' a sl v) (q : b ≠ a) : Ar Z h' b ty n f := by obtain ⟨cl, A1, r⟩ := A; exact ⟨cl, A1.other W q, r⟩
theorem Ar.keep (A : Ar Z h a ty n f) (K : Keep h h' wsA) (q : a ∉ wsA) : Ar Z h' a ty n f := by obtain ⟨cl, A1, r⟩ := A; exact ⟨cl, ⟨K.2.1 a cl A1.1 q, A1.2⟩, r⟩
theorem Ar.small (A : Ar Z h a ty n f) : n < 2 ^ 31 := by obtain ⟨cl, A1, -, r, -⟩ := A; exact r
theorem Ar.set {j : Int32} {x : Int32} (A : Ar Z h a ty n f) (W : Wr h h' a j.toNatClampNeg (.int x)) : Ar Z h' a ty n (upd f j.toNatClampNeg x) := by
  obtain ⟨cl, A1, r1, r2, r3⟩ := A
  refine ⟨_, A1.same W, by rw [sz_set]; exact r1, r2, fun i hi => ?_⟩
  by_cases q : i = j.toNatClampNeg
  · subst q; simp [Cell.setSlot, upd, r1, hi]
  · simp only [Cell.setSlot, upd, if_neg q]; rw [Array.getElem?_setIfInBounds_ne (fun z => q z.symm)]; exact r3 i hi
theorem Ar.new {cA : ClassId} {k : Int32} (A : Arr Z h a (newA cA ty k) ty) (q : ¬ k < 0) (hd : defaultValue ty = .int 0) : Ar Z h a ty k.toNatClampNeg (fun _ => 0) :=
  ⟨_, A, sz_new _ _ _, (back32 q).2, fun i hi => by simp [newA, hi, hd]⟩
theorem Ends.newA (X : Stand p l e R s m args below meth c T locs cells slots) (hx : p.tables.exec = Jvm.exec) (hZ : Z.Warmed39 s.vm) {aty : ArrayType} (w : (Jvm.Cond.arrayClass (newarray.typeOf aty)).before a0 Z = true) (eT : T.heap = h) {g : JFrame} (hg : g.method = m) (hd : decode c.code g.pc = .ok (.newarray aty, 2)) {k : Int32} {rest : List Value} (hs : g.stack = .int k :: rest)
    (hdf : defaultValue (newarray.typeOf aty) = .int 0) (hn : ¬ k < 0) (cap : Nat) (hcap : k.toNatClampNeg ≤ cap) (hb : cap * 8 ≤ 536870912) (hc : cells + 1 ≤ R.cells) (hl : slots + cap ≤ R.slots)
    (kk : ∀ T' h' a, Stand p l e R s m args below meth c T' locs (cells + 1) (slots + cap) → T'.heap = h' → Ext h h' → h.size = a → Ar Z h' a (newarray.typeOf aty) k.toNatClampNeg (fun _ => 0) → Ends p e below s cs ss Q (T'.setTop { g with pc := g.pc + 2, stack := .ref a :: rest })) : Ends p e below s cs ss Q (T.setTop g) := by
  obtain ⟨T', h', cA, X', e', E, A, st⟩ := newP X hx hZ w eT hg hd hs hn hcap hb hc hl
  exact (kk T' h' h.size X' e' E rfl (Ar.new A hn hdf)).step st
theorem Ends.iaload (X : Stand p l e R s m args below meth c T locs cells slots) (hx : p.tables.exec = Jvm.exec) (hZ : Z.Warmed39 s.vm) (eT : T.heap = h) (A : Ar Z h a .int n f) {j : Int32} (hj : inb j n) {g : JFrame} (hg : g.method = m) {rest : List Value} (hs : g.stack = .int j :: .ref a :: rest) (hd : decode c.code g.pc = .ok (.iaload, 1))
    (k : Ends p e below s cs ss Q (T.setTop { g with pc := g.pc + 1, stack := .int (f j.toNatClampNeg) :: rest })) : Ends p e below s cs ss Q (T.setTop g) := by
  obtain ⟨cl, A1, r1, -, r3⟩ := A
  subst r1
  exact k.step (X.iaload hx (by rw [eT]; exact A1.1) (State.isArrayOf_alike hZ.alike A1.2.1) A1.2.2 hj (r3 _ (Nat.lt_of_not_le fun q => hj (Or.inr q))) hg hs hd)
theorem Ends.baload (X : Stand p l e R s m args below meth c T locs cells slots) (hx : p.tables.exec = Jvm.exec) (hZ : Z.Warmed39 s.vm) (eT : T.heap = h) (A : Ar Z h a .byte n f) {j : Int32} (hj : inb j n) {g : JFrame} (hg : g.method = m) {rest : List Value} (hs : g.stack = .int j :: .ref a :: rest) (hd : decode c.code g.pc = .ok (.baload, 1))
    (k : Ends p e below s cs ss Q (T.setTop { g with pc := g.pc + 1, stack := .int (f j.toNatClampNeg) :: rest })) : Ends p e below s cs ss Q (T.setTop g) := by
  obtain ⟨cl, A1, r1, -, r3⟩ := A
  subst r1
  exact k.step (X.baloadBytes hx (by rw [eT]; exact A1.1) (State.isArrayOf_alike hZ.alike A1.2.1) A1.2.2 hj (r3 _ (Nat.lt_of_not_le fun q => hj (Or.inr q))) hg hs hd)
theorem Ends.arrlen (X : Stand p l e R s m args below meth c T locs cells slots) (hx : p.tables.exec = Jvm.exec) (hZ : Z.Warmed39 s.vm) (eT : T.heap = h) (A : Ar Z h a ty n f) {g : JFrame} (hg : g.method = m) {rest : List Value} (hs : g.stack = .ref a :: rest) (hd : decode c.code g.pc = .ok (.arraylength, 1))
    (k : Ends p e below s cs ss Q (T.setTop { g with pc := g.pc + 1, stack := .int (Nat.toInt32 n) :: rest })) : Ends p e below s cs ss Q (T.setTop g) := by
  obtain ⟨cl, A1, r1, -, r3⟩ := A
  subst r1
  exact k.step (X.arraylength hx (by rw [eT]; exact A1.1) (State.isArrayOf_alike hZ.alike A1.2.1) hg hs hd)
theorem Ends.iastore (X : Stand p l e R s m args below meth c T locs cells slots) (hx : p.tables.exec = Jvm.exec) (hZ : Z.Warmed39 s.vm) (eT : T.heap = h) (A : Ar Z h a .int n f) {j x : Int32} (hj : inb j n) {n0 : Nat} (N : Fr n0 locs) (ge : n0 ≤ a) {g : JFrame} (hg : g.method = m) {rest : List Value} (hs : g.stack = .int x :: .int j :: .ref a :: rest) (hd : decode c.code g.pc = .ok (.iastore, 1))
    (k : ∀ T' h' sl, Stand p l e R s m args below meth c T' (locs ++ [⟨a, sl⟩]) cells slots → T'.heap = h' → Fr n0 (locs ++ [⟨a, sl⟩]) → Wr h h' a sl (.int x) → Ar Z h' a .int n (upd f j.toNatClampNeg x) → Ends p e below s cs ss Q (T'.setTop { g with pc := g.pc + 1, stack := rest })) : Ends p e below s cs ss Q (T.setTop g) := by
  obtain ⟨cl, A1, r1, r2, r3⟩ := A
  obtain ⟨T', h', X', e', W, st⟩ := stI X hx hZ eT A1 (by rw [r1]; exact hj) hg hs hd
  exact (k T' h' _ X' e' (Fr.snoc X' N ge) W (Ar.set ⟨cl, A1, r1, r2, r3⟩ W)).step st
theorem Ends.bastore (X : Stand p l e R s m args below meth c T locs cells slots) (hx : p.tables.exec = Jvm.exec) (hZ : Z.Warmed39 s.vm) (eT : T.heap = h) (A : Ar Z h a .byte n f) {j x : Int32} (hj : inb j n) {n0 : Nat} (N : Fr n0 locs) (ge : n0 ≤ a) {g : JFrame} (hg : g.method = m) {rest : List Value} (hs : g.stack = .int x :: .int j :: .ref a :: rest) (hd : decode c.code g.pc = .ok (.bastore, 1))
    (k : ∀ T' h' sl, Stand p l e R s m args below meth c T' (locs ++ [⟨a, sl⟩]) cells slots → T'.heap = h' → Fr n0 (locs ++ [⟨a, sl⟩]) → Wr h h' a sl (.int (nar .byte x)) → Ar Z h' a .byte n (upd f j.toNatClampNeg (nar .byte x)) → Ends p e below s cs ss Q (T'.setTop { g with pc := g.pc + 1, stack := rest })) : Ends p e below s cs ss Q (T.setTop g) := by
  obtain ⟨cl, A1, r1, r2, r3⟩ := A
  obtain ⟨T', h', X', e', W, st⟩ := stB X hx hZ eT A1 (by rw [r1]; exact hj) hg hs hd
  exact (k T' h' _ X' e' (Fr.snoc X' N ge) W (Ar.set ⟨cl, A1, r1, r2, r3⟩ W)).step st
theorem Ends.getF (X : Stand p l e R s m args below meth c T locs cells slots) (hx : p.tables.exec = Jvm.exec) (hZ : Z.Warmed39 s.vm) {own O fn d : String} {index : Nat} (hown : s.vm.findClass own = some m.cls) (w : (Jvm.Cond.fieldLink own index O fn d).before a0 Z = true) (eT : T.heap = h) (F : Fld Z h a O fn d v) {g : JFrame} (hg : g.method = m) {rest : List Value} (hs : g.stack = .ref a :: rest) (hd : decode c.code g.pc = .ok (.getfield index, 3))
    (k : ∀ T', Stand p l e R s m args below meth c T' locs cells slots → T'.heap = h → Ends p e below s cs ss Q (T'.setTop { g with pc := g.pc + 3, stack := v :: rest })) : Ends p e below s cs ss Q (T.setTop g) := by
  obtain ⟨T', X', e', st⟩ := Jvm.RoadKit.getF X hx hZ hown (host := "") (Or.inl w) Via.refl eT F hg hs hd
  exact (k T' X' e').step st
theorem Ends.putF (X : Stand p l e R s m args below meth c T locs cells slots) (hx : p.tables.exec = Jvm.exec) (hZ : Z.Warmed39 s.vm) {own O fn d : String} {index kk : Nat} {tf : FieldType} {old : Value} (hown : s.vm.findClass own = some m.cls) (w : (Jvm.Cond.fieldLink own index O fn d).before a0 Z = true) (eT : T.heap = h) (F : Fld Z h a O fn d old) (E : Exa Z h a O) (L : (Jvm.Cond.lays O O fn d).before a0 Z = true ∨ ((Jvm.Cond.laysFinal O O fn d).before a0 Z = true ∧ own = O ∧ meth.name = "<init>")) (wi : (Jvm.Cond.instantiable O kk).before a0 Z = true)
    (hty : parseFieldDescriptor d = some tf) (hn : narrow tf v = v) (hf : fits tf v = true) {n0 : Nat} (N : Fr n0 locs) (ge : n0 ≤ a) {g : JFrame} (hg : g.method = m) {rest : List Value} (hs : g.stack = v :: .ref a :: rest) (hd : decode c.code g.pc = .ok (.putfield index, 3))
    (k : ∀ T' h', Stand p l e R s m args below meth c T' (locs ++ [⟨a, Jvm.RoadKit.slotOf Z O fn d⟩]) cells slots → T'.heap = h' → Fr n0 (locs ++ [⟨a, Jvm.RoadKit.slotOf Z O fn d⟩]) → Wr h h' a (Jvm.RoadKit.slotOf Z O fn d) v → Ends p e below s cs ss Q (T'.setTop { g with pc := g.pc + 3, stack := rest })) : Ends p e below s cs ss Q (T.setTop g) := by
  obtain ⟨T', h', X', e', W, st⟩ := Jvm.RoadKit.putF X hx hZ hown (host := "") (Or.inl w) Via.refl eT F E L wi hty hn hf hg hs hd
  exact (k T' h' X' e' (Fr.snoc X' N ge) W).step st
theorem Ends.newO (X : Stand p l e R s m args below meth c T locs cells slots) (hx : p.tables.exec = Jvm.exec) (hZ : Z.Warmed39 s.vm) {own C : String} {index k : Nat} (hown : s.vm.findClass own = some m.cls) (w : (Jvm.Cond.classLink own index C).before a0 Z = true) (wi : (Jvm.Cond.instantiable C k).before a0 Z = true) (wz : (Jvm.Cond.initialized C).before a0 Z = true) (eT : T.heap = h)
    {g : JFrame} (hg : g.method = m) (hd : decode c.code g.pc = .ok (.new index, 3)) (hc : cells + 1 ≤ R.cells) (hl : slots + k ≤ R.slots)
    (kk : ∀ T' h' a, Stand p l e R s m args below meth c T' locs (cells + 1) (slots + k) → T'.heap = h' → Ext h h' → h.size = a → Exa Z h' a C → (∀ {O nm d : String} {ty : FieldType}, Laid Z a0 C O nm d → parseFieldDescriptor d = some ty → Fld Z h' a O nm d (defaultValue ty)) → Ends p e below s cs ss Q (T'.setTop { g with pc := g.pc + 3, stack := .ref a :: g.stack })) : Ends p e below s cs ss Q (T.setTop g) := by
  obtain ⟨T', h', X', e', E, A, D, -, st⟩ := Jvm.RoadKit.newO X hx hZ hown w wi wz eT hg hd hc hl
  exact (kk T' h' _ X' e' E rfl A D).step st
theorem Ends.initO (X : Stand p l e R s m args below meth c T locs cells slots) (hx : p.tables.exec = Jvm.exec) (hZ : Z.Warmed39 s.vm) {own : String} {idx : Nat} (hown : s.vm.findClass own = some m.cls) (w1 : (Jvm.Cond.methodLink own idx Lib.objectInit).before a0 Z = true) (w2 : (Jvm.Cond.instanceMethod Lib.objectInit).before a0 Z = true)
    (w3 : (Jvm.Cond.code Lib.objectInit ⟨#[0xb1]⟩ 1 none).before a0 Z = true) (eT : T.heap = h) {g : JFrame} (hg : g.method = m) (hsize : g.locals.size = c.maxLocals) {rest : List Value} (hs : g.stack = .ref a :: rest) (hd : decode c.code g.pc = .ok (.invokespecial idx, 3))
    (hf : 1 ≤ R.frames) (W : Nat) (hW : 2 * g.monitorRoom + (rest.map fun v => v.category).sum ≤ W) (hl : W + 12 ≤ R.locals)
    (k : ∀ T', Stand p l e R s m args below meth c T' locs cells slots → T'.heap = h → Ends p e below s cs ss Q (T'.setTop { g with pc := g.pc + 3, stack := rest })) : Ends p e below s cs ss Q (T.setTop g) := by
  obtain ⟨T', X', e', st⟩ := Jvm.RoadKit.initO X hx hZ hown w1 w2 w3 eT hg hsize hs hd hf hW hl
  exact (k T' X' e').step st
def OneS (o : Slot) : Prop := o = .unset ∨ ∃ w, o = .val w ∧ w.category = 1
theorem storeL {ls : Array Slot} {i : Nat} {x : Int64} {o o' : Slot} (h1 : ls[i]? = some o) (h2 : ls[i + 1]? = some o') (p1 : OneS o) (p2 : OneS o') : storeLocals ls i (.long x) = some ((ls.setIfInBounds i (.val (.long x))).setIfInBounds (i + 1) .second) := by
  have l1 : i < ls.size := (Array.getElem?_eq_some_iff.mp h1).1
  have l2 : i + 1 < ls.size := (Array.getElem?_eq_some_iff.mp h2).1
  have e2 : (ls.setIfInBounds i (.val (.long x)))[i + 1]? = some o' := by rw [Array.getElem?_setIfInBounds_ne (by omega)]; exact h2
  have q : storeSelf ls i (.long x) = some ((ls.setIfInBounds i (.val (.long x))).setIfInBounds (i + 1) .second) := by
    have cat : (Value.long x).category = 2 := rfl
    simp only [storeSelf, setAt, if_pos l1, cat, if_true, Option.bind_eq_bind, Option.bind_some, e2]
    rcases p2 with rfl | ⟨w, rfl, hw⟩
    · simp [l2]
    · simp [l2, hw]
  simp only [storeLocals, h1, Option.bind_eq_bind, Option.bind_some]
  rcases p1 with rfl | ⟨w, rfl, hw⟩
  · exact q
  · simp only [hw]; exact q
end OwnFrame
-- body 1
def F1_8  : Int32 := (nar .byte (10 : Int32))
def F1_11 (x0 : Int64) (x3 : Int32) : Int32 := (nar .byte (((((XT.ushrL x0 ((8 : Int32) * x3))).toInt32)).toInt8.toInt32))
def F1 (p0 : Int64) (p1 : Int32) (p2 : Int32) : Int32 := if ((XT.ushr p1 p2) &&& (1 : Int32)) = 0 then (F1_11 p0 p2) else F1_8
-- body 2
def F2_12 (n_o0 : Nat) (f_o0 : Nat → Int32) : Int32 := (0 : Int32)
def F2_27 (n_o0 : Nat) (f_o0 : Nat → Int32) : Int32 := (1 : Int32)
def F2_42 (n_o0 : Nat) (f_o0 : Nat → Int32) : Int32 := (2 : Int32)
def F2_57 (n_o0 : Nat) (f_o0 : Nat → Int32) : Int32 := (3 : Int32)
def F2_72 (n_o0 : Nat) (f_o0 : Nat → Int32) : Int32 := (4 : Int32)
def F2_87 (n_o0 : Nat) (f_o0 : Nat → Int32) : Int32 := (5 : Int32)
def F2_104 (n_o0 : Nat) (f_o0 : Nat → Int32) : Int32 := (6 : Int32)
def F2_107 (n_o0 : Nat) (f_o0 : Nat → Int32) : Int32 := (7 : Int32)
def F2_95 (n_o0 : Nat) (f_o0 : Nat → Int32) : Int32 := if (f_o0 ((6 : Int32)).toNatClampNeg) = (10 : Int32) then (F2_104 n_o0 f_o0) else (F2_107 n_o0 f_o0)
def O2_95 (n_o0 : Nat) (f_o0 : Nat → Int32) : Prop := (inb (6 : Int32) n_o0) ∧ ((f_o0 ((6 : Int32)).toNatClampNeg) = (10 : Int32) → True) ∧ (¬ (f_o0 ((6 : Int32)).toNatClampNeg) = (10 : Int32) → True)
def F2_89 (n_o0 : Nat) (f_o0 : Nat → Int32) (x1 : Int32) : Int32 := if (6 : Int32) < x1 then (F2_107 n_o0 f_o0) else (F2_95 n_o0 f_o0)
def O2_89 (n_o0 : Nat) (f_o0 : Nat → Int32) (x1 : Int32) : Prop := ((6 : Int32) < x1 → True) ∧ (¬ (6 : Int32) < x1 → (O2_95 n_o0 f_o0))
def F2_79 (n_o0 : Nat) (f_o0 : Nat → Int32) (x1 : Int32) : Int32 := if (f_o0 ((5 : Int32)).toNatClampNeg) = (10 : Int32) then (F2_87 n_o0 f_o0) else (F2_89 n_o0 f_o0 x1)
def O2_79 (n_o0 : Nat) (f_o0 : Nat → Int32) (x1 : Int32) : Prop := (inb (5 : Int32) n_o0) ∧ ((f_o0 ((5 : Int32)).toNatClampNeg) = (10 : Int32) → True) ∧ (¬ (f_o0 ((5 : Int32)).toNatClampNeg) = (10 : Int32) → (O2_89 n_o0 f_o0 x1))
def F2_74 (n_o0 : Nat) (f_o0 : Nat → Int32) (x1 : Int32) : Int32 := if (5 : Int32) < x1 then (F2_89 n_o0 f_o0 x1) else (F2_79 n_o0 f_o0 x1)
def O2_74 (n_o0 : Nat) (f_o0 : Nat → Int32) (x1 : Int32) : Prop := ((5 : Int32) < x1 → (O2_89 n_o0 f_o0 x1)) ∧ (¬ (5 : Int32) < x1 → (O2_79 n_o0 f_o0 x1))
def F2_64 (n_o0 : Nat) (f_o0 : Nat → Int32) (x1 : Int32) : Int32 := if (f_o0 ((4 : Int32)).toNatClampNeg) = (10 : Int32) then (F2_72 n_o0 f_o0) else (F2_74 n_o0 f_o0 x1)
def O2_64 (n_o0 : Nat) (f_o0 : Nat → Int32) (x1 : Int32) : Prop := (inb (4 : Int32) n_o0) ∧ ((f_o0 ((4 : Int32)).toNatClampNeg) = (10 : Int32) → True) ∧ (¬ (f_o0 ((4 : Int32)).toNatClampNeg) = (10 : Int32) → (O2_74 n_o0 f_o0 x1))
def F2_59 (n_o0 : Nat) (f_o0 : Nat → Int32) (x1 : Int32) : Int32 := if (4 : Int32) < x1 then (F2_74 n_o0 f_o0 x1) else (F2_64 n_o0 f_o0 x1)
def O2_59 (n_o0 : Nat) (f_o0 : Nat → Int32) (x1 : Int32) : Prop := ((4 : Int32) < x1 → (O2_74 n_o0 f_o0 x1)) ∧ (¬ (4 : Int32) < x1 → (O2_64 n_o0 f_o0 x1))
def F2_49 (n_o0 : Nat) (f_o0 : Nat → Int32) (x1 : Int32) : Int32 := if (f_o0 ((3 : Int32)).toNatClampNeg) = (10 : Int32) then (F2_57 n_o0 f_o0) else (F2_59 n_o0 f_o0 x1)
def O2_49 (n_o0 : Nat) (f_o0 : Nat → Int32) (x1 : Int32) : Prop := (inb (3 : Int32) n_o0) ∧ ((f_o0 ((3 : Int32)).toNatClampNeg) = (10 : Int32) → True) ∧ (¬ (f_o0 ((3 : Int32)).toNatClampNeg) = (10 : Int32) → (O2_59 n_o0 f_o0 x1))
def F2_44 (n_o0 : Nat) (f_o0 : Nat → Int32) (x1 : Int32) : Int32 := if (3 : Int32) < x1 then (F2_59 n_o0 f_o0 x1) else (F2_49 n_o0 f_o0 x1)
def O2_44 (n_o0 : Nat) (f_o0 : Nat → Int32) (x1 : Int32) : Prop := ((3 : Int32) < x1 → (O2_59 n_o0 f_o0 x1)) ∧ (¬ (3 : Int32) < x1 → (O2_49 n_o0 f_o0 x1))
def F2_34 (n_o0 : Nat) (f_o0 : Nat → Int32) (x1 : Int32) : Int32 := if (f_o0 ((2 : Int32)).toNatClampNeg) = (10 : Int32) then (F2_42 n_o0 f_o0) else (F2_44 n_o0 f_o0 x1)
def O2_34 (n_o0 : Nat) (f_o0 : Nat → Int32) (x1 : Int32) : Prop := (inb (2 : Int32) n_o0) ∧ ((f_o0 ((2 : Int32)).toNatClampNeg) = (10 : Int32) → True) ∧ (¬ (f_o0 ((2 : Int32)).toNatClampNeg) = (10 : Int32) → (O2_44 n_o0 f_o0 x1))
def F2_29 (n_o0 : Nat) (f_o0 : Nat → Int32) (x1 : Int32) : Int32 := if (2 : Int32) < x1 then (F2_44 n_o0 f_o0 x1) else (F2_34 n_o0 f_o0 x1)
def O2_29 (n_o0 : Nat) (f_o0 : Nat → Int32) (x1 : Int32) : Prop := ((2 : Int32) < x1 → (O2_44 n_o0 f_o0 x1)) ∧ (¬ (2 : Int32) < x1 → (O2_34 n_o0 f_o0 x1))
def F2_19 (n_o0 : Nat) (f_o0 : Nat → Int32) (x1 : Int32) : Int32 := if (f_o0 ((1 : Int32)).toNatClampNeg) = (10 : Int32) then (F2_27 n_o0 f_o0) else (F2_29 n_o0 f_o0 x1)
def O2_19 (n_o0 : Nat) (f_o0 : Nat → Int32) (x1 : Int32) : Prop := (inb (1 : Int32) n_o0) ∧ ((f_o0 ((1 : Int32)).toNatClampNeg) = (10 : Int32) → True) ∧ (¬ (f_o0 ((1 : Int32)).toNatClampNeg) = (10 : Int32) → (O2_29 n_o0 f_o0 x1))
def F2_14 (n_o0 : Nat) (f_o0 : Nat → Int32) (x1 : Int32) : Int32 := if (1 : Int32) < x1 then (F2_29 n_o0 f_o0 x1) else (F2_19 n_o0 f_o0 x1)
def O2_14 (n_o0 : Nat) (f_o0 : Nat → Int32) (x1 : Int32) : Prop := ((1 : Int32) < x1 → (O2_29 n_o0 f_o0 x1)) ∧ (¬ (1 : Int32) < x1 → (O2_19 n_o0 f_o0 x1))
def F2_4 (n_o0 : Nat) (f_o0 : Nat → Int32) (x1 : Int32) : Int32 := if (f_o0 ((0 : Int32)).toNatClampNeg) = (10 : Int32) then (F2_12 n_o0 f_o0) else (F2_14 n_o0 f_o0 x1)
def O2_4 (n_o0 : Nat) (f_o0 : Nat → Int32) (x1 : Int32) : Prop := (inb (0 : Int32) n_o0) ∧ ((f_o0 ((0 : Int32)).toNatClampNeg) = (10 : Int32) → True) ∧ (¬ (f_o0 ((0 : Int32)).toNatClampNeg) = (10 : Int32) → (O2_14 n_o0 f_o0 x1))
def F2 (p1 : Int32) (n_o0 : Nat) (f_o0 : Nat → Int32) : Int32 := if 0 < p1 then (F2_14 n_o0 f_o0 p1) else (F2_4 n_o0 f_o0 p1)
def O2 (p1 : Int32) (n_o0 : Nat) (f_o0 : Nat → Int32) : Prop := (0 < p1 → (O2_14 n_o0 f_o0 p1)) ∧ (¬ 0 < p1 → (O2_4 n_o0 f_o0 p1))
-- body 3
def F3 (p2 : Int32) (o0_count : Int32) (n_o1 : Nat) (f_o1 : Nat → Int32) : Int32 := p2
-- body 5
def F5_19 (K : Nat) (o0_count : Int32) (n_o0_text : Nat) (f_o0_text : Nat → Int32) (x2 : Int32) : Int32 := x2
def F5_13 (K : Nat) (rec : Int32 → Nat → (Nat → Int32) → Int32 → Int32) (o0_count : Int32) (n_o0_text : Nat) (f_o0_text : Nat → Int32) (x2 : Int32) : Int32 := (rec o0_count n_o0_text f_o0_text (x2 + (1 : Int32)))
def O5_13 (K : Nat) (rec : Int32 → Nat → (Nat → Int32) → Int32 → Prop) (o0_count : Int32) (n_o0_text : Nat) (f_o0_text : Nat → Int32) (x2 : Int32) : Prop := (rec o0_count n_o0_text f_o0_text (x2 + (1 : Int32)))
def F5_2 (K : Nat) : Nat → Int32 → Nat → (Nat → Int32) → Int32 → Int32
  | 0, _, _, _, _ => default
  | j + 1, o0_count, n_o0_text, f_o0_text, x2 => if (f_o0_text (x2).toNatClampNeg) = (10 : Int32) then (F5_19 K o0_count n_o0_text f_o0_text x2) else (F5_13 K (F5_2 K j) o0_count n_o0_text f_o0_text x2)
def O5_2 (K : Nat) : Nat → Int32 → Nat → (Nat → Int32) → Int32 → Prop
  | 0, _, _, _, _ => False
  | j + 1, o0_count, n_o0_text, f_o0_text, x2 => (inb x2 n_o0_text) ∧ ((f_o0_text (x2).toNatClampNeg) = (10 : Int32) → True) ∧ (¬ (f_o0_text (x2).toNatClampNeg) = (10 : Int32) → (O5_13 K (O5_2 K j) o0_count n_o0_text f_o0_text x2))
def F5 (K : Nat) (p1 : Int32) (o0_count : Int32) (n_o0_text : Nat) (f_o0_text : Nat → Int32) : Int32 := (F5_2 K K o0_count n_o0_text f_o0_text p1)
def O5 (K : Nat) (p1 : Int32) (o0_count : Int32) (n_o0_text : Nat) (f_o0_text : Nat → Int32) : Prop := (O5_2 K K o0_count n_o0_text f_o0_text p1)
-- body 0
def F0_136 (K : Nat) (t0 : Int32) : Int32 := (nar .boolean t0)
def F0_131 (K : Nat)  : Int32 := (F0_136 K (1 : Int32))
def F0_135 (K : Nat)  : Int32 := (F0_136 K (0 : Int32))
def F0_124 (K : Nat) (x6 : Int32) (x8 : Int32) : Int32 := if x8 = x6 then (F0_131 K) else (F0_135 K)
def F0_103 (K : Nat) (cf_q2 : Nat → Int32) (x5 : Int32) (x6 : Int32) : Int32 := (F0_124 K x6 (F5 K x5 (F3 (1 : Int32) (0 : Int32) 8 cf_q2) 8 cf_q2))
def O0_103 (K : Nat) (cf_q2 : Nat → Int32) (x5 : Int32) (x6 : Int32) : Prop := (O5 K x5 (F3 (1 : Int32) (0 : Int32) 8 cf_q2) 8 cf_q2) ∧ True
def F0_94 (K : Nat) (cf_q2 : Nat → Int32) (x5 : Int32) : Int32 := (F0_103 K cf_q2 x5 (F2 x5 8 cf_q2))
def O0_94 (K : Nat) (cf_q2 : Nat → Int32) (x5 : Int32) : Prop := (O2 x5 8 cf_q2) ∧ (O0_103 K cf_q2 x5 (F2 x5 8 cf_q2))
def F0 (K : Nat) (p0 : Int64) (p1 : Int32) (p2 : Int32) : Int32 := (F0_94 K (upd (upd (upd (upd (upd (upd (upd (upd (fun _ => 0) 0 (nar .byte (F1 p0 p1 (0 : Int32)))) 1 (nar .byte (F1 p0 p1 (1 : Int32)))) 2 (nar .byte (F1 p0 p1 (2 : Int32)))) 3 (nar .byte (F1 p0 p1 (3 : Int32)))) 4 (nar .byte (F1 p0 p1 (4 : Int32)))) 5 (nar .byte (F1 p0 p1 (5 : Int32)))) 6 (nar .byte (F1 p0 p1 (6 : Int32)))) 7 (nar .byte (10 : Int32))) ((p2 &&& (2147483647 : Int32)) % (8 : Int32)))
def O0 (K : Nat) (p0 : Int64) (p1 : Int32) (p2 : Int32) : Prop := (O0_94 K (upd (upd (upd (upd (upd (upd (upd (upd (fun _ => 0) 0 (nar .byte (F1 p0 p1 (0 : Int32)))) 1 (nar .byte (F1 p0 p1 (1 : Int32)))) 2 (nar .byte (F1 p0 p1 (2 : Int32)))) 3 (nar .byte (F1 p0 p1 (3 : Int32)))) 4 (nar .byte (F1 p0 p1 (4 : Int32)))) 5 (nar .byte (F1 p0 p1 (5 : Int32)))) 6 (nar .byte (F1 p0 p1 (6 : Int32)))) 7 (nar .byte (10 : Int32))) ((p2 &&& (2147483647 : Int32)) % (8 : Int32)))
theorem pd_0 : parseMethodDescriptor "(JII)B" = some ⟨[.long, .int, .int], (some .byte)⟩ := by decide +kernel
theorem pd_1 : parseMethodDescriptor "([BI)I" = some ⟨[(.array .byte), .int], (some .int)⟩ := by decide +kernel
theorem pd_2 : parseMethodDescriptor "([BI)V" = some ⟨[(.array .byte), .int], none⟩ := by decide +kernel
theorem pd_3 : parseMethodDescriptor "(I)I" = some ⟨[.int], (some .int)⟩ := by decide +kernel
theorem d1_0 : decode method_3_code 0 = .ok (.iload_n 2, 1) := by decide +kernel
theorem d1_1 : decode method_3_code 1 = .ok (.iload_n 3, 1) := by decide +kernel
theorem d1_2 : decode method_3_code 2 = .ok (.iushr, 1) := by decide +kernel
theorem d1_3 : decode method_3_code 3 = .ok (.iconst 1, 1) := by decide +kernel
theorem d1_4 : decode method_3_code 4 = .ok (.iand, 1) := by decide +kernel
theorem d1_5 : decode method_3_code 5 = .ok (.ifCond .eq 6, 3) := by decide +kernel
theorem d1_8 : decode method_3_code 8 = .ok (.bipush 10, 2) := by decide +kernel
theorem d1_10 : decode method_3_code 10 = .ok (.ireturn, 1) := by decide +kernel
theorem d1_11 : decode method_3_code 11 = .ok (.lload_n 0, 1) := by decide +kernel
theorem d1_12 : decode method_3_code 12 = .ok (.bipush 8, 2) := by decide +kernel
theorem d1_14 : decode method_3_code 14 = .ok (.iload_n 3, 1) := by decide +kernel
theorem d1_15 : decode method_3_code 15 = .ok (.imul, 1) := by decide +kernel
theorem d1_16 : decode method_3_code 16 = .ok (.lushr, 1) := by decide +kernel
theorem d1_17 : decode method_3_code 17 = .ok (.l2i, 1) := by decide +kernel
theorem d1_18 : decode method_3_code 18 = .ok (.i2b, 1) := by decide +kernel
theorem d1_19 : decode method_3_code 19 = .ok (.ireturn, 1) := by decide +kernel
theorem pn_1 : plainFor (⟨"com/example/numbersieve/numbersieve/JobLinesEndPinLaw", "pick", "(JII)B"⟩ : MethodName) = true := by first | exact plainFor_of_name (by first | (simp [plainName, overriddenIn]; done) | decide +kernel) | decide +kernel
theorem ef_1 (m : MethodId) (y0 : Int64) (y1 : Int32) (y2 : Int32) : entryFrame m #[(.long y0), (.int y1), (.int y2)] 4 = mkF m 0 #[.val (.long y0), .second, .val (.int y1), .val (.int y2)] [] := by first | (simp [entryFrame, mkF, argsToLocals, Value.category]; done) | rfl
def Q1 (Z : State)   (h0 : Heap) (n0 : Nat) (ans : Int32) (v : Option Value) (h : Heap) (L : List Loc) : Prop := v = some (.int ans) ∧ Fr n0 L ∧ h = h0
set_option maxRecDepth 65536 in
set_option maxHeartbeats 40000000 in
theorem rm1 (l : Launch) (Z : State) (a0 : Array Value) (hw : ∀ d ∈ tables_1, d.before a0 Z = true) (p0 : Int64) (p1 : Int32) (p2 : Int32)  (h0 : Heap) (n0 : Nat) (Z0 : n0 ≤ h0.size)  :
    Meets l Z (⟨"com/example/numbersieve/numbersieve/JobLinesEndPinLaw", "pick", "(JII)B"⟩ : MethodName) method_3_code 4 (some .byte) [] ({ frames := 0, cells := 0, slots := 0, locals := 0 } : Room) #[(.long p0), (.int p1), (.int p2)] h0 (Q1 Z  h0 n0 (F1 p0 p1 p2)) 0 0 := by
  refine Meets.of pn_1 ?_
  intro p e s m below meth c s₁ hx hby hml hZ hown hnm hret hlk X0 e0
  have hml : c.maxLocals = 4 := hml
  have hown : s.vm.findClass "com/example/numbersieve/numbersieve/JobLinesEndPinLaw" = some m.cls := hown
  have N0 := Fr.nil n0
  have b8 : ∀ (T : State) (L : List Loc) (X : Stand p l e ({ frames := 0, cells := 0, slots := 0, locals := 0 } : Room) s m #[(.long p0), (.int p1), (.int p2)] below meth c T L 0 0) (eT : T.heap = h0) (N : Fr n0 L) (z0 : Int64) (d2 : Slot) (od2 : OneS d2) (d3 : Slot) (od3 : OneS d3), Ends p e below s 0 0 (Q1 Z  h0 n0 F1_8) (T.setTop (mkF m 8 #[.val (.long z0), .second, d2, d3] [])) := by
    intro T L X eT N z0 d2 od2 d3 od3
    refine Ends.step (u' := (T.setTop (mkF m 10 #[.val (.long z0), .second, d2, d3] [(.int (10 : Int32))]))) ?_ (fun _ k => XT.bipushV X.here hx rfl (10 : Int32) (hb hby d1_8) rfl k)
    exact Ends.ret X (v := some (.int (nar .byte (10 : Int32)))) (fun q => by rw [hret] at q; cases q) hlk (fun fs hr => retN X hx (t := .byte) hret (by simp) (hb hby d1_10) hr) (by decide) (by decide) ⟨rfl, N, eT⟩
  have b11 : ∀ (T : State) (L : List Loc) (X : Stand p l e ({ frames := 0, cells := 0, slots := 0, locals := 0 } : Room) s m #[(.long p0), (.int p1), (.int p2)] below meth c T L 0 0) (eT : T.heap = h0) (N : Fr n0 L) (x0 : Int64) (x3 : Int32) (d2 : Slot) (od2 : OneS d2), Ends p e below s 0 0 (Q1 Z  h0 n0 (F1_11 x0 x3)) (T.setTop (mkF m 11 #[.val (.long x0), .second, d2, .val (.int x3)] [])) := by
    intro T L X eT N x0 x3 d2 od2
    refine Ends.step (u' := (T.setTop (mkF m 12 #[.val (.long x0), .second, d2, .val (.int x3)] [(.long x0)]))) ?_ (fun _ k => XT.lloadN X.here hx rfl (hb hby d1_11) rfl k)
    refine Ends.step (u' := (T.setTop (mkF m 14 #[.val (.long x0), .second, d2, .val (.int x3)] [(.int (8 : Int32)), (.long x0)]))) ?_ (fun _ k => XT.bipushV X.here hx rfl (8 : Int32) (hb hby d1_12) rfl k)
    refine Ends.step (u' := (T.setTop (mkF m 15 #[.val (.long x0), .second, d2, .val (.int x3)] [(.int x3), (.int (8 : Int32)), (.long x0)]))) ?_ (fun _ k => XS.iloadN X.here hx rfl (hb hby d1_14) rfl k)
    refine Ends.step (u' := (T.setTop (mkF m 16 #[.val (.long x0), .second, d2, .val (.int x3)] [(.int ((8 : Int32) * x3)), (.long x0)]))) ?_ (fun _ k => XS.imul X.here hx rfl (hb hby d1_15) rfl k)
    refine Ends.step (u' := (T.setTop (mkF m 17 #[.val (.long x0), .second, d2, .val (.int x3)] [(.long (XT.ushrL x0 ((8 : Int32) * x3)))]))) ?_ (fun _ k => XT.lushr X.here hx rfl (hb hby d1_16) rfl k)
    refine Ends.step (u' := (T.setTop (mkF m 18 #[.val (.long x0), .second, d2, .val (.int x3)] [(.int (((XT.ushrL x0 ((8 : Int32) * x3))).toInt32))]))) ?_ (fun _ k => XT.l2i X.here hx rfl (hb hby d1_17) rfl k)
    refine Ends.step (u' := (T.setTop (mkF m 19 #[.val (.long x0), .second, d2, .val (.int x3)] [(.int (((((XT.ushrL x0 ((8 : Int32) * x3))).toInt32)).toInt8.toInt32))]))) ?_ (fun _ k => XT.i2b X.here hx rfl (hb hby d1_18) rfl k)
    exact Ends.ret X (v := some (.int (nar .byte (((((XT.ushrL x0 ((8 : Int32) * x3))).toInt32)).toInt8.toInt32)))) (fun q => by rw [hret] at q; cases q) hlk (fun fs hr => retN X hx (t := .byte) hret (by simp) (hb hby d1_19) hr) (by decide) (by decide) ⟨rfl, N, eT⟩
  refine Ends.step (u' := (s₁.setTop (mkF m 0 #[.val (.long p0), .second, .val (.int p1), .val (.int p2)] []))) ?_ (fun _ k => castTop (ef_1 m p0 p1 p2) k)
  refine Ends.step (u' := (s₁.setTop (mkF m 1 #[.val (.long p0), .second, .val (.int p1), .val (.int p2)] [(.int p1)]))) ?_ (fun _ k => XS.iloadN X0.here hx rfl (hb hby d1_0) rfl k)
  refine Ends.step (u' := (s₁.setTop (mkF m 2 #[.val (.long p0), .second, .val (.int p1), .val (.int p2)] [(.int p2), (.int p1)]))) ?_ (fun _ k => XS.iloadN X0.here hx rfl (hb hby d1_1) rfl k)
  refine Ends.step (u' := (s₁.setTop (mkF m 3 #[.val (.long p0), .second, .val (.int p1), .val (.int p2)] [(.int (XT.ushr p1 p2))]))) ?_ (fun _ k => XT.iushr X0.here hx rfl (hb hby d1_2) rfl k)
  refine Ends.step (u' := (s₁.setTop (mkF m 4 #[.val (.long p0), .second, .val (.int p1), .val (.int p2)] [(.int (1 : Int32)), (.int (XT.ushr p1 p2))]))) ?_ (fun _ k => XT.iconstV X0.here hx rfl (1 : Int32) (hb hby d1_3) rfl k)
  refine Ends.step (u' := (s₁.setTop (mkF m 5 #[.val (.long p0), .second, .val (.int p1), .val (.int p2)] [(.int ((XT.ushr p1 p2) &&& (1 : Int32)))]))) ?_ (fun _ k => XS.iand X0.here hx rfl (hb hby d1_4) rfl k)
  by_cases hc5 : ((XT.ushr p1 p2) &&& (1 : Int32)) = 0
  · refine Eq.mp (congrArg (fun z => Ends p e below s 0 0 (Q1 Z  h0 n0 z) (s₁.setTop (mkF m 5 #[.val (.long p0), .second, .val (.int p1), .val (.int p2)] [(.int ((XT.ushr p1 p2) &&& (1 : Int32)))]))) (show (F1 p0 p1 p2) = (F1_11 p0 p2) from (if_pos hc5)).symm) ?_
    refine Ends.step (u' := (s₁.setTop (mkF m 11 #[.val (.long p0), .second, .val (.int p1), .val (.int p2)] []))) ?_ (fun _ k => XS.ifYes X0.here hx rfl (pc0 := 5) (pc' := 11) rfl (hb hby d1_5) rfl (XT.i0_eq_t hc5) (by decide) (by decide) k)
    exact b11 s₁ _ X0 e0 N0 p0 p2 (.val (.int p1)) (Or.inr ⟨_, rfl, rfl⟩)
  · refine Eq.mp (congrArg (fun z => Ends p e below s 0 0 (Q1 Z  h0 n0 z) (s₁.setTop (mkF m 5 #[.val (.long p0), .second, .val (.int p1), .val (.int p2)] [(.int ((XT.ushr p1 p2) &&& (1 : Int32)))]))) (show (F1 p0 p1 p2) = F1_8 from (if_neg hc5)).symm) ?_
    refine Ends.step (u' := (s₁.setTop (mkF m 8 #[.val (.long p0), .second, .val (.int p1), .val (.int p2)] []))) ?_ (fun _ k => XS.ifNo X0.here hx rfl (hb hby d1_5) rfl (XT.i0_eq_f hc5) k)
    exact b8 s₁ _ X0 e0 N0 p0 (.val (.int p1)) (Or.inr ⟨_, rfl, rfl⟩) (.val (.int p2)) (Or.inr ⟨_, rfl, rfl⟩)
theorem d2_0 : decode method_4_code 0 = .ok (.iload_n 1, 1) := by decide +kernel
theorem d2_1 : decode method_4_code 1 = .ok (.ifCond .gt 13, 3) := by decide +kernel
theorem d2_4 : decode method_4_code 4 = .ok (.aload_n 0, 1) := by decide +kernel
theorem d2_5 : decode method_4_code 5 = .ok (.iconst 0, 1) := by decide +kernel
theorem d2_6 : decode method_4_code 6 = .ok (.baload, 1) := by decide +kernel
theorem d2_7 : decode method_4_code 7 = .ok (.bipush 10, 2) := by decide +kernel
theorem d2_9 : decode method_4_code 9 = .ok (.if_icmp .ne 5, 3) := by decide +kernel
theorem d2_12 : decode method_4_code 12 = .ok (.iconst 0, 1) := by decide +kernel
theorem d2_13 : decode method_4_code 13 = .ok (.ireturn, 1) := by decide +kernel
theorem d2_14 : decode method_4_code 14 = .ok (.iload_n 1, 1) := by decide +kernel
theorem d2_15 : decode method_4_code 15 = .ok (.iconst 1, 1) := by decide +kernel
theorem d2_16 : decode method_4_code 16 = .ok (.if_icmp .gt 13, 3) := by decide +kernel
theorem d2_19 : decode method_4_code 19 = .ok (.aload_n 0, 1) := by decide +kernel
theorem d2_20 : decode method_4_code 20 = .ok (.iconst 1, 1) := by decide +kernel
theorem d2_21 : decode method_4_code 21 = .ok (.baload, 1) := by decide +kernel
theorem d2_22 : decode method_4_code 22 = .ok (.bipush 10, 2) := by decide +kernel
theorem d2_24 : decode method_4_code 24 = .ok (.if_icmp .ne 5, 3) := by decide +kernel
theorem d2_27 : decode method_4_code 27 = .ok (.iconst 1, 1) := by decide +kernel
theorem d2_28 : decode method_4_code 28 = .ok (.ireturn, 1) := by decide +kernel
theorem d2_29 : decode method_4_code 29 = .ok (.iload_n 1, 1) := by decide +kernel
theorem d2_30 : decode method_4_code 30 = .ok (.iconst 2, 1) := by decide +kernel
theorem d2_31 : decode method_4_code 31 = .ok (.if_icmp .gt 13, 3) := by decide +kernel
theorem d2_34 : decode method_4_code 34 = .ok (.aload_n 0, 1) := by decide +kernel
theorem d2_35 : decode method_4_code 35 = .ok (.iconst 2, 1) := by decide +kernel
theorem d2_36 : decode method_4_code 36 = .ok (.baload, 1) := by decide +kernel
theorem d2_37 : decode method_4_code 37 = .ok (.bipush 10, 2) := by decide +kernel
theorem d2_39 : decode method_4_code 39 = .ok (.if_icmp .ne 5, 3) := by decide +kernel
theorem d2_42 : decode method_4_code 42 = .ok (.iconst 2, 1) := by decide +kernel
theorem d2_43 : decode method_4_code 43 = .ok (.ireturn, 1) := by decide +kernel
theorem d2_44 : decode method_4_code 44 = .ok (.iload_n 1, 1) := by decide +kernel
theorem d2_45 : decode method_4_code 45 = .ok (.iconst 3, 1) := by decide +kernel
theorem d2_46 : decode method_4_code 46 = .ok (.if_icmp .gt 13, 3) := by decide +kernel
theorem d2_49 : decode method_4_code 49 = .ok (.aload_n 0, 1) := by decide +kernel
theorem d2_50 : decode method_4_code 50 = .ok (.iconst 3, 1) := by decide +kernel
theorem d2_51 : decode method_4_code 51 = .ok (.baload, 1) := by decide +kernel
theorem d2_52 : decode method_4_code 52 = .ok (.bipush 10, 2) := by decide +kernel
theorem d2_54 : decode method_4_code 54 = .ok (.if_icmp .ne 5, 3) := by decide +kernel
theorem d2_57 : decode method_4_code 57 = .ok (.iconst 3, 1) := by decide +kernel
theorem d2_58 : decode method_4_code 58 = .ok (.ireturn, 1) := by decide +kernel
theorem d2_59 : decode method_4_code 59 = .ok (.iload_n 1, 1) := by decide +kernel
theorem d2_60 : decode method_4_code 60 = .ok (.iconst 4, 1) := by decide +kernel
theorem d2_61 : decode method_4_code 61 = .ok (.if_icmp .gt 13, 3) := by decide +kernel
theorem d2_64 : decode method_4_code 64 = .ok (.aload_n 0, 1) := by decide +kernel
theorem d2_65 : decode method_4_code 65 = .ok (.iconst 4, 1) := by decide +kernel
theorem d2_66 : decode method_4_code 66 = .ok (.baload, 1) := by decide +kernel
theorem d2_67 : decode method_4_code 67 = .ok (.bipush 10, 2) := by decide +kernel
theorem d2_69 : decode method_4_code 69 = .ok (.if_icmp .ne 5, 3) := by decide +kernel
theorem d2_72 : decode method_4_code 72 = .ok (.iconst 4, 1) := by decide +kernel
theorem d2_73 : decode method_4_code 73 = .ok (.ireturn, 1) := by decide +kernel
theorem d2_74 : decode method_4_code 74 = .ok (.iload_n 1, 1) := by decide +kernel
theorem d2_75 : decode method_4_code 75 = .ok (.iconst 5, 1) := by decide +kernel
theorem d2_76 : decode method_4_code 76 = .ok (.if_icmp .gt 13, 3) := by decide +kernel
theorem d2_79 : decode method_4_code 79 = .ok (.aload_n 0, 1) := by decide +kernel
theorem d2_80 : decode method_4_code 80 = .ok (.iconst 5, 1) := by decide +kernel
theorem d2_81 : decode method_4_code 81 = .ok (.baload, 1) := by decide +kernel
theorem d2_82 : decode method_4_code 82 = .ok (.bipush 10, 2) := by decide +kernel
theorem d2_84 : decode method_4_code 84 = .ok (.if_icmp .ne 5, 3) := by decide +kernel
theorem d2_87 : decode method_4_code 87 = .ok (.iconst 5, 1) := by decide +kernel
theorem d2_88 : decode method_4_code 88 = .ok (.ireturn, 1) := by decide +kernel
theorem d2_89 : decode method_4_code 89 = .ok (.iload_n 1, 1) := by decide +kernel
theorem d2_90 : decode method_4_code 90 = .ok (.bipush 6, 2) := by decide +kernel
theorem d2_92 : decode method_4_code 92 = .ok (.if_icmp .gt 15, 3) := by decide +kernel
theorem d2_95 : decode method_4_code 95 = .ok (.aload_n 0, 1) := by decide +kernel
theorem d2_96 : decode method_4_code 96 = .ok (.bipush 6, 2) := by decide +kernel
theorem d2_98 : decode method_4_code 98 = .ok (.baload, 1) := by decide +kernel
theorem d2_99 : decode method_4_code 99 = .ok (.bipush 10, 2) := by decide +kernel
theorem d2_101 : decode method_4_code 101 = .ok (.if_icmp .ne 6, 3) := by decide +kernel
theorem d2_104 : decode method_4_code 104 = .ok (.bipush 6, 2) := by decide +kernel
theorem d2_106 : decode method_4_code 106 = .ok (.ireturn, 1) := by decide +kernel
theorem d2_107 : decode method_4_code 107 = .ok (.bipush 7, 2) := by decide +kernel
theorem d2_109 : decode method_4_code 109 = .ok (.ireturn, 1) := by decide +kernel
theorem pn_2 : plainFor (⟨"com/example/numbersieve/numbersieve/JobLinesEndPinLaw", "expected", "([BI)I"⟩ : MethodName) = true := by first | exact plainFor_of_name (by first | (simp [plainName, overriddenIn]; done) | decide +kernel) | decide +kernel
theorem ef_2 (m : MethodId) (y0 : Addr) (y1 : Int32) : entryFrame m #[(.ref y0), (.int y1)] 2 = mkF m 0 #[.val (.ref y0), .val (.int y1)] [] := by first | (simp [entryFrame, mkF, argsToLocals, Value.category]; done) | rfl
def Q2 (Z : State) (a_o0 : Addr) (n_o0 : Nat) (f_o0 : Nat → Int32) (h0 : Heap) (n0 : Nat) (ans : Int32) (v : Option Value) (h : Heap) (L : List Loc) : Prop := v = some (.int ans) ∧ Fr n0 L ∧ h = h0
set_option maxRecDepth 65536 in
set_option maxHeartbeats 40000000 in
theorem rm2 (l : Launch) (Z : State) (a0 : Array Value) (hw : ∀ d ∈ tables_1, d.before a0 Z = true) (p1 : Int32) (n_o0 : Nat) (f_o0 : Nat → Int32) (a_o0 : Addr) (h0 : Heap) (n0 : Nat) (Z0 : n0 ≤ h0.size) (A_o0 : Ar Z h0 a_o0 .byte n_o0 f_o0) (ok : O2 p1 n_o0 f_o0) :
    Meets l Z (⟨"com/example/numbersieve/numbersieve/JobLinesEndPinLaw", "expected", "([BI)I"⟩ : MethodName) method_4_code 2 (some .int) [] ({ frames := 0, cells := 0, slots := 0, locals := 0 } : Room) #[(.ref a_o0), (.int p1)] h0 (Q2 Z a_o0 n_o0 f_o0 h0 n0 (F2 p1 n_o0 f_o0)) 0 0 := by
  refine Meets.of pn_2 ?_
  intro p e s m below meth c s₁ hx hby hml hZ hown hnm hret hlk X0 e0
  have hml : c.maxLocals = 2 := hml
  have hown : s.vm.findClass "com/example/numbersieve/numbersieve/JobLinesEndPinLaw" = some m.cls := hown
  have N0 := Fr.nil n0
  have b12 : ∀ (T : State) (L : List Loc) (X : Stand p l e ({ frames := 0, cells := 0, slots := 0, locals := 0 } : Room) s m #[(.ref a_o0), (.int p1)] below meth c T L 0 0) (eT : T.heap = h0) (N : Fr n0 L) (d0 : Slot) (od0 : OneS d0) (d1 : Slot) (od1 : OneS d1), Ends p e below s 0 0 (Q2 Z a_o0 n_o0 f_o0 h0 n0 (F2_12 n_o0 f_o0)) (T.setTop (mkF m 12 #[d0, d1] [])) := by
    intro T L X eT N d0 od0 d1 od1
    refine Ends.step (u' := (T.setTop (mkF m 13 #[d0, d1] [(.int (0 : Int32))]))) ?_ (fun _ k => XT.iconstV X.here hx rfl (0 : Int32) (hb hby d2_12) rfl k)
    exact Ends.ret X (v := some (.int (0 : Int32))) (fun q => by rw [hret] at q; cases q) hlk (fun fs hr => retI X hx hret (hb hby d2_13) hr) (by decide) (by decide) ⟨rfl, N, eT⟩
  have b27 : ∀ (T : State) (L : List Loc) (X : Stand p l e ({ frames := 0, cells := 0, slots := 0, locals := 0 } : Room) s m #[(.ref a_o0), (.int p1)] below meth c T L 0 0) (eT : T.heap = h0) (N : Fr n0 L) (d0 : Slot) (od0 : OneS d0) (d1 : Slot) (od1 : OneS d1), Ends p e below s 0 0 (Q2 Z a_o0 n_o0 f_o0 h0 n0 (F2_27 n_o0 f_o0)) (T.setTop (mkF m 27 #[d0, d1] [])) := by
    intro T L X eT N d0 od0 d1 od1
    refine Ends.step (u' := (T.setTop (mkF m 28 #[d0, d1] [(.int (1 : Int32))]))) ?_ (fun _ k => XT.iconstV X.here hx rfl (1 : Int32) (hb hby d2_27) rfl k)
    exact Ends.ret X (v := some (.int (1 : Int32))) (fun q => by rw [hret] at q; cases q) hlk (fun fs hr => retI X hx hret (hb hby d2_28) hr) (by decide) (by decide) ⟨rfl, N, eT⟩
  have b42 : ∀ (T : State) (L : List Loc) (X : Stand p l e ({ frames := 0, cells := 0, slots := 0, locals := 0 } : Room) s m #[(.ref a_o0), (.int p1)] below meth c T L 0 0) (eT : T.heap = h0) (N : Fr n0 L) (d0 : Slot) (od0 : OneS d0) (d1 : Slot) (od1 : OneS d1), Ends p e below s 0 0 (Q2 Z a_o0 n_o0 f_o0 h0 n0 (F2_42 n_o0 f_o0)) (T.setTop (mkF m 42 #[d0, d1] [])) := by
    intro T L X eT N d0 od0 d1 od1
    refine Ends.step (u' := (T.setTop (mkF m 43 #[d0, d1] [(.int (2 : Int32))]))) ?_ (fun _ k => XT.iconstV X.here hx rfl (2 : Int32) (hb hby d2_42) rfl k)
    exact Ends.ret X (v := some (.int (2 : Int32))) (fun q => by rw [hret] at q; cases q) hlk (fun fs hr => retI X hx hret (hb hby d2_43) hr) (by decide) (by decide) ⟨rfl, N, eT⟩
  have b57 : ∀ (T : State) (L : List Loc) (X : Stand p l e ({ frames := 0, cells := 0, slots := 0, locals := 0 } : Room) s m #[(.ref a_o0), (.int p1)] below meth c T L 0 0) (eT : T.heap = h0) (N : Fr n0 L) (d0 : Slot) (od0 : OneS d0) (d1 : Slot) (od1 : OneS d1), Ends p e below s 0 0 (Q2 Z a_o0 n_o0 f_o0 h0 n0 (F2_57 n_o0 f_o0)) (T.setTop (mkF m 57 #[d0, d1] [])) := by
    intro T L X eT N d0 od0 d1 od1
    refine Ends.step (u' := (T.setTop (mkF m 58 #[d0, d1] [(.int (3 : Int32))]))) ?_ (fun _ k => XT.iconstV X.here hx rfl (3 : Int32) (hb hby d2_57) rfl k)
    exact Ends.ret X (v := some (.int (3 : Int32))) (fun q => by rw [hret] at q; cases q) hlk (fun fs hr => retI X hx hret (hb hby d2_58) hr) (by decide) (by decide) ⟨rfl, N, eT⟩
  have b72 : ∀ (T : State) (L : List Loc) (X : Stand p l e ({ frames := 0, cells := 0, slots := 0, locals := 0 } : Room) s m #[(.ref a_o0), (.int p1)] below meth c T L 0 0) (eT : T.heap = h0) (N : Fr n0 L) (d0 : Slot) (od0 : OneS d0) (d1 : Slot) (od1 : OneS d1), Ends p e below s 0 0 (Q2 Z a_o0 n_o0 f_o0 h0 n0 (F2_72 n_o0 f_o0)) (T.setTop (mkF m 72 #[d0, d1] [])) := by
    intro T L X eT N d0 od0 d1 od1
    refine Ends.step (u' := (T.setTop (mkF m 73 #[d0, d1] [(.int (4 : Int32))]))) ?_ (fun _ k => XT.iconstV X.here hx rfl (4 : Int32) (hb hby d2_72) rfl k)
    exact Ends.ret X (v := some (.int (4 : Int32))) (fun q => by rw [hret] at q; cases q) hlk (fun fs hr => retI X hx hret (hb hby d2_73) hr) (by decide) (by decide) ⟨rfl, N, eT⟩
  have b87 : ∀ (T : State) (L : List Loc) (X : Stand p l e ({ frames := 0, cells := 0, slots := 0, locals := 0 } : Room) s m #[(.ref a_o0), (.int p1)] below meth c T L 0 0) (eT : T.heap = h0) (N : Fr n0 L) (d0 : Slot) (od0 : OneS d0) (d1 : Slot) (od1 : OneS d1), Ends p e below s 0 0 (Q2 Z a_o0 n_o0 f_o0 h0 n0 (F2_87 n_o0 f_o0)) (T.setTop (mkF m 87 #[d0, d1] [])) := by
    intro T L X eT N d0 od0 d1 od1
    refine Ends.step (u' := (T.setTop (mkF m 88 #[d0, d1] [(.int (5 : Int32))]))) ?_ (fun _ k => XT.iconstV X.here hx rfl (5 : Int32) (hb hby d2_87) rfl k)
    exact Ends.ret X (v := some (.int (5 : Int32))) (fun q => by rw [hret] at q; cases q) hlk (fun fs hr => retI X hx hret (hb hby d2_88) hr) (by decide) (by decide) ⟨rfl, N, eT⟩
  have b104 : ∀ (T : State) (L : List Loc) (X : Stand p l e ({ frames := 0, cells := 0, slots := 0, locals := 0 } : Room) s m #[(.ref a_o0), (.int p1)] below meth c T L 0 0) (eT : T.heap = h0) (N : Fr n0 L) (d0 : Slot) (od0 : OneS d0) (d1 : Slot) (od1 : OneS d1), Ends p e below s 0 0 (Q2 Z a_o0 n_o0 f_o0 h0 n0 (F2_104 n_o0 f_o0)) (T.setTop (mkF m 104 #[d0, d1] [])) := by
    intro T L X eT N d0 od0 d1 od1
    refine Ends.step (u' := (T.setTop (mkF m 106 #[d0, d1] [(.int (6 : Int32))]))) ?_ (fun _ k => XT.bipushV X.here hx rfl (6 : Int32) (hb hby d2_104) rfl k)
    exact Ends.ret X (v := some (.int (6 : Int32))) (fun q => by rw [hret] at q; cases q) hlk (fun fs hr => retI X hx hret (hb hby d2_106) hr) (by decide) (by decide) ⟨rfl, N, eT⟩
  have b107 : ∀ (T : State) (L : List Loc) (X : Stand p l e ({ frames := 0, cells := 0, slots := 0, locals := 0 } : Room) s m #[(.ref a_o0), (.int p1)] below meth c T L 0 0) (eT : T.heap = h0) (N : Fr n0 L) (d0 : Slot) (od0 : OneS d0) (d1 : Slot) (od1 : OneS d1), Ends p e below s 0 0 (Q2 Z a_o0 n_o0 f_o0 h0 n0 (F2_107 n_o0 f_o0)) (T.setTop (mkF m 107 #[d0, d1] [])) := by
    intro T L X eT N d0 od0 d1 od1
    refine Ends.step (u' := (T.setTop (mkF m 109 #[d0, d1] [(.int (7 : Int32))]))) ?_ (fun _ k => XT.bipushV X.here hx rfl (7 : Int32) (hb hby d2_107) rfl k)
    exact Ends.ret X (v := some (.int (7 : Int32))) (fun q => by rw [hret] at q; cases q) hlk (fun fs hr => retI X hx hret (hb hby d2_109) hr) (by decide) (by decide) ⟨rfl, N, eT⟩
  have b95 : ∀ (T : State) (L : List Loc) (X : Stand p l e ({ frames := 0, cells := 0, slots := 0, locals := 0 } : Room) s m #[(.ref a_o0), (.int p1)] below meth c T L 0 0) (eT : T.heap = h0) (N : Fr n0 L) (d1 : Slot) (od1 : OneS d1) (ok : (O2_95 n_o0 f_o0)), Ends p e below s 0 0 (Q2 Z a_o0 n_o0 f_o0 h0 n0 (F2_95 n_o0 f_o0)) (T.setTop (mkF m 95 #[.val (.ref a_o0), d1] [])) := by
    intro T L X eT N d1 od1 ok
    obtain ⟨o1, okt, okf⟩ := ok
    refine Ends.step (u' := (T.setTop (mkF m 96 #[.val (.ref a_o0), d1] [(.ref a_o0)]))) ?_ (fun _ k => XS.aloadN X.here hx rfl (hb hby d2_95) rfl rfl k)
    refine Ends.step (u' := (T.setTop (mkF m 98 #[.val (.ref a_o0), d1] [(.int (6 : Int32)), (.ref a_o0)]))) ?_ (fun _ k => XT.bipushV X.here hx rfl (6 : Int32) (hb hby d2_96) rfl k)
    refine Ends.baload X hx hZ eT A_o0 o1 (g := (mkF m 98 #[.val (.ref a_o0), d1] [(.int (6 : Int32)), (.ref a_o0)])) rfl rfl (hb hby d2_98) ?_
    show Ends p e below s _ _ _ (T.setTop (mkF m 99 #[.val (.ref a_o0), d1] [(.int (f_o0 ((6 : Int32)).toNatClampNeg))]))
    refine Ends.step (u' := (T.setTop (mkF m 101 #[.val (.ref a_o0), d1] [(.int (10 : Int32)), (.int (f_o0 ((6 : Int32)).toNatClampNeg))]))) ?_ (fun _ k => XT.bipushV X.here hx rfl (10 : Int32) (hb hby d2_99) rfl k)
    by_cases hc101 : (f_o0 ((6 : Int32)).toNatClampNeg) = (10 : Int32)
    · refine Eq.mp (congrArg (fun z => Ends p e below s 0 0 (Q2 Z a_o0 n_o0 f_o0 h0 n0 z) (T.setTop (mkF m 101 #[.val (.ref a_o0), d1] [(.int (10 : Int32)), (.int (f_o0 ((6 : Int32)).toNatClampNeg))]))) (show (F2_95 n_o0 f_o0) = (F2_104 n_o0 f_o0) from (if_pos hc101)).symm) ?_
      refine Ends.step (u' := (T.setTop (mkF m 104 #[.val (.ref a_o0), d1] []))) ?_ (fun _ k => XS.icmpNo X.here hx rfl (hb hby d2_101) rfl (XT.ii_ne_f hc101) k)
      exact b104 T _ X eT N (.val (.ref a_o0)) (Or.inr ⟨_, rfl, rfl⟩) (d1) od1
    · refine Eq.mp (congrArg (fun z => Ends p e below s 0 0 (Q2 Z a_o0 n_o0 f_o0 h0 n0 z) (T.setTop (mkF m 101 #[.val (.ref a_o0), d1] [(.int (10 : Int32)), (.int (f_o0 ((6 : Int32)).toNatClampNeg))]))) (show (F2_95 n_o0 f_o0) = (F2_107 n_o0 f_o0) from (if_neg hc101)).symm) ?_
      refine Ends.step (u' := (T.setTop (mkF m 107 #[.val (.ref a_o0), d1] []))) ?_ (fun _ k => XS.icmpYes X.here hx rfl (pc0 := 101) (pc' := 107) rfl (hb hby d2_101) rfl (XT.ii_ne_t hc101) (by decide) (by decide) k)
      exact b107 T _ X eT N (.val (.ref a_o0)) (Or.inr ⟨_, rfl, rfl⟩) (d1) od1
  have b89 : ∀ (T : State) (L : List Loc) (X : Stand p l e ({ frames := 0, cells := 0, slots := 0, locals := 0 } : Room) s m #[(.ref a_o0), (.int p1)] below meth c T L 0 0) (eT : T.heap = h0) (N : Fr n0 L) (x1 : Int32) (ok : (O2_89 n_o0 f_o0 x1)), Ends p e below s 0 0 (Q2 Z a_o0 n_o0 f_o0 h0 n0 (F2_89 n_o0 f_o0 x1)) (T.setTop (mkF m 89 #[.val (.ref a_o0), .val (.int x1)] [])) := by
    intro T L X eT N x1 ok
    obtain ⟨okt, okf⟩ := ok
    refine Ends.step (u' := (T.setTop (mkF m 90 #[.val (.ref a_o0), .val (.int x1)] [(.int x1)]))) ?_ (fun _ k => XS.iloadN X.here hx rfl (hb hby d2_89) rfl k)
    refine Ends.step (u' := (T.setTop (mkF m 92 #[.val (.ref a_o0), .val (.int x1)] [(.int (6 : Int32)), (.int x1)]))) ?_ (fun _ k => XT.bipushV X.here hx rfl (6 : Int32) (hb hby d2_90) rfl k)
    by_cases hc92 : (6 : Int32) < x1
    · refine Eq.mp (congrArg (fun z => Ends p e below s 0 0 (Q2 Z a_o0 n_o0 f_o0 h0 n0 z) (T.setTop (mkF m 92 #[.val (.ref a_o0), .val (.int x1)] [(.int (6 : Int32)), (.int x1)]))) (show (F2_89 n_o0 f_o0 x1) = (F2_107 n_o0 f_o0) from (if_pos hc92)).symm) ?_
      refine Ends.step (u' := (T.setTop (mkF m 107 #[.val (.ref a_o0), .val (.int x1)] []))) ?_ (fun _ k => XS.icmpYes X.here hx rfl (pc0 := 92) (pc' := 107) rfl (hb hby d2_92) rfl (XT.ii_gt_t hc92) (by decide) (by decide) k)
      exact b107 T _ X eT N (.val (.ref a_o0)) (Or.inr ⟨_, rfl, rfl⟩) (.val (.int x1)) (Or.inr ⟨_, rfl, rfl⟩)
    · refine Eq.mp (congrArg (fun z => Ends p e below s 0 0 (Q2 Z a_o0 n_o0 f_o0 h0 n0 z) (T.setTop (mkF m 92 #[.val (.ref a_o0), .val (.int x1)] [(.int (6 : Int32)), (.int x1)]))) (show (F2_89 n_o0 f_o0 x1) = (F2_95 n_o0 f_o0) from (if_neg hc92)).symm) ?_
      refine Ends.step (u' := (T.setTop (mkF m 95 #[.val (.ref a_o0), .val (.int x1)] []))) ?_ (fun _ k => XS.icmpNo X.here hx rfl (hb hby d2_92) rfl (XT.ii_gt_f hc92) k)
      exact b95 T _ X eT N (.val (.int x1)) (Or.inr ⟨_, rfl, rfl⟩) (okf hc92)
  have b79 : ∀ (T : State) (L : List Loc) (X : Stand p l e ({ frames := 0, cells := 0, slots := 0, locals := 0 } : Room) s m #[(.ref a_o0), (.int p1)] below meth c T L 0 0) (eT : T.heap = h0) (N : Fr n0 L) (x1 : Int32) (ok : (O2_79 n_o0 f_o0 x1)), Ends p e below s 0 0 (Q2 Z a_o0 n_o0 f_o0 h0 n0 (F2_79 n_o0 f_o0 x1)) (T.setTop (mkF m 79 #[.val (.ref a_o0), .val (.int x1)] [])) := by
    intro T L X eT N x1 ok
    obtain ⟨o1, okt, okf⟩ := ok
    refine Ends.step (u' := (T.setTop (mkF m 80 #[.val (.ref a_o0), .val (.int x1)] [(.ref a_o0)]))) ?_ (fun _ k => XS.aloadN X.here hx rfl (hb hby d2_79) rfl rfl k)
    refine Ends.step (u' := (T.setTop (mkF m 81 #[.val (.ref a_o0), .val (.int x1)] [(.int (5 : Int32)), (.ref a_o0)]))) ?_ (fun _ k => XT.iconstV X.here hx rfl (5 : Int32) (hb hby d2_80) rfl k)
    refine Ends.baload X hx hZ eT A_o0 o1 (g := (mkF m 81 #[.val (.ref a_o0), .val (.int x1)] [(.int (5 : Int32)), (.ref a_o0)])) rfl rfl (hb hby d2_81) ?_
    show Ends p e below s _ _ _ (T.setTop (mkF m 82 #[.val (.ref a_o0), .val (.int x1)] [(.int (f_o0 ((5 : Int32)).toNatClampNeg))]))
    refine Ends.step (u' := (T.setTop (mkF m 84 #[.val (.ref a_o0), .val (.int x1)] [(.int (10 : Int32)), (.int (f_o0 ((5 : Int32)).toNatClampNeg))]))) ?_ (fun _ k => XT.bipushV X.here hx rfl (10 : Int32) (hb hby d2_82) rfl k)
    by_cases hc84 : (f_o0 ((5 : Int32)).toNatClampNeg) = (10 : Int32)
    · refine Eq.mp (congrArg (fun z => Ends p e below s 0 0 (Q2 Z a_o0 n_o0 f_o0 h0 n0 z) (T.setTop (mkF m 84 #[.val (.ref a_o0), .val (.int x1)] [(.int (10 : Int32)), (.int (f_o0 ((5 : Int32)).toNatClampNeg))]))) (show (F2_79 n_o0 f_o0 x1) = (F2_87 n_o0 f_o0) from (if_pos hc84)).symm) ?_
      refine Ends.step (u' := (T.setTop (mkF m 87 #[.val (.ref a_o0), .val (.int x1)] []))) ?_ (fun _ k => XS.icmpNo X.here hx rfl (hb hby d2_84) rfl (XT.ii_ne_f hc84) k)
      exact b87 T _ X eT N (.val (.ref a_o0)) (Or.inr ⟨_, rfl, rfl⟩) (.val (.int x1)) (Or.inr ⟨_, rfl, rfl⟩)
    · refine Eq.mp (congrArg (fun z => Ends p e below s 0 0 (Q2 Z a_o0 n_o0 f_o0 h0 n0 z) (T.setTop (mkF m 84 #[.val (.ref a_o0), .val (.int x1)] [(.int (10 : Int32)), (.int (f_o0 ((5 : Int32)).toNatClampNeg))]))) (show (F2_79 n_o0 f_o0 x1) = (F2_89 n_o0 f_o0 x1) from (if_neg hc84)).symm) ?_
      refine Ends.step (u' := (T.setTop (mkF m 89 #[.val (.ref a_o0), .val (.int x1)] []))) ?_ (fun _ k => XS.icmpYes X.here hx rfl (pc0 := 84) (pc' := 89) rfl (hb hby d2_84) rfl (XT.ii_ne_t hc84) (by decide) (by decide) k)
      exact b89 T _ X eT N x1 (okf hc84)
  have b74 : ∀ (T : State) (L : List Loc) (X : Stand p l e ({ frames := 0, cells := 0, slots := 0, locals := 0 } : Room) s m #[(.ref a_o0), (.int p1)] below meth c T L 0 0) (eT : T.heap = h0) (N : Fr n0 L) (x1 : Int32) (ok : (O2_74 n_o0 f_o0 x1)), Ends p e below s 0 0 (Q2 Z a_o0 n_o0 f_o0 h0 n0 (F2_74 n_o0 f_o0 x1)) (T.setTop (mkF m 74 #[.val (.ref a_o0), .val (.int x1)] [])) := by
    intro T L X eT N x1 ok
    obtain ⟨okt, okf⟩ := ok
    refine Ends.step (u' := (T.setTop (mkF m 75 #[.val (.ref a_o0), .val (.int x1)] [(.int x1)]))) ?_ (fun _ k => XS.iloadN X.here hx rfl (hb hby d2_74) rfl k)
    refine Ends.step (u' := (T.setTop (mkF m 76 #[.val (.ref a_o0), .val (.int x1)] [(.int (5 : Int32)), (.int x1)]))) ?_ (fun _ k => XT.iconstV X.here hx rfl (5 : Int32) (hb hby d2_75) rfl k)
    by_cases hc76 : (5 : Int32) < x1
    · refine Eq.mp (congrArg (fun z => Ends p e below s 0 0 (Q2 Z a_o0 n_o0 f_o0 h0 n0 z) (T.setTop (mkF m 76 #[.val (.ref a_o0), .val (.int x1)] [(.int (5 : Int32)), (.int x1)]))) (show (F2_74 n_o0 f_o0 x1) = (F2_89 n_o0 f_o0 x1) from (if_pos hc76)).symm) ?_
      refine Ends.step (u' := (T.setTop (mkF m 89 #[.val (.ref a_o0), .val (.int x1)] []))) ?_ (fun _ k => XS.icmpYes X.here hx rfl (pc0 := 76) (pc' := 89) rfl (hb hby d2_76) rfl (XT.ii_gt_t hc76) (by decide) (by decide) k)
      exact b89 T _ X eT N x1 (okt hc76)
    · refine Eq.mp (congrArg (fun z => Ends p e below s 0 0 (Q2 Z a_o0 n_o0 f_o0 h0 n0 z) (T.setTop (mkF m 76 #[.val (.ref a_o0), .val (.int x1)] [(.int (5 : Int32)), (.int x1)]))) (show (F2_74 n_o0 f_o0 x1) = (F2_79 n_o0 f_o0 x1) from (if_neg hc76)).symm) ?_
      refine Ends.step (u' := (T.setTop (mkF m 79 #[.val (.ref a_o0), .val (.int x1)] []))) ?_ (fun _ k => XS.icmpNo X.here hx rfl (hb hby d2_76) rfl (XT.ii_gt_f hc76) k)
      exact b79 T _ X eT N x1 (okf hc76)
  have b64 : ∀ (T : State) (L : List Loc) (X : Stand p l e ({ frames := 0, cells := 0, slots := 0, locals := 0 } : Room) s m #[(.ref a_o0), (.int p1)] below meth c T L 0 0) (eT : T.heap = h0) (N : Fr n0 L) (x1 : Int32) (ok : (O2_64 n_o0 f_o0 x1)), Ends p e below s 0 0 (Q2 Z a_o0 n_o0 f_o0 h0 n0 (F2_64 n_o0 f_o0 x1)) (T.setTop (mkF m 64 #[.val (.ref a_o0), .val (.int x1)] [])) := by
    intro T L X eT N x1 ok
    obtain ⟨o1, okt, okf⟩ := ok
    refine Ends.step (u' := (T.setTop (mkF m 65 #[.val (.ref a_o0), .val (.int x1)] [(.ref a_o0)]))) ?_ (fun _ k => XS.aloadN X.here hx rfl (hb hby d2_64) rfl rfl k)
    refine Ends.step (u' := (T.setTop (mkF m 66 #[.val (.ref a_o0), .val (.int x1)] [(.int (4 : Int32)), (.ref a_o0)]))) ?_ (fun _ k => XT.iconstV X.here hx rfl (4 : Int32) (hb hby d2_65) rfl k)
    refine Ends.baload X hx hZ eT A_o0 o1 (g := (mkF m 66 #[.val (.ref a_o0), .val (.int x1)] [(.int (4 : Int32)), (.ref a_o0)])) rfl rfl (hb hby d2_66) ?_
    show Ends p e below s _ _ _ (T.setTop (mkF m 67 #[.val (.ref a_o0), .val (.int x1)] [(.int (f_o0 ((4 : Int32)).toNatClampNeg))]))
    refine Ends.step (u' := (T.setTop (mkF m 69 #[.val (.ref a_o0), .val (.int x1)] [(.int (10 : Int32)), (.int (f_o0 ((4 : Int32)).toNatClampNeg))]))) ?_ (fun _ k => XT.bipushV X.here hx rfl (10 : Int32) (hb hby d2_67) rfl k)
    by_cases hc69 : (f_o0 ((4 : Int32)).toNatClampNeg) = (10 : Int32)
    · refine Eq.mp (congrArg (fun z => Ends p e below s 0 0 (Q2 Z a_o0 n_o0 f_o0 h0 n0 z) (T.setTop (mkF m 69 #[.val (.ref a_o0), .val (.int x1)] [(.int (10 : Int32)), (.int (f_o0 ((4 : Int32)).toNatClampNeg))]))) (show (F2_64 n_o0 f_o0 x1) = (F2_72 n_o0 f_o0) from (if_pos hc69)).symm) ?_
      refine Ends.step (u' := (T.setTop (mkF m 72 #[.val (.ref a_o0), .val (.int x1)] []))) ?_ (fun _ k => XS.icmpNo X.here hx rfl (hb hby d2_69) rfl (XT.ii_ne_f hc69) k)
      exact b72 T _ X eT N (.val (.ref a_o0)) (Or.inr ⟨_, rfl, rfl⟩) (.val (.int x1)) (Or.inr ⟨_, rfl, rfl⟩)
    · refine Eq.mp (congrArg (fun z => Ends p e below s 0 0 (Q2 Z a_o0 n_o0 f_o0 h0 n0 z) (T.setTop (mkF m 69 #[.val (.ref a_o0), .val (.int x1)] [(.int (10 : Int32)), (.int (f_o0 ((4 : Int32)).toNatClampNeg))]))) (show (F2_64 n_o0 f_o0 x1) = (F2_74 n_o0 f_o0 x1) from (if_neg hc69)).symm) ?_
      refine Ends.step (u' := (T.setTop (mkF m 74 #[.val (.ref a_o0), .val (.int x1)] []))) ?_ (fun _ k => XS.icmpYes X.here hx rfl (pc0 := 69) (pc' := 74) rfl (hb hby d2_69) rfl (XT.ii_ne_t hc69) (by decide) (by decide) k)
      exact b74 T _ X eT N x1 (okf hc69)
  have b59 : ∀ (T : State) (L : List Loc) (X : Stand p l e ({ frames := 0, cells := 0, slots := 0, locals := 0 } : Room) s m #[(.ref a_o0), (.int p1)] below meth c T L 0 0) (eT : T.heap = h0) (N : Fr n0 L) (x1 : Int32) (ok : (O2_59 n_o0 f_o0 x1)), Ends p e below s 0 0 (Q2 Z a_o0 n_o0 f_o0 h0 n0 (F2_59 n_o0 f_o0 x1)) (T.setTop (mkF m 59 #[.val (.ref a_o0), .val (.int x1)] [])) := by
    intro T L X eT N x1 ok
    obtain ⟨okt, okf⟩ := ok
    refine Ends.step (u' := (T.setTop (mkF m 60 #[.val (.ref a_o0), .val (.int x1)] [(.int x1)]))) ?_ (fun _ k => XS.iloadN X.here hx rfl (hb hby d2_59) rfl k)
    refine Ends.step (u' := (T.setTop (mkF m 61 #[.val (.ref a_o0), .val (.int x1)] [(.int (4 : Int32)), (.int x1)]))) ?_ (fun _ k => XT.iconstV X.here hx rfl (4 : Int32) (hb hby d2_60) rfl k)
    by_cases hc61 : (4 : Int32) < x1
    · refine Eq.mp (congrArg (fun z => Ends p e below s 0 0 (Q2 Z a_o0 n_o0 f_o0 h0 n0 z) (T.setTop (mkF m 61 #[.val (.ref a_o0), .val (.int x1)] [(.int (4 : Int32)), (.int x1)]))) (show (F2_59 n_o0 f_o0 x1) = (F2_74 n_o0 f_o0 x1) from (if_pos hc61)).symm) ?_
      refine Ends.step (u' := (T.setTop (mkF m 74 #[.val (.ref a_o0), .val (.int x1)] []))) ?_ (fun _ k => XS.icmpYes X.here hx rfl (pc0 := 61) (pc' := 74) rfl (hb hby d2_61) rfl (XT.ii_gt_t hc61) (by decide) (by decide) k)
      exact b74 T _ X eT N x1 (okt hc61)
    · refine Eq.mp (congrArg (fun z => Ends p e below s 0 0 (Q2 Z a_o0 n_o0 f_o0 h0 n0 z) (T.setTop (mkF m 61 #[.val (.ref a_o0), .val (.int x1)] [(.int (4 : Int32)), (.int x1)]))) (show (F2_59 n_o0 f_o0 x1) = (F2_64 n_o0 f_o0 x1) from (if_neg hc61)).symm) ?_
      refine Ends.step (u' := (T.setTop (mkF m 64 #[.val (.ref a_o0), .val (.int x1)] []))) ?_ (fun _ k => XS.icmpNo X.here hx rfl (hb hby d2_61) rfl (XT.ii_gt_f hc61) k)
      exact b64 T _ X eT N x1 (okf hc61)
  have b49 : ∀ (T : State) (L : List Loc) (X : Stand p l e ({ frames := 0, cells := 0, slots := 0, locals := 0 } : Room) s m #[(.ref a_o0), (.int p1)] below meth c T L 0 0) (eT : T.heap = h0) (N : Fr n0 L) (x1 : Int32) (ok : (O2_49 n_o0 f_o0 x1)), Ends p e below s 0 0 (Q2 Z a_o0 n_o0 f_o0 h0 n0 (F2_49 n_o0 f_o0 x1)) (T.setTop (mkF m 49 #[.val (.ref a_o0), .val (.int x1)] [])) := by
    intro T L X eT N x1 ok
    obtain ⟨o1, okt, okf⟩ := ok
    refine Ends.step (u' := (T.setTop (mkF m 50 #[.val (.ref a_o0), .val (.int x1)] [(.ref a_o0)]))) ?_ (fun _ k => XS.aloadN X.here hx rfl (hb hby d2_49) rfl rfl k)
    refine Ends.step (u' := (T.setTop (mkF m 51 #[.val (.ref a_o0), .val (.int x1)] [(.int (3 : Int32)), (.ref a_o0)]))) ?_ (fun _ k => XT.iconstV X.here hx rfl (3 : Int32) (hb hby d2_50) rfl k)
    refine Ends.baload X hx hZ eT A_o0 o1 (g := (mkF m 51 #[.val (.ref a_o0), .val (.int x1)] [(.int (3 : Int32)), (.ref a_o0)])) rfl rfl (hb hby d2_51) ?_
    show Ends p e below s _ _ _ (T.setTop (mkF m 52 #[.val (.ref a_o0), .val (.int x1)] [(.int (f_o0 ((3 : Int32)).toNatClampNeg))]))
    refine Ends.step (u' := (T.setTop (mkF m 54 #[.val (.ref a_o0), .val (.int x1)] [(.int (10 : Int32)), (.int (f_o0 ((3 : Int32)).toNatClampNeg))]))) ?_ (fun _ k => XT.bipushV X.here hx rfl (10 : Int32) (hb hby d2_52) rfl k)
    by_cases hc54 : (f_o0 ((3 : Int32)).toNatClampNeg) = (10 : Int32)
    · refine Eq.mp (congrArg (fun z => Ends p e below s 0 0 (Q2 Z a_o0 n_o0 f_o0 h0 n0 z) (T.setTop (mkF m 54 #[.val (.ref a_o0), .val (.int x1)] [(.int (10 : Int32)), (.int (f_o0 ((3 : Int32)).toNatClampNeg))]))) (show (F2_49 n_o0 f_o0 x1) = (F2_57 n_o0 f_o0) from (if_pos hc54)).symm) ?_
      refine Ends.step (u' := (T.setTop (mkF m 57 #[.val (.ref a_o0), .val (.int x1)] []))) ?_ (fun _ k => XS.icmpNo X.here hx rfl (hb hby d2_54) rfl (XT.ii_ne_f hc54) k)
      exact b57 T _ X eT N (.val (.ref a_o0)) (Or.inr ⟨_, rfl, rfl⟩) (.val (.int x1)) (Or.inr ⟨_, rfl, rfl⟩)
    · refine Eq.mp (congrArg (fun z => Ends p e below s 0 0 (Q2 Z a_o0 n_o0 f_o0 h0 n0 z) (T.setTop (mkF m 54 #[.val (.ref a_o0), .val (.int x1)] [(.int (10 : Int32)), (.int (f_o0 ((3 : Int32)).toNatClampNeg))]))) (show (F2_49 n_o0 f_o0 x1) = (F2_59 n_o0 f_o0 x1) from (if_neg hc54)).symm) ?_
      refine Ends.step (u' := (T.setTop (mkF m 59 #[.val (.ref a_o0), .val (.int x1)] []))) ?_ (fun _ k => XS.icmpYes X.here hx rfl (pc0 := 54) (pc' := 59) rfl (hb hby d2_54) rfl (XT.ii_ne_t hc54) (by decide) (by decide) k)
      exact b59 T _ X eT N x1 (okf hc54)
  have b44 : ∀ (T : State) (L : List Loc) (X : Stand p l e ({ frames := 0, cells := 0, slots := 0, locals := 0 } : Room) s m #[(.ref a_o0), (.int p1)] below meth c T L 0 0) (eT : T.heap = h0) (N : Fr n0 L) (x1 : Int32) (ok : (O2_44 n_o0 f_o0 x1)), Ends p e below s 0 0 (Q2 Z a_o0 n_o0 f_o0 h0 n0 (F2_44 n_o0 f_o0 x1)) (T.setTop (mkF m 44 #[.val (.ref a_o0), .val (.int x1)] [])) := by
    intro T L X eT N x1 ok
    obtain ⟨okt, okf⟩ := ok
    refine Ends.step (u' := (T.setTop (mkF m 45 #[.val (.ref a_o0), .val (.int x1)] [(.int x1)]))) ?_ (fun _ k => XS.iloadN X.here hx rfl (hb hby d2_44) rfl k)
    refine Ends.step (u' := (T.setTop (mkF m 46 #[.val (.ref a_o0), .val (.int x1)] [(.int (3 : Int32)), (.int x1)]))) ?_ (fun _ k => XT.iconstV X.here hx rfl (3 : Int32) (hb hby d2_45) rfl k)
    by_cases hc46 : (3 : Int32) < x1
    · refine Eq.mp (congrArg (fun z => Ends p e below s 0 0 (Q2 Z a_o0 n_o0 f_o0 h0 n0 z) (T.setTop (mkF m 46 #[.val (.ref a_o0), .val (.int x1)] [(.int (3 : Int32)), (.int x1)]))) (show (F2_44 n_o0 f_o0 x1) = (F2_59 n_o0 f_o0 x1) from (if_pos hc46)).symm) ?_
      refine Ends.step (u' := (T.setTop (mkF m 59 #[.val (.ref a_o0), .val (.int x1)] []))) ?_ (fun _ k => XS.icmpYes X.here hx rfl (pc0 := 46) (pc' := 59) rfl (hb hby d2_46) rfl (XT.ii_gt_t hc46) (by decide) (by decide) k)
      exact b59 T _ X eT N x1 (okt hc46)
    · refine Eq.mp (congrArg (fun z => Ends p e below s 0 0 (Q2 Z a_o0 n_o0 f_o0 h0 n0 z) (T.setTop (mkF m 46 #[.val (.ref a_o0), .val (.int x1)] [(.int (3 : Int32)), (.int x1)]))) (show (F2_44 n_o0 f_o0 x1) = (F2_49 n_o0 f_o0 x1) from (if_neg hc46)).symm) ?_
      refine Ends.step (u' := (T.setTop (mkF m 49 #[.val (.ref a_o0), .val (.int x1)] []))) ?_ (fun _ k => XS.icmpNo X.here hx rfl (hb hby d2_46) rfl (XT.ii_gt_f hc46) k)
      exact b49 T _ X eT N x1 (okf hc46)
  have b34 : ∀ (T : State) (L : List Loc) (X : Stand p l e ({ frames := 0, cells := 0, slots := 0, locals := 0 } : Room) s m #[(.ref a_o0), (.int p1)] below meth c T L 0 0) (eT : T.heap = h0) (N : Fr n0 L) (x1 : Int32) (ok : (O2_34 n_o0 f_o0 x1)), Ends p e below s 0 0 (Q2 Z a_o0 n_o0 f_o0 h0 n0 (F2_34 n_o0 f_o0 x1)) (T.setTop (mkF m 34 #[.val (.ref a_o0), .val (.int x1)] [])) := by
    intro T L X eT N x1 ok
    obtain ⟨o1, okt, okf⟩ := ok
    refine Ends.step (u' := (T.setTop (mkF m 35 #[.val (.ref a_o0), .val (.int x1)] [(.ref a_o0)]))) ?_ (fun _ k => XS.aloadN X.here hx rfl (hb hby d2_34) rfl rfl k)
    refine Ends.step (u' := (T.setTop (mkF m 36 #[.val (.ref a_o0), .val (.int x1)] [(.int (2 : Int32)), (.ref a_o0)]))) ?_ (fun _ k => XT.iconstV X.here hx rfl (2 : Int32) (hb hby d2_35) rfl k)
    refine Ends.baload X hx hZ eT A_o0 o1 (g := (mkF m 36 #[.val (.ref a_o0), .val (.int x1)] [(.int (2 : Int32)), (.ref a_o0)])) rfl rfl (hb hby d2_36) ?_
    show Ends p e below s _ _ _ (T.setTop (mkF m 37 #[.val (.ref a_o0), .val (.int x1)] [(.int (f_o0 ((2 : Int32)).toNatClampNeg))]))
    refine Ends.step (u' := (T.setTop (mkF m 39 #[.val (.ref a_o0), .val (.int x1)] [(.int (10 : Int32)), (.int (f_o0 ((2 : Int32)).toNatClampNeg))]))) ?_ (fun _ k => XT.bipushV X.here hx rfl (10 : Int32) (hb hby d2_37) rfl k)
    by_cases hc39 : (f_o0 ((2 : Int32)).toNatClampNeg) = (10 : Int32)
    · refine Eq.mp (congrArg (fun z => Ends p e below s 0 0 (Q2 Z a_o0 n_o0 f_o0 h0 n0 z) (T.setTop (mkF m 39 #[.val (.ref a_o0), .val (.int x1)] [(.int (10 : Int32)), (.int (f_o0 ((2 : Int32)).toNatClampNeg))]))) (show (F2_34 n_o0 f_o0 x1) = (F2_42 n_o0 f_o0) from (if_pos hc39)).symm) ?_
      refine Ends.step (u' := (T.setTop (mkF m 42 #[.val (.ref a_o0), .val (.int x1)] []))) ?_ (fun _ k => XS.icmpNo X.here hx rfl (hb hby d2_39) rfl (XT.ii_ne_f hc39) k)
      exact b42 T _ X eT N (.val (.ref a_o0)) (Or.inr ⟨_, rfl, rfl⟩) (.val (.int x1)) (Or.inr ⟨_, rfl, rfl⟩)
    · refine Eq.mp (congrArg (fun z => Ends p e below s 0 0 (Q2 Z a_o0 n_o0 f_o0 h0 n0 z) (T.setTop (mkF m 39 #[.val (.ref a_o0), .val (.int x1)] [(.int (10 : Int32)), (.int (f_o0 ((2 : Int32)).toNatClampNeg))]))) (show (F2_34 n_o0 f_o0 x1) = (F2_44 n_o0 f_o0 x1) from (if_neg hc39)).symm) ?_
      refine Ends.step (u' := (T.setTop (mkF m 44 #[.val (.ref a_o0), .val (.int x1)] []))) ?_ (fun _ k => XS.icmpYes X.here hx rfl (pc0 := 39) (pc' := 44) rfl (hb hby d2_39) rfl (XT.ii_ne_t hc39) (by decide) (by decide) k)
      exact b44 T _ X eT N x1 (okf hc39)
  have b29 : ∀ (T : State) (L : List Loc) (X : Stand p l e ({ frames := 0, cells := 0, slots := 0, locals := 0 } : Room) s m #[(.ref a_o0), (.int p1)] below meth c T L 0 0) (eT : T.heap = h0) (N : Fr n0 L) (x1 : Int32) (ok : (O2_29 n_o0 f_o0 x1)), Ends p e below s 0 0 (Q2 Z a_o0 n_o0 f_o0 h0 n0 (F2_29 n_o0 f_o0 x1)) (T.setTop (mkF m 29 #[.val (.ref a_o0), .val (.int x1)] [])) := by
    intro T L X eT N x1 ok
    obtain ⟨okt, okf⟩ := ok
    refine Ends.step (u' := (T.setTop (mkF m 30 #[.val (.ref a_o0), .val (.int x1)] [(.int x1)]))) ?_ (fun _ k => XS.iloadN X.here hx rfl (hb hby d2_29) rfl k)
    refine Ends.step (u' := (T.setTop (mkF m 31 #[.val (.ref a_o0), .val (.int x1)] [(.int (2 : Int32)), (.int x1)]))) ?_ (fun _ k => XT.iconstV X.here hx rfl (2 : Int32) (hb hby d2_30) rfl k)
    by_cases hc31 : (2 : Int32) < x1
    · refine Eq.mp (congrArg (fun z => Ends p e below s 0 0 (Q2 Z a_o0 n_o0 f_o0 h0 n0 z) (T.setTop (mkF m 31 #[.val (.ref a_o0), .val (.int x1)] [(.int (2 : Int32)), (.int x1)]))) (show (F2_29 n_o0 f_o0 x1) = (F2_44 n_o0 f_o0 x1) from (if_pos hc31)).symm) ?_
      refine Ends.step (u' := (T.setTop (mkF m 44 #[.val (.ref a_o0), .val (.int x1)] []))) ?_ (fun _ k => XS.icmpYes X.here hx rfl (pc0 := 31) (pc' := 44) rfl (hb hby d2_31) rfl (XT.ii_gt_t hc31) (by decide) (by decide) k)
      exact b44 T _ X eT N x1 (okt hc31)
    · refine Eq.mp (congrArg (fun z => Ends p e below s 0 0 (Q2 Z a_o0 n_o0 f_o0 h0 n0 z) (T.setTop (mkF m 31 #[.val (.ref a_o0), .val (.int x1)] [(.int (2 : Int32)), (.int x1)]))) (show (F2_29 n_o0 f_o0 x1) = (F2_34 n_o0 f_o0 x1) from (if_neg hc31)).symm) ?_
      refine Ends.step (u' := (T.setTop (mkF m 34 #[.val (.ref a_o0), .val (.int x1)] []))) ?_ (fun _ k => XS.icmpNo X.here hx rfl (hb hby d2_31) rfl (XT.ii_gt_f hc31) k)
      exact b34 T _ X eT N x1 (okf hc31)
  have b19 : ∀ (T : State) (L : List Loc) (X : Stand p l e ({ frames := 0, cells := 0, slots := 0, locals := 0 } : Room) s m #[(.ref a_o0), (.int p1)] below meth c T L 0 0) (eT : T.heap = h0) (N : Fr n0 L) (x1 : Int32) (ok : (O2_19 n_o0 f_o0 x1)), Ends p e below s 0 0 (Q2 Z a_o0 n_o0 f_o0 h0 n0 (F2_19 n_o0 f_o0 x1)) (T.setTop (mkF m 19 #[.val (.ref a_o0), .val (.int x1)] [])) := by
    intro T L X eT N x1 ok
    obtain ⟨o1, okt, okf⟩ := ok
    refine Ends.step (u' := (T.setTop (mkF m 20 #[.val (.ref a_o0), .val (.int x1)] [(.ref a_o0)]))) ?_ (fun _ k => XS.aloadN X.here hx rfl (hb hby d2_19) rfl rfl k)
    refine Ends.step (u' := (T.setTop (mkF m 21 #[.val (.ref a_o0), .val (.int x1)] [(.int (1 : Int32)), (.ref a_o0)]))) ?_ (fun _ k => XT.iconstV X.here hx rfl (1 : Int32) (hb hby d2_20) rfl k)
    refine Ends.baload X hx hZ eT A_o0 o1 (g := (mkF m 21 #[.val (.ref a_o0), .val (.int x1)] [(.int (1 : Int32)), (.ref a_o0)])) rfl rfl (hb hby d2_21) ?_
    show Ends p e below s _ _ _ (T.setTop (mkF m 22 #[.val (.ref a_o0), .val (.int x1)] [(.int (f_o0 ((1 : Int32)).toNatClampNeg))]))
    refine Ends.step (u' := (T.setTop (mkF m 24 #[.val (.ref a_o0), .val (.int x1)] [(.int (10 : Int32)), (.int (f_o0 ((1 : Int32)).toNatClampNeg))]))) ?_ (fun _ k => XT.bipushV X.here hx rfl (10 : Int32) (hb hby d2_22) rfl k)
    by_cases hc24 : (f_o0 ((1 : Int32)).toNatClampNeg) = (10 : Int32)
    · refine Eq.mp (congrArg (fun z => Ends p e below s 0 0 (Q2 Z a_o0 n_o0 f_o0 h0 n0 z) (T.setTop (mkF m 24 #[.val (.ref a_o0), .val (.int x1)] [(.int (10 : Int32)), (.int (f_o0 ((1 : Int32)).toNatClampNeg))]))) (show (F2_19 n_o0 f_o0 x1) = (F2_27 n_o0 f_o0) from (if_pos hc24)).symm) ?_
      refine Ends.step (u' := (T.setTop (mkF m 27 #[.val (.ref a_o0), .val (.int x1)] []))) ?_ (fun _ k => XS.icmpNo X.here hx rfl (hb hby d2_24) rfl (XT.ii_ne_f hc24) k)
      exact b27 T _ X eT N (.val (.ref a_o0)) (Or.inr ⟨_, rfl, rfl⟩) (.val (.int x1)) (Or.inr ⟨_, rfl, rfl⟩)
    · refine Eq.mp (congrArg (fun z => Ends p e below s 0 0 (Q2 Z a_o0 n_o0 f_o0 h0 n0 z) (T.setTop (mkF m 24 #[.val (.ref a_o0), .val (.int x1)] [(.int (10 : Int32)), (.int (f_o0 ((1 : Int32)).toNatClampNeg))]))) (show (F2_19 n_o0 f_o0 x1) = (F2_29 n_o0 f_o0 x1) from (if_neg hc24)).symm) ?_
      refine Ends.step (u' := (T.setTop (mkF m 29 #[.val (.ref a_o0), .val (.int x1)] []))) ?_ (fun _ k => XS.icmpYes X.here hx rfl (pc0 := 24) (pc' := 29) rfl (hb hby d2_24) rfl (XT.ii_ne_t hc24) (by decide) (by decide) k)
      exact b29 T _ X eT N x1 (okf hc24)
  have b14 : ∀ (T : State) (L : List Loc) (X : Stand p l e ({ frames := 0, cells := 0, slots := 0, locals := 0 } : Room) s m #[(.ref a_o0), (.int p1)] below meth c T L 0 0) (eT : T.heap = h0) (N : Fr n0 L) (x1 : Int32) (ok : (O2_14 n_o0 f_o0 x1)), Ends p e below s 0 0 (Q2 Z a_o0 n_o0 f_o0 h0 n0 (F2_14 n_o0 f_o0 x1)) (T.setTop (mkF m 14 #[.val (.ref a_o0), .val (.int x1)] [])) := by
    intro T L X eT N x1 ok
    obtain ⟨okt, okf⟩ := ok
    refine Ends.step (u' := (T.setTop (mkF m 15 #[.val (.ref a_o0), .val (.int x1)] [(.int x1)]))) ?_ (fun _ k => XS.iloadN X.here hx rfl (hb hby d2_14) rfl k)
    refine Ends.step (u' := (T.setTop (mkF m 16 #[.val (.ref a_o0), .val (.int x1)] [(.int (1 : Int32)), (.int x1)]))) ?_ (fun _ k => XT.iconstV X.here hx rfl (1 : Int32) (hb hby d2_15) rfl k)
    by_cases hc16 : (1 : Int32) < x1
    · refine Eq.mp (congrArg (fun z => Ends p e below s 0 0 (Q2 Z a_o0 n_o0 f_o0 h0 n0 z) (T.setTop (mkF m 16 #[.val (.ref a_o0), .val (.int x1)] [(.int (1 : Int32)), (.int x1)]))) (show (F2_14 n_o0 f_o0 x1) = (F2_29 n_o0 f_o0 x1) from (if_pos hc16)).symm) ?_
      refine Ends.step (u' := (T.setTop (mkF m 29 #[.val (.ref a_o0), .val (.int x1)] []))) ?_ (fun _ k => XS.icmpYes X.here hx rfl (pc0 := 16) (pc' := 29) rfl (hb hby d2_16) rfl (XT.ii_gt_t hc16) (by decide) (by decide) k)
      exact b29 T _ X eT N x1 (okt hc16)
    · refine Eq.mp (congrArg (fun z => Ends p e below s 0 0 (Q2 Z a_o0 n_o0 f_o0 h0 n0 z) (T.setTop (mkF m 16 #[.val (.ref a_o0), .val (.int x1)] [(.int (1 : Int32)), (.int x1)]))) (show (F2_14 n_o0 f_o0 x1) = (F2_19 n_o0 f_o0 x1) from (if_neg hc16)).symm) ?_
      refine Ends.step (u' := (T.setTop (mkF m 19 #[.val (.ref a_o0), .val (.int x1)] []))) ?_ (fun _ k => XS.icmpNo X.here hx rfl (hb hby d2_16) rfl (XT.ii_gt_f hc16) k)
      exact b19 T _ X eT N x1 (okf hc16)
  have b4 : ∀ (T : State) (L : List Loc) (X : Stand p l e ({ frames := 0, cells := 0, slots := 0, locals := 0 } : Room) s m #[(.ref a_o0), (.int p1)] below meth c T L 0 0) (eT : T.heap = h0) (N : Fr n0 L) (x1 : Int32) (ok : (O2_4 n_o0 f_o0 x1)), Ends p e below s 0 0 (Q2 Z a_o0 n_o0 f_o0 h0 n0 (F2_4 n_o0 f_o0 x1)) (T.setTop (mkF m 4 #[.val (.ref a_o0), .val (.int x1)] [])) := by
    intro T L X eT N x1 ok
    obtain ⟨o1, okt, okf⟩ := ok
    refine Ends.step (u' := (T.setTop (mkF m 5 #[.val (.ref a_o0), .val (.int x1)] [(.ref a_o0)]))) ?_ (fun _ k => XS.aloadN X.here hx rfl (hb hby d2_4) rfl rfl k)
    refine Ends.step (u' := (T.setTop (mkF m 6 #[.val (.ref a_o0), .val (.int x1)] [(.int (0 : Int32)), (.ref a_o0)]))) ?_ (fun _ k => XT.iconstV X.here hx rfl (0 : Int32) (hb hby d2_5) rfl k)
    refine Ends.baload X hx hZ eT A_o0 o1 (g := (mkF m 6 #[.val (.ref a_o0), .val (.int x1)] [(.int (0 : Int32)), (.ref a_o0)])) rfl rfl (hb hby d2_6) ?_
    show Ends p e below s _ _ _ (T.setTop (mkF m 7 #[.val (.ref a_o0), .val (.int x1)] [(.int (f_o0 ((0 : Int32)).toNatClampNeg))]))
    refine Ends.step (u' := (T.setTop (mkF m 9 #[.val (.ref a_o0), .val (.int x1)] [(.int (10 : Int32)), (.int (f_o0 ((0 : Int32)).toNatClampNeg))]))) ?_ (fun _ k => XT.bipushV X.here hx rfl (10 : Int32) (hb hby d2_7) rfl k)
    by_cases hc9 : (f_o0 ((0 : Int32)).toNatClampNeg) = (10 : Int32)
    · refine Eq.mp (congrArg (fun z => Ends p e below s 0 0 (Q2 Z a_o0 n_o0 f_o0 h0 n0 z) (T.setTop (mkF m 9 #[.val (.ref a_o0), .val (.int x1)] [(.int (10 : Int32)), (.int (f_o0 ((0 : Int32)).toNatClampNeg))]))) (show (F2_4 n_o0 f_o0 x1) = (F2_12 n_o0 f_o0) from (if_pos hc9)).symm) ?_
      refine Ends.step (u' := (T.setTop (mkF m 12 #[.val (.ref a_o0), .val (.int x1)] []))) ?_ (fun _ k => XS.icmpNo X.here hx rfl (hb hby d2_9) rfl (XT.ii_ne_f hc9) k)
      exact b12 T _ X eT N (.val (.ref a_o0)) (Or.inr ⟨_, rfl, rfl⟩) (.val (.int x1)) (Or.inr ⟨_, rfl, rfl⟩)
    · refine Eq.mp (congrArg (fun z => Ends p e below s 0 0 (Q2 Z a_o0 n_o0 f_o0 h0 n0 z) (T.setTop (mkF m 9 #[.val (.ref a_o0), .val (.int x1)] [(.int (10 : Int32)), (.int (f_o0 ((0 : Int32)).toNatClampNeg))]))) (show (F2_4 n_o0 f_o0 x1) = (F2_14 n_o0 f_o0 x1) from (if_neg hc9)).symm) ?_
      refine Ends.step (u' := (T.setTop (mkF m 14 #[.val (.ref a_o0), .val (.int x1)] []))) ?_ (fun _ k => XS.icmpYes X.here hx rfl (pc0 := 9) (pc' := 14) rfl (hb hby d2_9) rfl (XT.ii_ne_t hc9) (by decide) (by decide) k)
      exact b14 T _ X eT N x1 (okf hc9)
  refine Ends.step (u' := (s₁.setTop (mkF m 0 #[.val (.ref a_o0), .val (.int p1)] []))) ?_ (fun _ k => castTop (ef_2 m a_o0 p1) k)
  obtain ⟨okt, okf⟩ := ok
  refine Ends.step (u' := (s₁.setTop (mkF m 1 #[.val (.ref a_o0), .val (.int p1)] [(.int p1)]))) ?_ (fun _ k => XS.iloadN X0.here hx rfl (hb hby d2_0) rfl k)
  by_cases hc1 : 0 < p1
  · refine Eq.mp (congrArg (fun z => Ends p e below s 0 0 (Q2 Z a_o0 n_o0 f_o0 h0 n0 z) (s₁.setTop (mkF m 1 #[.val (.ref a_o0), .val (.int p1)] [(.int p1)]))) (show (F2 p1 n_o0 f_o0) = (F2_14 n_o0 f_o0 p1) from (if_pos hc1)).symm) ?_
    refine Ends.step (u' := (s₁.setTop (mkF m 14 #[.val (.ref a_o0), .val (.int p1)] []))) ?_ (fun _ k => XS.ifYes X0.here hx rfl (pc0 := 1) (pc' := 14) rfl (hb hby d2_1) rfl (XT.i0_gt_t hc1) (by decide) (by decide) k)
    exact b14 s₁ _ X0 e0 N0 p1 (okt hc1)
  · refine Eq.mp (congrArg (fun z => Ends p e below s 0 0 (Q2 Z a_o0 n_o0 f_o0 h0 n0 z) (s₁.setTop (mkF m 1 #[.val (.ref a_o0), .val (.int p1)] [(.int p1)]))) (show (F2 p1 n_o0 f_o0) = (F2_4 n_o0 f_o0 p1) from (if_neg hc1)).symm) ?_
    refine Ends.step (u' := (s₁.setTop (mkF m 4 #[.val (.ref a_o0), .val (.int p1)] []))) ?_ (fun _ k => XS.ifNo X0.here hx rfl (hb hby d2_1) rfl (XT.i0_gt_f hc1) k)
    exact b4 s₁ _ X0 e0 N0 p1 (okf hc1)
theorem d3_0 : decode prog_26_method_1_code 0 = .ok (.aload_n 0, 1) := by decide +kernel
theorem d3_1 : decode prog_26_method_1_code 1 = .ok (.invokespecial 1, 3) := by decide +kernel
theorem d3_4 : decode prog_26_method_1_code 4 = .ok (.aload_n 0, 1) := by decide +kernel
theorem d3_5 : decode prog_26_method_1_code 5 = .ok (.aload_n 1, 1) := by decide +kernel
theorem d3_6 : decode prog_26_method_1_code 6 = .ok (.putfield 7, 3) := by decide +kernel
theorem d3_9 : decode prog_26_method_1_code 9 = .ok (.aload_n 0, 1) := by decide +kernel
theorem d3_10 : decode prog_26_method_1_code 10 = .ok (.iload_n 2, 1) := by decide +kernel
theorem d3_11 : decode prog_26_method_1_code 11 = .ok (.putfield 13, 3) := by decide +kernel
theorem d3_14 : decode prog_26_method_1_code 14 = .ok (.return_, 1) := by decide +kernel
theorem pn_3 : plainFor (⟨"com/example/numbersieve/numbersieve/JobLines", "<init>", "([BI)V"⟩ : MethodName) = true := by first | exact plainFor_of_name (by first | (simp [plainName, overriddenIn]; done) | decide +kernel) | decide +kernel
theorem ef_3 (m : MethodId) (y0 : Addr) (y1 : Addr) (y2 : Int32) : entryFrame m #[(.ref y0), (.ref y1), (.int y2)] 3 = mkF m 0 #[.val (.ref y0), .val (.ref y1), .val (.int y2)] [] := by first | (simp [entryFrame, mkF, argsToLocals, Value.category]; done) | rfl
def Q3 (Z : State) (a_o0 : Addr) (a_o1 : Addr) (o0_count : Int32) (n_o1 : Nat) (f_o1 : Nat → Int32) (h0 : Heap) (n0 : Nat) (ans : Int32) (v : Option Value) (h : Heap) (L : List Loc) : Prop := v = none ∧ Fr n0 L ∧ Keep h0 h [a_o0] ∧ Fld Z h a_o0 "com/example/numbersieve/numbersieve/JobLines" "text" "[B" (.ref a_o1) ∧ Fld Z h a_o0 "com/example/numbersieve/numbersieve/JobLines" "count" "I" (.int ans)
set_option maxRecDepth 65536 in
set_option maxHeartbeats 40000000 in
theorem rm3 (l : Launch) (Z : State) (a0 : Array Value) (hw : ∀ d ∈ tables_1, d.before a0 Z = true) (p2 : Int32) (o0_count : Int32) (n_o1 : Nat) (f_o1 : Nat → Int32) (a_o0 : Addr) (a_o1 : Addr) (h0 : Heap) (n0 : Nat) (Z0 : n0 ≤ h0.size) (E_o0 : Exa Z h0 a_o0 "com/example/numbersieve/numbersieve/JobLines") (F_o0_text : Fld Z h0 a_o0 "com/example/numbersieve/numbersieve/JobLines" "text" "[B" .null) (F_o0_count : Fld Z h0 a_o0 "com/example/numbersieve/numbersieve/JobLines" "count" "I" (.int o0_count)) (A_o1 : Ar Z h0 a_o1 .byte n_o1 f_o1) (ne_o0_o1 : a_o0 ≠ a_o1) (g_o0 : n0 ≤ a_o0) :
    Meets l Z (⟨"com/example/numbersieve/numbersieve/JobLines", "<init>", "([BI)V"⟩ : MethodName) prog_26_method_1_code 3 none [] ({ frames := 1, cells := 0, slots := 0, locals := 12 } : Room) #[(.ref a_o0), (.ref a_o1), (.int p2)] h0 (Q3 Z a_o0 a_o1 o0_count n_o1 f_o1 h0 n0 (F3 p2 o0_count n_o1 f_o1)) 0 0 := by
  refine Meets.of pn_3 ?_
  intro p e s m below meth c s₁ hx hby hml hZ hown hnm hret hlk X0 e0
  have hml : c.maxLocals = 3 := hml
  have hown : s.vm.findClass "com/example/numbersieve/numbersieve/JobLines" = some m.cls := hown
  have N0 := Fr.nil n0
  have K0 := Keep.refl h0 [a_o0]
  refine Ends.step (u' := (s₁.setTop (mkF m 0 #[.val (.ref a_o0), .val (.ref a_o1), .val (.int p2)] []))) ?_ (fun _ k => castTop (ef_3 m a_o0 a_o1 p2) k)
  refine Ends.step (u' := (s₁.setTop (mkF m 1 #[.val (.ref a_o0), .val (.ref a_o1), .val (.int p2)] [(.ref a_o0)]))) ?_ (fun _ k => XS.aloadN X0.here hx rfl (hb hby d3_0) rfl rfl k)
  refine Ends.initO X0 hx hZ hown (hw _ (List.mem_of_getElem? (i := 15) rfl)) (hw _ (List.mem_of_getElem? (i := 16) rfl)) (hw _ (List.mem_of_getElem? (i := 17) rfl)) e0 (g := (mkF m 1 #[.val (.ref a_o0), .val (.ref a_o1), .val (.int p2)] [(.ref a_o0)])) rfl (by rw [hml]; rfl) rfl (hb hby d3_1) (by decide) 0 (by show 2 * 0 + _ ≤ _; exact Nat.le_of_eq rfl) (by decide) (fun T1 X1 e1 => ?_)
  show Ends p e below s _ _ _ (T1.setTop (mkF m 4 #[.val (.ref a_o0), .val (.ref a_o1), .val (.int p2)] []))
  refine Ends.step (u' := (T1.setTop (mkF m 5 #[.val (.ref a_o0), .val (.ref a_o1), .val (.int p2)] [(.ref a_o0)]))) ?_ (fun _ k => XS.aloadN X1.here hx rfl (hb hby d3_4) rfl rfl k)
  refine Ends.step (u' := (T1.setTop (mkF m 6 #[.val (.ref a_o0), .val (.ref a_o1), .val (.int p2)] [(.ref a_o1), (.ref a_o0)]))) ?_ (fun _ k => XS.aloadN X1.here hx rfl (hb hby d3_5) rfl rfl k)
  refine Ends.putF X1 hx hZ hown (hw _ (List.mem_of_getElem? (i := 18) rfl)) e1 F_o0_text E_o0 (Or.inr ⟨(hw _ (List.mem_of_getElem? (i := 19) rfl)), rfl, hnm⟩) (hw _ (List.mem_of_getElem? (i := 10) rfl)) (tf := (.array .byte)) (by decide) rfl rfl N0 g_o0 (g := (mkF m 6 #[.val (.ref a_o0), .val (.ref a_o1), .val (.int p2)] [(.ref a_o1), (.ref a_o0)])) rfl rfl (hb hby d3_6) (fun T2 h2 X2 e2 N2 W2 => ?_)
  have Fd3 := F_o0_text.same W2
  have Fd4 := F_o0_count.other W2 (Or.inr (slot_ne (a0 := a0) (Or.inr (hw _ (List.mem_of_getElem? (i := 21) rfl))) (Or.inr (hw _ (List.mem_of_getElem? (i := 19) rfl))) (by decide) (t := .int) (t' := (.array .byte)) (by decide) (by decide)))
  have E5 := E_o0.wr W2
  show Ends p e below s _ _ _ (T2.setTop (mkF m 9 #[.val (.ref a_o0), .val (.ref a_o1), .val (.int p2)] []))
  have A6 := A_o1.other W2 ne_o0_o1.symm
  have Z7 : n0 ≤ h2.size := W2.size.symm ▸ Z0
  have K8 := K0.wr W2 (Or.inl (List.mem_of_getElem? (i := 0) rfl))
  refine Ends.step (u' := (T2.setTop (mkF m 10 #[.val (.ref a_o0), .val (.ref a_o1), .val (.int p2)] [(.ref a_o0)]))) ?_ (fun _ k => XS.aloadN X2.here hx rfl (hb hby d3_9) rfl rfl k)
  refine Ends.step (u' := (T2.setTop (mkF m 11 #[.val (.ref a_o0), .val (.ref a_o1), .val (.int p2)] [(.int p2), (.ref a_o0)]))) ?_ (fun _ k => XS.iloadN X2.here hx rfl (hb hby d3_10) rfl k)
  refine Ends.putF X2 hx hZ hown (hw _ (List.mem_of_getElem? (i := 20) rfl)) e2 Fd4 E5 (Or.inr ⟨(hw _ (List.mem_of_getElem? (i := 21) rfl)), rfl, hnm⟩) (hw _ (List.mem_of_getElem? (i := 10) rfl)) (tf := .int) (by decide) rfl rfl N2 g_o0 (g := (mkF m 11 #[.val (.ref a_o0), .val (.ref a_o1), .val (.int p2)] [(.int p2), (.ref a_o0)])) rfl rfl (hb hby d3_11) (fun T9 h9 X9 e9 N9 W9 => ?_)
  have Fd10 := Fd3.other W9 (Or.inr (slot_ne (a0 := a0) (Or.inr (hw _ (List.mem_of_getElem? (i := 19) rfl))) (Or.inr (hw _ (List.mem_of_getElem? (i := 21) rfl))) (by decide) (t := (.array .byte)) (t' := .int) (by decide) (by decide)))
  have Fd11 := Fd4.same W9
  have E12 := E5.wr W9
  show Ends p e below s _ _ _ (T9.setTop (mkF m 14 #[.val (.ref a_o0), .val (.ref a_o1), .val (.int p2)] []))
  have A13 := A6.other W9 ne_o0_o1.symm
  have Z14 : n0 ≤ h9.size := W9.size.symm ▸ Z7
  have K15 := K8.wr W9 (Or.inl (List.mem_of_getElem? (i := 0) rfl))
  exact Ends.ret X9 (v := none) (fun _ => rfl) hlk (fun fs hr => X9.returnOut hx hret (hb hby d3_14) hr) (by decide) (by decide) (by rw [e9]; exact ⟨rfl, N9, K15, Fd10, Fd11⟩)
theorem d5_0 : decode prog_26_method_5_code 0 = .ok (.iload_n 1, 1) := by decide +kernel
theorem d5_1 : decode prog_26_method_5_code 1 = .ok (.istore_n 2, 1) := by decide +kernel
theorem d5_2 : decode prog_26_method_5_code 2 = .ok (.aload_n 0, 1) := by decide +kernel
theorem d5_3 : decode prog_26_method_5_code 3 = .ok (.getfield 7, 3) := by decide +kernel
theorem d5_6 : decode prog_26_method_5_code 6 = .ok (.iload_n 2, 1) := by decide +kernel
theorem d5_7 : decode prog_26_method_5_code 7 = .ok (.baload, 1) := by decide +kernel
theorem d5_8 : decode prog_26_method_5_code 8 = .ok (.bipush 10, 2) := by decide +kernel
theorem d5_10 : decode prog_26_method_5_code 10 = .ok (.if_icmp .eq 9, 3) := by decide +kernel
theorem d5_13 : decode prog_26_method_5_code 13 = .ok (.iinc 2 1, 3) := by decide +kernel
theorem d5_16 : decode prog_26_method_5_code 16 = .ok (.goto (-14), 3) := by decide +kernel
theorem d5_19 : decode prog_26_method_5_code 19 = .ok (.iload_n 2, 1) := by decide +kernel
theorem d5_20 : decode prog_26_method_5_code 20 = .ok (.ireturn, 1) := by decide +kernel
theorem pn_5 : plainFor (⟨"com/example/numbersieve/numbersieve/JobLines", "end", "(I)I"⟩ : MethodName) = true := by first | exact plainFor_of_name (by first | (simp [plainName, overriddenIn]; done) | decide +kernel) | decide +kernel
theorem ef_5 (m : MethodId) (y0 : Addr) (y1 : Int32) : entryFrame m #[(.ref y0), (.int y1)] 3 = mkF m 0 #[.val (.ref y0), .val (.int y1), .unset] [] := by first | (simp [entryFrame, mkF, argsToLocals, Value.category]; done) | rfl
def Q5 (Z : State) (a_o0 : Addr) (a_o0_text : Addr) (o0_count : Int32) (n_o0_text : Nat) (f_o0_text : Nat → Int32) (h0 : Heap) (n0 : Nat) (ans : Int32) (v : Option Value) (h : Heap) (L : List Loc) : Prop := v = some (.int ans) ∧ Fr n0 L ∧ h = h0
set_option maxRecDepth 65536 in
set_option maxHeartbeats 40000000 in
theorem rm5 (l : Launch) (Z : State) (a0 : Array Value) (hw : ∀ d ∈ tables_1, d.before a0 Z = true) (K : Nat) (p1 : Int32) (o0_count : Int32) (n_o0_text : Nat) (f_o0_text : Nat → Int32) (a_o0 : Addr) (a_o0_text : Addr) (h0 : Heap) (n0 : Nat) (Z0 : n0 ≤ h0.size) (E_o0 : Exa Z h0 a_o0 "com/example/numbersieve/numbersieve/JobLines") (F_o0_text : Fld Z h0 a_o0 "com/example/numbersieve/numbersieve/JobLines" "text" "[B" (.ref a_o0_text)) (F_o0_count : Fld Z h0 a_o0 "com/example/numbersieve/numbersieve/JobLines" "count" "I" (.int o0_count)) (A_o0_text : Ar Z h0 a_o0_text .byte n_o0_text f_o0_text) (ok : O5 K p1 o0_count n_o0_text f_o0_text) :
    Meets l Z (⟨"com/example/numbersieve/numbersieve/JobLines", "end", "(I)I"⟩ : MethodName) prog_26_method_5_code 3 (some .int) [] ({ frames := 0, cells := 0, slots := 0, locals := 0 } : Room) #[(.ref a_o0), (.int p1)] h0 (Q5 Z a_o0 a_o0_text o0_count n_o0_text f_o0_text h0 n0 (F5 K p1 o0_count n_o0_text f_o0_text)) 0 0 := by
  refine Meets.of pn_5 ?_
  intro p e s m below meth c s₁ hx hby hml hZ hown hnm hret hlk X0 e0
  have hml : c.maxLocals = 3 := hml
  have hown : s.vm.findClass "com/example/numbersieve/numbersieve/JobLines" = some m.cls := hown
  have N0 := Fr.nil n0
  have b19 : ∀ (T : State) (L : List Loc) (X : Stand p l e ({ frames := 0, cells := 0, slots := 0, locals := 0 } : Room) s m #[(.ref a_o0), (.int p1)] below meth c T L 0 0) (eT : T.heap = h0) (N : Fr n0 L) (x2 : Int32) (d0 : Slot) (od0 : OneS d0) (d1 : Slot) (od1 : OneS d1), Ends p e below s 0 0 (Q5 Z a_o0 a_o0_text o0_count n_o0_text f_o0_text h0 n0 (F5_19 K o0_count n_o0_text f_o0_text x2)) (T.setTop (mkF m 19 #[d0, d1, .val (.int x2)] [])) := by
    intro T L X eT N x2 d0 od0 d1 od1
    refine Ends.step (u' := (T.setTop (mkF m 20 #[d0, d1, .val (.int x2)] [(.int x2)]))) ?_ (fun _ k => XS.iloadN X.here hx rfl (hb hby d5_19) rfl k)
    exact Ends.ret X (v := some (.int x2)) (fun q => by rw [hret] at q; cases q) hlk (fun fs hr => retI X hx hret (hb hby d5_20) hr) (by decide) (by decide) ⟨rfl, N, eT⟩
  have b2 : ∀ (j : Nat) (T : State) (L : List Loc) (X : Stand p l e ({ frames := 0, cells := 0, slots := 0, locals := 0 } : Room) s m #[(.ref a_o0), (.int p1)] below meth c T L 0 0) (eT : T.heap = h0) (N : Fr n0 L) (x2 : Int32) (d1 : Slot) (od1 : OneS d1) (ok : (O5_2 K j o0_count n_o0_text f_o0_text x2)), Ends p e below s 0 0 (Q5 Z a_o0 a_o0_text o0_count n_o0_text f_o0_text h0 n0 (F5_2 K j o0_count n_o0_text f_o0_text x2)) (T.setTop (mkF m 2 #[.val (.ref a_o0), d1, .val (.int x2)] [])) := by
    intro j
    induction j with
    | zero => intro T L X eT N x2 d1 od1 ok; exact ok.elim
    | succ j ih =>
      have b13 : ∀ (T : State) (L : List Loc) (X : Stand p l e ({ frames := 0, cells := 0, slots := 0, locals := 0 } : Room) s m #[(.ref a_o0), (.int p1)] below meth c T L 0 0) (eT : T.heap = h0) (N : Fr n0 L) (x2 : Int32) (d1 : Slot) (od1 : OneS d1) (ok : (O5_13 K (O5_2 K j) o0_count n_o0_text f_o0_text x2)), Ends p e below s 0 0 (Q5 Z a_o0 a_o0_text o0_count n_o0_text f_o0_text h0 n0 (F5_13 K (F5_2 K j) o0_count n_o0_text f_o0_text x2)) (T.setTop (mkF m 13 #[.val (.ref a_o0), d1, .val (.int x2)] [])) := by
        intro T L X eT N x2 d1 od1 ok
        refine Ends.step (u' := (T.setTop (mkF m 16 #[.val (.ref a_o0), d1, .val (.int (x2 + (1 : Int32)))] []))) ?_ (fun _ k => XT.iincV X.here hx rfl (1 : Int32) (hb hby d5_13) rfl rfl (l' := #[.val (.ref a_o0), d1, .val (.int (x2 + (1 : Int32)))]) rfl k)
        refine Ends.step (u' := (T.setTop (mkF m 2 #[.val (.ref a_o0), d1, .val (.int (x2 + (1 : Int32)))] []))) ?_ (fun _ k => XS.goto X.here hx rfl (pc0 := 16) (pc' := 2) rfl (hb hby d5_16) (by decide) (by decide) k)
        exact ih T _ X eT N (x2 + (1 : Int32)) (d1) od1 ok
      intro T L X eT N x2 d1 od1 ok
      obtain ⟨o1, okt, okf⟩ := ok
      refine Ends.step (u' := (T.setTop (mkF m 3 #[.val (.ref a_o0), d1, .val (.int x2)] [(.ref a_o0)]))) ?_ (fun _ k => XS.aloadN X.here hx rfl (hb hby d5_2) rfl rfl k)
      refine Ends.getF X hx hZ hown (hw _ (List.mem_of_getElem? (i := 18) rfl)) eT F_o0_text (g := (mkF m 3 #[.val (.ref a_o0), d1, .val (.int x2)] [(.ref a_o0)])) rfl rfl (hb hby d5_3) (fun T1 X1 e1 => ?_)
      show Ends p e below s _ _ _ (T1.setTop (mkF m 6 #[.val (.ref a_o0), d1, .val (.int x2)] [(.ref a_o0_text)]))
      refine Ends.step (u' := (T1.setTop (mkF m 7 #[.val (.ref a_o0), d1, .val (.int x2)] [(.int x2), (.ref a_o0_text)]))) ?_ (fun _ k => XS.iloadN X1.here hx rfl (hb hby d5_6) rfl k)
      refine Ends.baload X1 hx hZ e1 A_o0_text o1 (g := (mkF m 7 #[.val (.ref a_o0), d1, .val (.int x2)] [(.int x2), (.ref a_o0_text)])) rfl rfl (hb hby d5_7) ?_
      show Ends p e below s _ _ _ (T1.setTop (mkF m 8 #[.val (.ref a_o0), d1, .val (.int x2)] [(.int (f_o0_text (x2).toNatClampNeg))]))
      refine Ends.step (u' := (T1.setTop (mkF m 10 #[.val (.ref a_o0), d1, .val (.int x2)] [(.int (10 : Int32)), (.int (f_o0_text (x2).toNatClampNeg))]))) ?_ (fun _ k => XT.bipushV X1.here hx rfl (10 : Int32) (hb hby d5_8) rfl k)
      by_cases hc10 : (f_o0_text (x2).toNatClampNeg) = (10 : Int32)
      · refine Eq.mp (congrArg (fun z => Ends p e below s 0 0 (Q5 Z a_o0 a_o0_text o0_count n_o0_text f_o0_text h0 n0 z) (T1.setTop (mkF m 10 #[.val (.ref a_o0), d1, .val (.int x2)] [(.int (10 : Int32)), (.int (f_o0_text (x2).toNatClampNeg))]))) (show (F5_2 K (j + 1) o0_count n_o0_text f_o0_text x2) = (F5_19 K o0_count n_o0_text f_o0_text x2) from (if_pos hc10)).symm) ?_
        refine Ends.step (u' := (T1.setTop (mkF m 19 #[.val (.ref a_o0), d1, .val (.int x2)] []))) ?_ (fun _ k => XS.icmpYes X1.here hx rfl (pc0 := 10) (pc' := 19) rfl (hb hby d5_10) rfl (XT.ii_eq_t hc10) (by decide) (by decide) k)
        exact b19 T1 _ X1 e1 N x2 (.val (.ref a_o0)) (Or.inr ⟨_, rfl, rfl⟩) (d1) od1
      · refine Eq.mp (congrArg (fun z => Ends p e below s 0 0 (Q5 Z a_o0 a_o0_text o0_count n_o0_text f_o0_text h0 n0 z) (T1.setTop (mkF m 10 #[.val (.ref a_o0), d1, .val (.int x2)] [(.int (10 : Int32)), (.int (f_o0_text (x2).toNatClampNeg))]))) (show (F5_2 K (j + 1) o0_count n_o0_text f_o0_text x2) = (F5_13 K (F5_2 K j) o0_count n_o0_text f_o0_text x2) from (if_neg hc10)).symm) ?_
        refine Ends.step (u' := (T1.setTop (mkF m 13 #[.val (.ref a_o0), d1, .val (.int x2)] []))) ?_ (fun _ k => XS.icmpNo X1.here hx rfl (hb hby d5_10) rfl (XT.ii_eq_f hc10) k)
        exact b13 T1 _ X1 e1 N x2 (d1) od1 (okf hc10)
  refine Ends.step (u' := (s₁.setTop (mkF m 0 #[.val (.ref a_o0), .val (.int p1), .unset] []))) ?_ (fun _ k => castTop (ef_5 m a_o0 p1) k)
  refine Ends.step (u' := (s₁.setTop (mkF m 1 #[.val (.ref a_o0), .val (.int p1), .unset] [(.int p1)]))) ?_ (fun _ k => XS.iloadN X0.here hx rfl (hb hby d5_0) rfl k)
  refine Ends.step (u' := (s₁.setTop (mkF m 2 #[.val (.ref a_o0), .val (.int p1), .val (.int p1)] []))) ?_ (fun _ k => XS.istoreN X0.here hx rfl (hb hby d5_1) rfl (l' := #[.val (.ref a_o0), .val (.int p1), .val (.int p1)]) rfl k)
  exact b2 K s₁ _ X0 e0 N0 p1 (.val (.int p1)) (Or.inr ⟨_, rfl, rfl⟩) ok
theorem pn_0 : plainFor x = true := by first | exact plainFor_of_name (by first | (simp [plainName, overriddenIn]; done) | decide +kernel) | decide +kernel
theorem ef_0 (m : MethodId) (y0 : Int64) (y1 : Int32) (y2 : Int32) : entryFrame m #[(.long y0), (.int y1), (.int y2)] maxLocals = mkF m 0 #[.val (.long y0), .second, .val (.int y1), .val (.int y2), .unset, .unset, .unset, .unset, .unset] [] := by first | (simp [entryFrame, mkF, argsToLocals, Value.category, maxLocals]; done) | rfl
def Q0 (Z : State)   (h0 : Heap) (n0 : Nat) (ans : Int32) (v : Option Value) (h : Heap) (L : List Loc) : Prop := v = some (.int ans) ∧ Fr n0 L
set_option maxRecDepth 65536 in
set_option maxHeartbeats 40000000 in
theorem rm0 (l : Launch) (Z : State) (a0 : Array Value) (hw : ∀ d ∈ tables_1, d.before a0 Z = true) (K : Nat) (p0 : Int64) (p1 : Int32) (p2 : Int32)  (h0 : Heap) (n0 : Nat) (Z0 : n0 ≤ h0.size)  (ok : O0 K p0 p1 p2) :
    Meets l Z x code maxLocals ret tables_1 room_1 #[(.long p0), (.int p1), (.int p2)] h0 (Q0 Z  h0 n0 (F0 K p0 p1 p2)) 2 10 := by
  refine Meets.of pn_0 ?_
  intro p e s m below meth c s₁ hx hby hml hZ hown hnm hret hlk X0 e0
  have hml : c.maxLocals = 9 := hml
  have hown : s.vm.findClass "com/example/numbersieve/numbersieve/JobLinesEndPinLaw" = some m.cls := hown
  have N0 := Fr.nil n0
  have b136 : ∀ (T : State) (L : List Loc) (h : Heap) (X : Stand p l e room_1 s m #[(.long p0), (.int p1), (.int p2)] below meth c T L 2 10) (eT : T.heap = h) (N : Fr n0 L) (Zs : n0 ≤ h.size) (t0 : Int32) (z0 : Int64) (d2 : Slot) (od2 : OneS d2) (d3 : Slot) (od3 : OneS d3) (d4 : Slot) (od4 : OneS d4) (d5 : Slot) (od5 : OneS d5) (d6 : Slot) (od6 : OneS d6) (d7 : Slot) (od7 : OneS d7) (d8 : Slot) (od8 : OneS d8), Ends p e below s 2 10 (Q0 Z  h0 n0 (F0_136 K t0)) (T.setTop (mkF m 136 #[.val (.long z0), .second, d2, d3, d4, d5, d6, d7, d8] [(.int t0)])) := by
    intro T L h X eT N Zs t0 z0 d2 od2 d3 od3 d4 od4 d5 od5 d6 od6 d7 od7 d8 od8
    exact Ends.ret X (v := some (.int (nar .boolean t0))) (fun q => by rw [hret] at q; cases q) hlk (fun fs hr => retN X hx (t := .boolean) hret (by simp) (hb hby at_136) hr) (by decide) (by decide) ⟨rfl, N⟩
  have b131 : ∀ (T : State) (L : List Loc) (h : Heap) (X : Stand p l e room_1 s m #[(.long p0), (.int p1), (.int p2)] below meth c T L 2 10) (eT : T.heap = h) (N : Fr n0 L) (Zs : n0 ≤ h.size) (z0 : Int64) (d2 : Slot) (od2 : OneS d2) (d3 : Slot) (od3 : OneS d3) (d4 : Slot) (od4 : OneS d4) (d5 : Slot) (od5 : OneS d5) (d6 : Slot) (od6 : OneS d6) (d7 : Slot) (od7 : OneS d7) (d8 : Slot) (od8 : OneS d8), Ends p e below s 2 10 (Q0 Z  h0 n0 (F0_131 K)) (T.setTop (mkF m 131 #[.val (.long z0), .second, d2, d3, d4, d5, d6, d7, d8] [])) := by
    intro T L h X eT N Zs z0 d2 od2 d3 od3 d4 od4 d5 od5 d6 od6 d7 od7 d8 od8
    refine Ends.step (u' := (T.setTop (mkF m 132 #[.val (.long z0), .second, d2, d3, d4, d5, d6, d7, d8] [(.int (1 : Int32))]))) ?_ (fun _ k => XT.iconstV X.here hx rfl (1 : Int32) (hb hby at_131) rfl k)
    refine Ends.step (u' := (T.setTop (mkF m 136 #[.val (.long z0), .second, d2, d3, d4, d5, d6, d7, d8] [(.int (1 : Int32))]))) ?_ (fun _ k => XS.goto X.here hx rfl (pc0 := 132) (pc' := 136) rfl (hb hby at_132) (by decide) (by decide) k)
    exact b136 T _ _ X eT N Zs (1 : Int32) z0 (d2) od2 (d3) od3 (d4) od4 (d5) od5 (d6) od6 (d7) od7 (d8) od8
  have b135 : ∀ (T : State) (L : List Loc) (h : Heap) (X : Stand p l e room_1 s m #[(.long p0), (.int p1), (.int p2)] below meth c T L 2 10) (eT : T.heap = h) (N : Fr n0 L) (Zs : n0 ≤ h.size) (z0 : Int64) (d2 : Slot) (od2 : OneS d2) (d3 : Slot) (od3 : OneS d3) (d4 : Slot) (od4 : OneS d4) (d5 : Slot) (od5 : OneS d5) (d6 : Slot) (od6 : OneS d6) (d7 : Slot) (od7 : OneS d7) (d8 : Slot) (od8 : OneS d8), Ends p e below s 2 10 (Q0 Z  h0 n0 (F0_135 K)) (T.setTop (mkF m 135 #[.val (.long z0), .second, d2, d3, d4, d5, d6, d7, d8] [])) := by
    intro T L h X eT N Zs z0 d2 od2 d3 od3 d4 od4 d5 od5 d6 od6 d7 od7 d8 od8
    refine Ends.step (u' := (T.setTop (mkF m 136 #[.val (.long z0), .second, d2, d3, d4, d5, d6, d7, d8] [(.int (0 : Int32))]))) ?_ (fun _ k => XT.iconstV X.here hx rfl (0 : Int32) (hb hby at_135) rfl k)
    exact b136 T _ _ X eT N Zs (0 : Int32) z0 (d2) od2 (d3) od3 (d4) od4 (d5) od5 (d6) od6 (d7) od7 (d8) od8
  have b124 : ∀ (T : State) (L : List Loc) (h : Heap) (X : Stand p l e room_1 s m #[(.long p0), (.int p1), (.int p2)] below meth c T L 2 10) (eT : T.heap = h) (N : Fr n0 L) (Zs : n0 ≤ h.size) (x6 : Int32) (x8 : Int32) (z0 : Int64) (d2 : Slot) (od2 : OneS d2) (d3 : Slot) (od3 : OneS d3) (d4 : Slot) (od4 : OneS d4) (d5 : Slot) (od5 : OneS d5) (d7 : Slot) (od7 : OneS d7), Ends p e below s 2 10 (Q0 Z  h0 n0 (F0_124 K x6 x8)) (T.setTop (mkF m 124 #[.val (.long z0), .second, d2, d3, d4, d5, .val (.int x6), d7, .val (.int x8)] [])) := by
    intro T L h X eT N Zs x6 x8 z0 d2 od2 d3 od3 d4 od4 d5 od5 d7 od7
    refine Ends.step (u' := (T.setTop (mkF m 126 #[.val (.long z0), .second, d2, d3, d4, d5, .val (.int x6), d7, .val (.int x8)] [(.int x8)]))) ?_ (fun _ k => XS.iload X.here hx rfl (hb hby at_124) rfl k)
    refine Ends.step (u' := (T.setTop (mkF m 128 #[.val (.long z0), .second, d2, d3, d4, d5, .val (.int x6), d7, .val (.int x8)] [(.int x6), (.int x8)]))) ?_ (fun _ k => XS.iload X.here hx rfl (hb hby at_126) rfl k)
    by_cases hc128 : x8 = x6
    · refine Eq.mp (congrArg (fun z => Ends p e below s 2 10 (Q0 Z  h0 n0 z) (T.setTop (mkF m 128 #[.val (.long z0), .second, d2, d3, d4, d5, .val (.int x6), d7, .val (.int x8)] [(.int x6), (.int x8)]))) (show (F0_124 K x6 x8) = (F0_131 K) from (if_pos hc128)).symm) ?_
      refine Ends.step (u' := (T.setTop (mkF m 131 #[.val (.long z0), .second, d2, d3, d4, d5, .val (.int x6), d7, .val (.int x8)] []))) ?_ (fun _ k => XS.icmpNo X.here hx rfl (hb hby at_128) rfl (XT.ii_ne_f hc128) k)
      exact b131 T _ _ X eT N Zs z0 (d2) od2 (d3) od3 (d4) od4 (d5) od5 (.val (.int x6)) (Or.inr ⟨_, rfl, rfl⟩) (d7) od7 (.val (.int x8)) (Or.inr ⟨_, rfl, rfl⟩)
    · refine Eq.mp (congrArg (fun z => Ends p e below s 2 10 (Q0 Z  h0 n0 z) (T.setTop (mkF m 128 #[.val (.long z0), .second, d2, d3, d4, d5, .val (.int x6), d7, .val (.int x8)] [(.int x6), (.int x8)]))) (show (F0_124 K x6 x8) = (F0_135 K) from (if_neg hc128)).symm) ?_
      refine Ends.step (u' := (T.setTop (mkF m 135 #[.val (.long z0), .second, d2, d3, d4, d5, .val (.int x6), d7, .val (.int x8)] []))) ?_ (fun _ k => XS.icmpYes X.here hx rfl (pc0 := 128) (pc' := 135) rfl (hb hby at_128) rfl (XT.ii_ne_t hc128) (by decide) (by decide) k)
      exact b135 T _ _ X eT N Zs z0 (d2) od2 (d3) od3 (d4) od4 (d5) od5 (.val (.int x6)) (Or.inr ⟨_, rfl, rfl⟩) (d7) od7 (.val (.int x8)) (Or.inr ⟨_, rfl, rfl⟩)
  have b103 : ∀ (T : State) (L : List Loc) (h : Heap) (X : Stand p l e room_1 s m #[(.long p0), (.int p1), (.int p2)] below meth c T L 1 8) (eT : T.heap = h) (N : Fr n0 L) (Zs : n0 ≤ h.size) (cf_q2 : Nat → Int32) (x5 : Int32) (x6 : Int32) (z0 : Int64) (d2 : Slot) (od2 : OneS d2) (d3 : Slot) (od3 : OneS d3) (a_q2 : Addr) (g_q2 : n0 ≤ a_q2) (A_q2 : Ar Z h a_q2 .byte 8 cf_q2) (ok : (O0_103 K cf_q2 x5 x6)), Ends p e below s 2 10 (Q0 Z  h0 n0 (F0_103 K cf_q2 x5 x6)) (T.setTop (mkF m 103 #[.val (.long z0), .second, d2, d3, .val (.ref a_q2), .val (.int x5), .val (.int x6), .unset, .unset] [])) := by
    intro T L h X eT N Zs cf_q2 x5 x6 z0 d2 od2 d3 od3 a_q2 g_q2 A_q2 ok
    obtain ⟨o1, ok⟩ := ok
    refine Ends.newO X hx hZ hown (hw _ (List.mem_of_getElem? (i := 9) rfl)) (hw _ (List.mem_of_getElem? (i := 10) rfl)) (hw _ (List.mem_of_getElem? (i := 11) rfl)) eT (g := (mkF m 103 #[.val (.long z0), .second, d2, d3, .val (.ref a_q2), .val (.int x5), .val (.int x6), .unset, .unset] [])) rfl (hb hby at_103) (by decide) (by decide) (fun T1 h1 a1 X1 e1 E1 q1 Y1 D1 => ?_)
    have Fd2 : Fld Z h1 a1 "com/example/numbersieve/numbersieve/JobLines" "text" "[B" .null := D1 (Or.inr (hw _ (List.mem_of_getElem? (i := 19) rfl))) (ty := (.array .byte)) (by decide)
    have Fd3 : Fld Z h1 a1 "com/example/numbersieve/numbersieve/JobLines" "count" "I" (.int (0 : Int32)) := D1 (Or.inr (hw _ (List.mem_of_getElem? (i := 21) rfl))) (ty := .int) (by decide)
    have ne4 : a_q2 ≠ a1 := q1 ▸ Nat.ne_of_lt A_q2.lt
    have A5 := A_q2.ext E1
    have g6 : n0 ≤ a1 := q1 ▸ Zs
    have Z7 := Nat.le_trans Zs E1.1
    show Ends p e below s _ _ _ (T1.setTop (mkF m 106 #[.val (.long z0), .second, d2, d3, .val (.ref a_q2), .val (.int x5), .val (.int x6), .unset, .unset] [(.ref a1)]))
    refine Ends.step (u' := (T1.setTop (mkF m 107 #[.val (.long z0), .second, d2, d3, .val (.ref a_q2), .val (.int x5), .val (.int x6), .unset, .unset] [(.ref a1), (.ref a1)]))) ?_ (fun _ k => XS.dup X1.here hx rfl (hb hby at_106) rfl rfl k)
    refine Ends.step (u' := (T1.setTop (mkF m 109 #[.val (.long z0), .second, d2, d3, .val (.ref a_q2), .val (.int x5), .val (.int x6), .unset, .unset] [(.ref a_q2), (.ref a1), (.ref a1)]))) ?_ (fun _ k => XS.aload X1.here hx rfl (hb hby at_107) rfl rfl k)
    refine Ends.step (u' := (T1.setTop (mkF m 110 #[.val (.long z0), .second, d2, d3, .val (.ref a_q2), .val (.int x5), .val (.int x6), .unset, .unset] [(.int (1 : Int32)), (.ref a_q2), (.ref a1), (.ref a1)]))) ?_ (fun _ k => XT.iconstV X1.here hx rfl (1 : Int32) (hb hby at_109) rfl k)
    refine Ends.callC X1 hx hZ (y := (⟨"com/example/numbersieve/numbersieve/JobLines", "<init>", "([BI)V"⟩ : MethodName)) rfl hown (hw _ (List.mem_of_getElem? (i := 12) rfl)) (hw _ (List.mem_of_getElem? (i := 13) rfl)) (hw _ (List.mem_of_getElem? (i := 11) rfl)) (hw _ (List.mem_of_getElem? (i := 14) rfl)) (by decide) (rm3 l Z a0 hw (1 : Int32) (0 : Int32) 8 cf_q2 a1 a_q2 h1 n0 Z7 Y1 Fd2 Fd3 A5 ne4.symm g6) 1 (by decide) (by decide) e1  (g := (mkF m 110 #[.val (.long z0), .second, d2, d3, .val (.ref a_q2), .val (.int x5), .val (.int x6), .unset, .unset] [(.int (1 : Int32)), (.ref a_q2), (.ref a1), (.ref a1)])) rfl (by rw [hml]; rfl) a1 [(.ref a_q2), (.int (1 : Int32))] [(.ref a1)] (lenOf pd_2 rfl) rfl (by show 2 * 0 + _ ≤ _; exact Nat.le_of_eq rfl) (hb hby at_110) rfl (by decide) (by decide) (fun v8 T8 L8 X8 hQ8 => ?_)
    obtain ⟨rfl, Nq8, Kq8, Fd9, Fd10⟩ := hQ8
    have N8 := Fr.app N Nq8
    show Ends p e below s _ _ _ (T8.setTop (mkF m 113 #[.val (.long z0), .second, d2, d3, .val (.ref a_q2), .val (.int x5), .val (.int x6), .unset, .unset] [(.ref a1)]))
    have A11 := A5.keep Kq8 (ninS ne4 nin0)
    have E12 := Y1.keep Kq8
    have Z13 := Nat.le_trans Z7 Kq8.1
    refine Ends.step (u' := (T8.setTop (mkF m 115 #[.val (.long z0), .second, d2, d3, .val (.ref a_q2), .val (.int x5), .val (.int x6), .val (.ref a1), .unset] []))) ?_ (fun _ k => XS.astore X8.here hx rfl (hb hby at_113) rfl rfl (l' := #[.val (.long z0), .second, d2, d3, .val (.ref a_q2), .val (.int x5), .val (.int x6), .val (.ref a1), .unset]) rfl k)
    refine Ends.step (u' := (T8.setTop (mkF m 117 #[.val (.long z0), .second, d2, d3, .val (.ref a_q2), .val (.int x5), .val (.int x6), .val (.ref a1), .unset] [(.ref a1)]))) ?_ (fun _ k => XS.aload X8.here hx rfl (hb hby at_115) rfl rfl k)
    refine Ends.step (u' := (T8.setTop (mkF m 119 #[.val (.long z0), .second, d2, d3, .val (.ref a_q2), .val (.int x5), .val (.int x6), .val (.ref a1), .unset] [(.int x5), (.ref a1)]))) ?_ (fun _ k => XS.iload X8.here hx rfl (hb hby at_117) rfl k)
    refine Ends.callV X8 hx hZ hown (hw _ (List.mem_of_getElem? (i := 22) rfl)) (hw _ (List.mem_of_getElem? (i := 23) rfl)) (hw _ (List.mem_of_getElem? (i := 25) rfl)) (hw _ (List.mem_of_getElem? (i := 24) rfl)) (hw _ (List.mem_of_getElem? (i := 11) rfl)) (hw _ (List.mem_of_getElem? (i := 26) rfl)) (by decide) (rm5 l Z a0 hw K x5 (F3 (1 : Int32) (0 : Int32) 8 cf_q2) 8 cf_q2 a1 a_q2 T8.heap n0 Z13 E12 Fd9 Fd10 A11 o1) 0 (by decide) (by decide) rfl a1 E12 (g := (mkF m 119 #[.val (.long z0), .second, d2, d3, .val (.ref a_q2), .val (.int x5), .val (.int x6), .val (.ref a1), .unset] [(.int x5), (.ref a1)])) rfl (by rw [hml]; rfl)  [(.int x5)] [] (lenOf pd_3 rfl) rfl (by show 2 * 0 + _ ≤ _; exact Nat.le_of_eq rfl) (hb hby at_119) rfl (by decide) (by decide) (fun v14 T14 L14 X14 hQ14 => ?_)
    obtain ⟨rfl, Nq14, e14⟩ := hQ14
    have N14 := Fr.app N8 Nq14
    show Ends p e below s _ _ _ (T14.setTop (mkF m 122 #[.val (.long z0), .second, d2, d3, .val (.ref a_q2), .val (.int x5), .val (.int x6), .val (.ref a1), .unset] [(.int (F5 K x5 (F3 (1 : Int32) (0 : Int32) 8 cf_q2) 8 cf_q2))]))
    refine Ends.step (u' := (T14.setTop (mkF m 124 #[.val (.long z0), .second, d2, d3, .val (.ref a_q2), .val (.int x5), .val (.int x6), .val (.ref a1), .val (.int (F5 K x5 (F3 (1 : Int32) (0 : Int32) 8 cf_q2) 8 cf_q2))] []))) ?_ (fun _ k => XS.istore X14.here hx rfl (hb hby at_122) rfl (l' := #[.val (.long z0), .second, d2, d3, .val (.ref a_q2), .val (.int x5), .val (.int x6), .val (.ref a1), .val (.int (F5 K x5 (F3 (1 : Int32) (0 : Int32) 8 cf_q2) 8 cf_q2))]) rfl k)
    exact b124 T14 _ _ X14 e14 N14 Z13 x6 (F5 K x5 (F3 (1 : Int32) (0 : Int32) 8 cf_q2) 8 cf_q2) z0 (d2) od2 (d3) od3 (.val (.ref a_q2)) (Or.inr ⟨_, rfl, rfl⟩) (.val (.int x5)) (Or.inr ⟨_, rfl, rfl⟩) (.val (.ref a1)) (Or.inr ⟨_, rfl, rfl⟩)
  have b94 : ∀ (T : State) (L : List Loc) (h : Heap) (X : Stand p l e room_1 s m #[(.long p0), (.int p1), (.int p2)] below meth c T L 1 8) (eT : T.heap = h) (N : Fr n0 L) (Zs : n0 ≤ h.size) (cf_q2 : Nat → Int32) (x5 : Int32) (z0 : Int64) (d2 : Slot) (od2 : OneS d2) (d3 : Slot) (od3 : OneS d3) (a_q2 : Addr) (g_q2 : n0 ≤ a_q2) (A_q2 : Ar Z h a_q2 .byte 8 cf_q2) (ok : (O0_94 K cf_q2 x5)), Ends p e below s 2 10 (Q0 Z  h0 n0 (F0_94 K cf_q2 x5)) (T.setTop (mkF m 94 #[.val (.long z0), .second, d2, d3, .val (.ref a_q2), .val (.int x5), .unset, .unset, .unset] [])) := by
    intro T L h X eT N Zs cf_q2 x5 z0 d2 od2 d3 od3 a_q2 g_q2 A_q2 ok
    obtain ⟨o1, ok⟩ := ok
    refine Ends.step (u' := (T.setTop (mkF m 96 #[.val (.long z0), .second, d2, d3, .val (.ref a_q2), .val (.int x5), .unset, .unset, .unset] [(.ref a_q2)]))) ?_ (fun _ k => XS.aload X.here hx rfl (hb hby at_94) rfl rfl k)
    refine Ends.step (u' := (T.setTop (mkF m 98 #[.val (.long z0), .second, d2, d3, .val (.ref a_q2), .val (.int x5), .unset, .unset, .unset] [(.int x5), (.ref a_q2)]))) ?_ (fun _ k => XS.iload X.here hx rfl (hb hby at_96) rfl k)
    refine Ends.callS X hx hZ hown (hw _ (List.mem_of_getElem? (i := 6) rfl)) (hw _ (List.mem_of_getElem? (i := 7) rfl)) (hw _ (List.mem_of_getElem? (i := 3) rfl)) (hw _ (List.mem_of_getElem? (i := 8) rfl)) (by decide) (rm2 l Z a0 hw x5 8 cf_q2 a_q2 h n0 Zs A_q2 o1) 0 (by decide) (by decide) eT  (g := (mkF m 98 #[.val (.long z0), .second, d2, d3, .val (.ref a_q2), .val (.int x5), .unset, .unset, .unset] [(.int x5), (.ref a_q2)])) rfl (by rw [hml]; rfl)  [(.ref a_q2), (.int x5)] [] (lenOf pd_1 rfl) rfl (by show 2 * 0 + _ ≤ _; exact Nat.le_of_eq rfl) (hb hby at_98) rfl (by decide) (by decide) (fun v15 T15 L15 X15 hQ15 => ?_)
    obtain ⟨rfl, Nq15, e15⟩ := hQ15
    have N15 := Fr.app N Nq15
    show Ends p e below s _ _ _ (T15.setTop (mkF m 101 #[.val (.long z0), .second, d2, d3, .val (.ref a_q2), .val (.int x5), .unset, .unset, .unset] [(.int (F2 x5 8 cf_q2))]))
    refine Ends.step (u' := (T15.setTop (mkF m 103 #[.val (.long z0), .second, d2, d3, .val (.ref a_q2), .val (.int x5), .val (.int (F2 x5 8 cf_q2)), .unset, .unset] []))) ?_ (fun _ k => XS.istore X15.here hx rfl (hb hby at_101) rfl (l' := #[.val (.long z0), .second, d2, d3, .val (.ref a_q2), .val (.int x5), .val (.int (F2 x5 8 cf_q2)), .unset, .unset]) rfl k)
    exact b103 T15 _ _ X15 e15 N15 Zs cf_q2 x5 (F2 x5 8 cf_q2) z0 (d2) od2 (d3) od3 a_q2 g_q2 A_q2 ok
  refine Ends.step (u' := (s₁.setTop (mkF m 0 #[.val (.long p0), .second, .val (.int p1), .val (.int p2), .unset, .unset, .unset, .unset, .unset] []))) ?_ (fun _ k => castTop (ef_0 m p0 p1 p2) k)
  refine Ends.step (u' := (s₁.setTop (mkF m 2 #[.val (.long p0), .second, .val (.int p1), .val (.int p2), .unset, .unset, .unset, .unset, .unset] [(.int (8 : Int32))]))) ?_ (fun _ k => XT.bipushV X0.here hx rfl (8 : Int32) (hb hby at_0) rfl k)
  refine Ends.newA X0 hx hZ (hw _ (List.mem_of_getElem? (i := 0) rfl)) e0 (g := (mkF m 2 #[.val (.long p0), .second, .val (.int p1), .val (.int p2), .unset, .unset, .unset, .unset, .unset] [(.int (8 : Int32))])) rfl (hb hby at_2) rfl rfl (by decide) 8 (by decide) (by decide) (by decide) (by decide) (fun T16 h16 a16 X16 e16 E16 q16 A16 => ?_)
  have g17 : n0 ≤ a16 := q16 ▸ Z0
  have Z18 := Nat.le_trans Z0 E16.1
  show Ends p e below s _ _ _ (T16.setTop (mkF m 4 #[.val (.long p0), .second, .val (.int p1), .val (.int p2), .unset, .unset, .unset, .unset, .unset] [(.ref a16)]))
  refine Ends.step (u' := (T16.setTop (mkF m 6 #[.val (.long p0), .second, .val (.int p1), .val (.int p2), .val (.ref a16), .unset, .unset, .unset, .unset] []))) ?_ (fun _ k => XS.astore X16.here hx rfl (hb hby at_4) rfl rfl (l' := #[.val (.long p0), .second, .val (.int p1), .val (.int p2), .val (.ref a16), .unset, .unset, .unset, .unset]) rfl k)
  refine Ends.step (u' := (T16.setTop (mkF m 8 #[.val (.long p0), .second, .val (.int p1), .val (.int p2), .val (.ref a16), .unset, .unset, .unset, .unset] [(.ref a16)]))) ?_ (fun _ k => XS.aload X16.here hx rfl (hb hby at_6) rfl rfl k)
  refine Ends.step (u' := (T16.setTop (mkF m 9 #[.val (.long p0), .second, .val (.int p1), .val (.int p2), .val (.ref a16), .unset, .unset, .unset, .unset] [(.int (0 : Int32)), (.ref a16)]))) ?_ (fun _ k => XT.iconstV X16.here hx rfl (0 : Int32) (hb hby at_8) rfl k)
  refine Ends.step (u' := (T16.setTop (mkF m 10 #[.val (.long p0), .second, .val (.int p1), .val (.int p2), .val (.ref a16), .unset, .unset, .unset, .unset] [(.long p0), (.int (0 : Int32)), (.ref a16)]))) ?_ (fun _ k => XT.lloadN X16.here hx rfl (hb hby at_9) rfl k)
  refine Ends.step (u' := (T16.setTop (mkF m 11 #[.val (.long p0), .second, .val (.int p1), .val (.int p2), .val (.ref a16), .unset, .unset, .unset, .unset] [(.int p1), (.long p0), (.int (0 : Int32)), (.ref a16)]))) ?_ (fun _ k => XS.iloadN X16.here hx rfl (hb hby at_10) rfl k)
  refine Ends.step (u' := (T16.setTop (mkF m 12 #[.val (.long p0), .second, .val (.int p1), .val (.int p2), .val (.ref a16), .unset, .unset, .unset, .unset] [(.int (0 : Int32)), (.int p1), (.long p0), (.int (0 : Int32)), (.ref a16)]))) ?_ (fun _ k => XT.iconstV X16.here hx rfl (0 : Int32) (hb hby at_11) rfl k)
  refine Ends.callS X16 hx hZ hown (hw _ (List.mem_of_getElem? (i := 1) rfl)) (hw _ (List.mem_of_getElem? (i := 2) rfl)) (hw _ (List.mem_of_getElem? (i := 3) rfl)) (hw _ (List.mem_of_getElem? (i := 4) rfl)) (by decide) (rm1 l Z a0 hw p0 p1 (0 : Int32) h16 n0 Z18) 2 (by decide) (by decide) e16  (g := (mkF m 12 #[.val (.long p0), .second, .val (.int p1), .val (.int p2), .val (.ref a16), .unset, .unset, .unset, .unset] [(.int (0 : Int32)), (.int p1), (.long p0), (.int (0 : Int32)), (.ref a16)])) rfl (by rw [hml]; rfl)  [(.long p0), (.int p1), (.int (0 : Int32))] [(.int (0 : Int32)), (.ref a16)] (lenOf pd_0 rfl) rfl (by show 2 * 0 + _ ≤ _; exact Nat.le_of_eq rfl) (hb hby at_12) rfl (by decide) (by decide) (fun v19 T19 L19 X19 hQ19 => ?_)
  obtain ⟨rfl, Nq19, e19⟩ := hQ19
  have N19 := Fr.app N0 Nq19
  show Ends p e below s _ _ _ (T19.setTop (mkF m 15 #[.val (.long p0), .second, .val (.int p1), .val (.int p2), .val (.ref a16), .unset, .unset, .unset, .unset] [(.int (F1 p0 p1 (0 : Int32))), (.int (0 : Int32)), (.ref a16)]))
  refine Ends.bastore X19 hx hZ e19 A16 (by unfold inb; decide) N19 g17 (g := (mkF m 15 #[.val (.long p0), .second, .val (.int p1), .val (.int p2), .val (.ref a16), .unset, .unset, .unset, .unset] [(.int (F1 p0 p1 (0 : Int32))), (.int (0 : Int32)), (.ref a16)])) rfl rfl (hb hby at_15) (fun T20 h20 sl20 X20 e20 N20 W20 A20 => ?_)
  show Ends p e below s _ _ _ (T20.setTop (mkF m 16 #[.val (.long p0), .second, .val (.int p1), .val (.int p2), .val (.ref a16), .unset, .unset, .unset, .unset] []))
  have Z21 : n0 ≤ h20.size := W20.size.symm ▸ Z18
  refine Ends.step (u' := (T20.setTop (mkF m 18 #[.val (.long p0), .second, .val (.int p1), .val (.int p2), .val (.ref a16), .unset, .unset, .unset, .unset] [(.ref a16)]))) ?_ (fun _ k => XS.aload X20.here hx rfl (hb hby at_16) rfl rfl k)
  refine Ends.step (u' := (T20.setTop (mkF m 19 #[.val (.long p0), .second, .val (.int p1), .val (.int p2), .val (.ref a16), .unset, .unset, .unset, .unset] [(.int (1 : Int32)), (.ref a16)]))) ?_ (fun _ k => XT.iconstV X20.here hx rfl (1 : Int32) (hb hby at_18) rfl k)
  refine Ends.step (u' := (T20.setTop (mkF m 20 #[.val (.long p0), .second, .val (.int p1), .val (.int p2), .val (.ref a16), .unset, .unset, .unset, .unset] [(.long p0), (.int (1 : Int32)), (.ref a16)]))) ?_ (fun _ k => XT.lloadN X20.here hx rfl (hb hby at_19) rfl k)
  refine Ends.step (u' := (T20.setTop (mkF m 21 #[.val (.long p0), .second, .val (.int p1), .val (.int p2), .val (.ref a16), .unset, .unset, .unset, .unset] [(.int p1), (.long p0), (.int (1 : Int32)), (.ref a16)]))) ?_ (fun _ k => XS.iloadN X20.here hx rfl (hb hby at_20) rfl k)
  refine Ends.step (u' := (T20.setTop (mkF m 22 #[.val (.long p0), .second, .val (.int p1), .val (.int p2), .val (.ref a16), .unset, .unset, .unset, .unset] [(.int (1 : Int32)), (.int p1), (.long p0), (.int (1 : Int32)), (.ref a16)]))) ?_ (fun _ k => XT.iconstV X20.here hx rfl (1 : Int32) (hb hby at_21) rfl k)
  refine Ends.callS X20 hx hZ hown (hw _ (List.mem_of_getElem? (i := 1) rfl)) (hw _ (List.mem_of_getElem? (i := 2) rfl)) (hw _ (List.mem_of_getElem? (i := 3) rfl)) (hw _ (List.mem_of_getElem? (i := 4) rfl)) (by decide) (rm1 l Z a0 hw p0 p1 (1 : Int32) h20 n0 Z21) 2 (by decide) (by decide) e20  (g := (mkF m 22 #[.val (.long p0), .second, .val (.int p1), .val (.int p2), .val (.ref a16), .unset, .unset, .unset, .unset] [(.int (1 : Int32)), (.int p1), (.long p0), (.int (1 : Int32)), (.ref a16)])) rfl (by rw [hml]; rfl)  [(.long p0), (.int p1), (.int (1 : Int32))] [(.int (1 : Int32)), (.ref a16)] (lenOf pd_0 rfl) rfl (by show 2 * 0 + _ ≤ _; exact Nat.le_of_eq rfl) (hb hby at_22) rfl (by decide) (by decide) (fun v22 T22 L22 X22 hQ22 => ?_)
  obtain ⟨rfl, Nq22, e22⟩ := hQ22
  have N22 := Fr.app N20 Nq22
  show Ends p e below s _ _ _ (T22.setTop (mkF m 25 #[.val (.long p0), .second, .val (.int p1), .val (.int p2), .val (.ref a16), .unset, .unset, .unset, .unset] [(.int (F1 p0 p1 (1 : Int32))), (.int (1 : Int32)), (.ref a16)]))
  refine Ends.bastore X22 hx hZ e22 A20 (by unfold inb; decide) N22 g17 (g := (mkF m 25 #[.val (.long p0), .second, .val (.int p1), .val (.int p2), .val (.ref a16), .unset, .unset, .unset, .unset] [(.int (F1 p0 p1 (1 : Int32))), (.int (1 : Int32)), (.ref a16)])) rfl rfl (hb hby at_25) (fun T23 h23 sl23 X23 e23 N23 W23 A23 => ?_)
  show Ends p e below s _ _ _ (T23.setTop (mkF m 26 #[.val (.long p0), .second, .val (.int p1), .val (.int p2), .val (.ref a16), .unset, .unset, .unset, .unset] []))
  have Z24 : n0 ≤ h23.size := W23.size.symm ▸ Z21
  refine Ends.step (u' := (T23.setTop (mkF m 28 #[.val (.long p0), .second, .val (.int p1), .val (.int p2), .val (.ref a16), .unset, .unset, .unset, .unset] [(.ref a16)]))) ?_ (fun _ k => XS.aload X23.here hx rfl (hb hby at_26) rfl rfl k)
  refine Ends.step (u' := (T23.setTop (mkF m 29 #[.val (.long p0), .second, .val (.int p1), .val (.int p2), .val (.ref a16), .unset, .unset, .unset, .unset] [(.int (2 : Int32)), (.ref a16)]))) ?_ (fun _ k => XT.iconstV X23.here hx rfl (2 : Int32) (hb hby at_28) rfl k)
  refine Ends.step (u' := (T23.setTop (mkF m 30 #[.val (.long p0), .second, .val (.int p1), .val (.int p2), .val (.ref a16), .unset, .unset, .unset, .unset] [(.long p0), (.int (2 : Int32)), (.ref a16)]))) ?_ (fun _ k => XT.lloadN X23.here hx rfl (hb hby at_29) rfl k)
  refine Ends.step (u' := (T23.setTop (mkF m 31 #[.val (.long p0), .second, .val (.int p1), .val (.int p2), .val (.ref a16), .unset, .unset, .unset, .unset] [(.int p1), (.long p0), (.int (2 : Int32)), (.ref a16)]))) ?_ (fun _ k => XS.iloadN X23.here hx rfl (hb hby at_30) rfl k)
  refine Ends.step (u' := (T23.setTop (mkF m 32 #[.val (.long p0), .second, .val (.int p1), .val (.int p2), .val (.ref a16), .unset, .unset, .unset, .unset] [(.int (2 : Int32)), (.int p1), (.long p0), (.int (2 : Int32)), (.ref a16)]))) ?_ (fun _ k => XT.iconstV X23.here hx rfl (2 : Int32) (hb hby at_31) rfl k)
  refine Ends.callS X23 hx hZ hown (hw _ (List.mem_of_getElem? (i := 1) rfl)) (hw _ (List.mem_of_getElem? (i := 2) rfl)) (hw _ (List.mem_of_getElem? (i := 3) rfl)) (hw _ (List.mem_of_getElem? (i := 4) rfl)) (by decide) (rm1 l Z a0 hw p0 p1 (2 : Int32) h23 n0 Z24) 2 (by decide) (by decide) e23  (g := (mkF m 32 #[.val (.long p0), .second, .val (.int p1), .val (.int p2), .val (.ref a16), .unset, .unset, .unset, .unset] [(.int (2 : Int32)), (.int p1), (.long p0), (.int (2 : Int32)), (.ref a16)])) rfl (by rw [hml]; rfl)  [(.long p0), (.int p1), (.int (2 : Int32))] [(.int (2 : Int32)), (.ref a16)] (lenOf pd_0 rfl) rfl (by show 2 * 0 + _ ≤ _; exact Nat.le_of_eq rfl) (hb hby at_32) rfl (by decide) (by decide) (fun v25 T25 L25 X25 hQ25 => ?_)
  obtain ⟨rfl, Nq25, e25⟩ := hQ25
  have N25 := Fr.app N23 Nq25
  show Ends p e below s _ _ _ (T25.setTop (mkF m 35 #[.val (.long p0), .second, .val (.int p1), .val (.int p2), .val (.ref a16), .unset, .unset, .unset, .unset] [(.int (F1 p0 p1 (2 : Int32))), (.int (2 : Int32)), (.ref a16)]))
  refine Ends.bastore X25 hx hZ e25 A23 (by unfold inb; decide) N25 g17 (g := (mkF m 35 #[.val (.long p0), .second, .val (.int p1), .val (.int p2), .val (.ref a16), .unset, .unset, .unset, .unset] [(.int (F1 p0 p1 (2 : Int32))), (.int (2 : Int32)), (.ref a16)])) rfl rfl (hb hby at_35) (fun T26 h26 sl26 X26 e26 N26 W26 A26 => ?_)
  show Ends p e below s _ _ _ (T26.setTop (mkF m 36 #[.val (.long p0), .second, .val (.int p1), .val (.int p2), .val (.ref a16), .unset, .unset, .unset, .unset] []))
  have Z27 : n0 ≤ h26.size := W26.size.symm ▸ Z24
  refine Ends.step (u' := (T26.setTop (mkF m 38 #[.val (.long p0), .second, .val (.int p1), .val (.int p2), .val (.ref a16), .unset, .unset, .unset, .unset] [(.ref a16)]))) ?_ (fun _ k => XS.aload X26.here hx rfl (hb hby at_36) rfl rfl k)
  refine Ends.step (u' := (T26.setTop (mkF m 39 #[.val (.long p0), .second, .val (.int p1), .val (.int p2), .val (.ref a16), .unset, .unset, .unset, .unset] [(.int (3 : Int32)), (.ref a16)]))) ?_ (fun _ k => XT.iconstV X26.here hx rfl (3 : Int32) (hb hby at_38) rfl k)
  refine Ends.step (u' := (T26.setTop (mkF m 40 #[.val (.long p0), .second, .val (.int p1), .val (.int p2), .val (.ref a16), .unset, .unset, .unset, .unset] [(.long p0), (.int (3 : Int32)), (.ref a16)]))) ?_ (fun _ k => XT.lloadN X26.here hx rfl (hb hby at_39) rfl k)
  refine Ends.step (u' := (T26.setTop (mkF m 41 #[.val (.long p0), .second, .val (.int p1), .val (.int p2), .val (.ref a16), .unset, .unset, .unset, .unset] [(.int p1), (.long p0), (.int (3 : Int32)), (.ref a16)]))) ?_ (fun _ k => XS.iloadN X26.here hx rfl (hb hby at_40) rfl k)
  refine Ends.step (u' := (T26.setTop (mkF m 42 #[.val (.long p0), .second, .val (.int p1), .val (.int p2), .val (.ref a16), .unset, .unset, .unset, .unset] [(.int (3 : Int32)), (.int p1), (.long p0), (.int (3 : Int32)), (.ref a16)]))) ?_ (fun _ k => XT.iconstV X26.here hx rfl (3 : Int32) (hb hby at_41) rfl k)
  refine Ends.callS X26 hx hZ hown (hw _ (List.mem_of_getElem? (i := 1) rfl)) (hw _ (List.mem_of_getElem? (i := 2) rfl)) (hw _ (List.mem_of_getElem? (i := 3) rfl)) (hw _ (List.mem_of_getElem? (i := 4) rfl)) (by decide) (rm1 l Z a0 hw p0 p1 (3 : Int32) h26 n0 Z27) 2 (by decide) (by decide) e26  (g := (mkF m 42 #[.val (.long p0), .second, .val (.int p1), .val (.int p2), .val (.ref a16), .unset, .unset, .unset, .unset] [(.int (3 : Int32)), (.int p1), (.long p0), (.int (3 : Int32)), (.ref a16)])) rfl (by rw [hml]; rfl)  [(.long p0), (.int p1), (.int (3 : Int32))] [(.int (3 : Int32)), (.ref a16)] (lenOf pd_0 rfl) rfl (by show 2 * 0 + _ ≤ _; exact Nat.le_of_eq rfl) (hb hby at_42) rfl (by decide) (by decide) (fun v28 T28 L28 X28 hQ28 => ?_)
  obtain ⟨rfl, Nq28, e28⟩ := hQ28
  have N28 := Fr.app N26 Nq28
  show Ends p e below s _ _ _ (T28.setTop (mkF m 45 #[.val (.long p0), .second, .val (.int p1), .val (.int p2), .val (.ref a16), .unset, .unset, .unset, .unset] [(.int (F1 p0 p1 (3 : Int32))), (.int (3 : Int32)), (.ref a16)]))
  refine Ends.bastore X28 hx hZ e28 A26 (by unfold inb; decide) N28 g17 (g := (mkF m 45 #[.val (.long p0), .second, .val (.int p1), .val (.int p2), .val (.ref a16), .unset, .unset, .unset, .unset] [(.int (F1 p0 p1 (3 : Int32))), (.int (3 : Int32)), (.ref a16)])) rfl rfl (hb hby at_45) (fun T29 h29 sl29 X29 e29 N29 W29 A29 => ?_)
  show Ends p e below s _ _ _ (T29.setTop (mkF m 46 #[.val (.long p0), .second, .val (.int p1), .val (.int p2), .val (.ref a16), .unset, .unset, .unset, .unset] []))
  have Z30 : n0 ≤ h29.size := W29.size.symm ▸ Z27
  refine Ends.step (u' := (T29.setTop (mkF m 48 #[.val (.long p0), .second, .val (.int p1), .val (.int p2), .val (.ref a16), .unset, .unset, .unset, .unset] [(.ref a16)]))) ?_ (fun _ k => XS.aload X29.here hx rfl (hb hby at_46) rfl rfl k)
  refine Ends.step (u' := (T29.setTop (mkF m 49 #[.val (.long p0), .second, .val (.int p1), .val (.int p2), .val (.ref a16), .unset, .unset, .unset, .unset] [(.int (4 : Int32)), (.ref a16)]))) ?_ (fun _ k => XT.iconstV X29.here hx rfl (4 : Int32) (hb hby at_48) rfl k)
  refine Ends.step (u' := (T29.setTop (mkF m 50 #[.val (.long p0), .second, .val (.int p1), .val (.int p2), .val (.ref a16), .unset, .unset, .unset, .unset] [(.long p0), (.int (4 : Int32)), (.ref a16)]))) ?_ (fun _ k => XT.lloadN X29.here hx rfl (hb hby at_49) rfl k)
  refine Ends.step (u' := (T29.setTop (mkF m 51 #[.val (.long p0), .second, .val (.int p1), .val (.int p2), .val (.ref a16), .unset, .unset, .unset, .unset] [(.int p1), (.long p0), (.int (4 : Int32)), (.ref a16)]))) ?_ (fun _ k => XS.iloadN X29.here hx rfl (hb hby at_50) rfl k)
  refine Ends.step (u' := (T29.setTop (mkF m 52 #[.val (.long p0), .second, .val (.int p1), .val (.int p2), .val (.ref a16), .unset, .unset, .unset, .unset] [(.int (4 : Int32)), (.int p1), (.long p0), (.int (4 : Int32)), (.ref a16)]))) ?_ (fun _ k => XT.iconstV X29.here hx rfl (4 : Int32) (hb hby at_51) rfl k)
  refine Ends.callS X29 hx hZ hown (hw _ (List.mem_of_getElem? (i := 1) rfl)) (hw _ (List.mem_of_getElem? (i := 2) rfl)) (hw _ (List.mem_of_getElem? (i := 3) rfl)) (hw _ (List.mem_of_getElem? (i := 4) rfl)) (by decide) (rm1 l Z a0 hw p0 p1 (4 : Int32) h29 n0 Z30) 2 (by decide) (by decide) e29  (g := (mkF m 52 #[.val (.long p0), .second, .val (.int p1), .val (.int p2), .val (.ref a16), .unset, .unset, .unset, .unset] [(.int (4 : Int32)), (.int p1), (.long p0), (.int (4 : Int32)), (.ref a16)])) rfl (by rw [hml]; rfl)  [(.long p0), (.int p1), (.int (4 : Int32))] [(.int (4 : Int32)), (.ref a16)] (lenOf pd_0 rfl) rfl (by show 2 * 0 + _ ≤ _; exact Nat.le_of_eq rfl) (hb hby at_52) rfl (by decide) (by decide) (fun v31 T31 L31 X31 hQ31 => ?_)
  obtain ⟨rfl, Nq31, e31⟩ := hQ31
  have N31 := Fr.app N29 Nq31
  show Ends p e below s _ _ _ (T31.setTop (mkF m 55 #[.val (.long p0), .second, .val (.int p1), .val (.int p2), .val (.ref a16), .unset, .unset, .unset, .unset] [(.int (F1 p0 p1 (4 : Int32))), (.int (4 : Int32)), (.ref a16)]))
  refine Ends.bastore X31 hx hZ e31 A29 (by unfold inb; decide) N31 g17 (g := (mkF m 55 #[.val (.long p0), .second, .val (.int p1), .val (.int p2), .val (.ref a16), .unset, .unset, .unset, .unset] [(.int (F1 p0 p1 (4 : Int32))), (.int (4 : Int32)), (.ref a16)])) rfl rfl (hb hby at_55) (fun T32 h32 sl32 X32 e32 N32 W32 A32 => ?_)
  show Ends p e below s _ _ _ (T32.setTop (mkF m 56 #[.val (.long p0), .second, .val (.int p1), .val (.int p2), .val (.ref a16), .unset, .unset, .unset, .unset] []))
  have Z33 : n0 ≤ h32.size := W32.size.symm ▸ Z30
  refine Ends.step (u' := (T32.setTop (mkF m 58 #[.val (.long p0), .second, .val (.int p1), .val (.int p2), .val (.ref a16), .unset, .unset, .unset, .unset] [(.ref a16)]))) ?_ (fun _ k => XS.aload X32.here hx rfl (hb hby at_56) rfl rfl k)
  refine Ends.step (u' := (T32.setTop (mkF m 59 #[.val (.long p0), .second, .val (.int p1), .val (.int p2), .val (.ref a16), .unset, .unset, .unset, .unset] [(.int (5 : Int32)), (.ref a16)]))) ?_ (fun _ k => XT.iconstV X32.here hx rfl (5 : Int32) (hb hby at_58) rfl k)
  refine Ends.step (u' := (T32.setTop (mkF m 60 #[.val (.long p0), .second, .val (.int p1), .val (.int p2), .val (.ref a16), .unset, .unset, .unset, .unset] [(.long p0), (.int (5 : Int32)), (.ref a16)]))) ?_ (fun _ k => XT.lloadN X32.here hx rfl (hb hby at_59) rfl k)
  refine Ends.step (u' := (T32.setTop (mkF m 61 #[.val (.long p0), .second, .val (.int p1), .val (.int p2), .val (.ref a16), .unset, .unset, .unset, .unset] [(.int p1), (.long p0), (.int (5 : Int32)), (.ref a16)]))) ?_ (fun _ k => XS.iloadN X32.here hx rfl (hb hby at_60) rfl k)
  refine Ends.step (u' := (T32.setTop (mkF m 62 #[.val (.long p0), .second, .val (.int p1), .val (.int p2), .val (.ref a16), .unset, .unset, .unset, .unset] [(.int (5 : Int32)), (.int p1), (.long p0), (.int (5 : Int32)), (.ref a16)]))) ?_ (fun _ k => XT.iconstV X32.here hx rfl (5 : Int32) (hb hby at_61) rfl k)
  refine Ends.callS X32 hx hZ hown (hw _ (List.mem_of_getElem? (i := 1) rfl)) (hw _ (List.mem_of_getElem? (i := 2) rfl)) (hw _ (List.mem_of_getElem? (i := 3) rfl)) (hw _ (List.mem_of_getElem? (i := 4) rfl)) (by decide) (rm1 l Z a0 hw p0 p1 (5 : Int32) h32 n0 Z33) 2 (by decide) (by decide) e32  (g := (mkF m 62 #[.val (.long p0), .second, .val (.int p1), .val (.int p2), .val (.ref a16), .unset, .unset, .unset, .unset] [(.int (5 : Int32)), (.int p1), (.long p0), (.int (5 : Int32)), (.ref a16)])) rfl (by rw [hml]; rfl)  [(.long p0), (.int p1), (.int (5 : Int32))] [(.int (5 : Int32)), (.ref a16)] (lenOf pd_0 rfl) rfl (by show 2 * 0 + _ ≤ _; exact Nat.le_of_eq rfl) (hb hby at_62) rfl (by decide) (by decide) (fun v34 T34 L34 X34 hQ34 => ?_)
  obtain ⟨rfl, Nq34, e34⟩ := hQ34
  have N34 := Fr.app N32 Nq34
  show Ends p e below s _ _ _ (T34.setTop (mkF m 65 #[.val (.long p0), .second, .val (.int p1), .val (.int p2), .val (.ref a16), .unset, .unset, .unset, .unset] [(.int (F1 p0 p1 (5 : Int32))), (.int (5 : Int32)), (.ref a16)]))
  refine Ends.bastore X34 hx hZ e34 A32 (by unfold inb; decide) N34 g17 (g := (mkF m 65 #[.val (.long p0), .second, .val (.int p1), .val (.int p2), .val (.ref a16), .unset, .unset, .unset, .unset] [(.int (F1 p0 p1 (5 : Int32))), (.int (5 : Int32)), (.ref a16)])) rfl rfl (hb hby at_65) (fun T35 h35 sl35 X35 e35 N35 W35 A35 => ?_)
  show Ends p e below s _ _ _ (T35.setTop (mkF m 66 #[.val (.long p0), .second, .val (.int p1), .val (.int p2), .val (.ref a16), .unset, .unset, .unset, .unset] []))
  have Z36 : n0 ≤ h35.size := W35.size.symm ▸ Z33
  refine Ends.step (u' := (T35.setTop (mkF m 68 #[.val (.long p0), .second, .val (.int p1), .val (.int p2), .val (.ref a16), .unset, .unset, .unset, .unset] [(.ref a16)]))) ?_ (fun _ k => XS.aload X35.here hx rfl (hb hby at_66) rfl rfl k)
  refine Ends.step (u' := (T35.setTop (mkF m 70 #[.val (.long p0), .second, .val (.int p1), .val (.int p2), .val (.ref a16), .unset, .unset, .unset, .unset] [(.int (6 : Int32)), (.ref a16)]))) ?_ (fun _ k => XT.bipushV X35.here hx rfl (6 : Int32) (hb hby at_68) rfl k)
  refine Ends.step (u' := (T35.setTop (mkF m 71 #[.val (.long p0), .second, .val (.int p1), .val (.int p2), .val (.ref a16), .unset, .unset, .unset, .unset] [(.long p0), (.int (6 : Int32)), (.ref a16)]))) ?_ (fun _ k => XT.lloadN X35.here hx rfl (hb hby at_70) rfl k)
  refine Ends.step (u' := (T35.setTop (mkF m 72 #[.val (.long p0), .second, .val (.int p1), .val (.int p2), .val (.ref a16), .unset, .unset, .unset, .unset] [(.int p1), (.long p0), (.int (6 : Int32)), (.ref a16)]))) ?_ (fun _ k => XS.iloadN X35.here hx rfl (hb hby at_71) rfl k)
  refine Ends.step (u' := (T35.setTop (mkF m 74 #[.val (.long p0), .second, .val (.int p1), .val (.int p2), .val (.ref a16), .unset, .unset, .unset, .unset] [(.int (6 : Int32)), (.int p1), (.long p0), (.int (6 : Int32)), (.ref a16)]))) ?_ (fun _ k => XT.bipushV X35.here hx rfl (6 : Int32) (hb hby at_72) rfl k)
  refine Ends.callS X35 hx hZ hown (hw _ (List.mem_of_getElem? (i := 1) rfl)) (hw _ (List.mem_of_getElem? (i := 2) rfl)) (hw _ (List.mem_of_getElem? (i := 3) rfl)) (hw _ (List.mem_of_getElem? (i := 4) rfl)) (by decide) (rm1 l Z a0 hw p0 p1 (6 : Int32) h35 n0 Z36) 2 (by decide) (by decide) e35  (g := (mkF m 74 #[.val (.long p0), .second, .val (.int p1), .val (.int p2), .val (.ref a16), .unset, .unset, .unset, .unset] [(.int (6 : Int32)), (.int p1), (.long p0), (.int (6 : Int32)), (.ref a16)])) rfl (by rw [hml]; rfl)  [(.long p0), (.int p1), (.int (6 : Int32))] [(.int (6 : Int32)), (.ref a16)] (lenOf pd_0 rfl) rfl (by show 2 * 0 + _ ≤ _; exact Nat.le_of_eq rfl) (hb hby at_74) rfl (by decide) (by decide) (fun v37 T37 L37 X37 hQ37 => ?_)
  obtain ⟨rfl, Nq37, e37⟩ := hQ37
  have N37 := Fr.app N35 Nq37
  show Ends p e below s _ _ _ (T37.setTop (mkF m 77 #[.val (.long p0), .second, .val (.int p1), .val (.int p2), .val (.ref a16), .unset, .unset, .unset, .unset] [(.int (F1 p0 p1 (6 : Int32))), (.int (6 : Int32)), (.ref a16)]))
  refine Ends.bastore X37 hx hZ e37 A35 (by unfold inb; decide) N37 g17 (g := (mkF m 77 #[.val (.long p0), .second, .val (.int p1), .val (.int p2), .val (.ref a16), .unset, .unset, .unset, .unset] [(.int (F1 p0 p1 (6 : Int32))), (.int (6 : Int32)), (.ref a16)])) rfl rfl (hb hby at_77) (fun T38 h38 sl38 X38 e38 N38 W38 A38 => ?_)
  show Ends p e below s _ _ _ (T38.setTop (mkF m 78 #[.val (.long p0), .second, .val (.int p1), .val (.int p2), .val (.ref a16), .unset, .unset, .unset, .unset] []))
  have Z39 : n0 ≤ h38.size := W38.size.symm ▸ Z36
  refine Ends.step (u' := (T38.setTop (mkF m 80 #[.val (.long p0), .second, .val (.int p1), .val (.int p2), .val (.ref a16), .unset, .unset, .unset, .unset] [(.ref a16)]))) ?_ (fun _ k => XS.aload X38.here hx rfl (hb hby at_78) rfl rfl k)
  refine Ends.step (u' := (T38.setTop (mkF m 82 #[.val (.long p0), .second, .val (.int p1), .val (.int p2), .val (.ref a16), .unset, .unset, .unset, .unset] [(.int (7 : Int32)), (.ref a16)]))) ?_ (fun _ k => XT.bipushV X38.here hx rfl (7 : Int32) (hb hby at_80) rfl k)
  refine Ends.step (u' := (T38.setTop (mkF m 84 #[.val (.long p0), .second, .val (.int p1), .val (.int p2), .val (.ref a16), .unset, .unset, .unset, .unset] [(.int (10 : Int32)), (.int (7 : Int32)), (.ref a16)]))) ?_ (fun _ k => XT.bipushV X38.here hx rfl (10 : Int32) (hb hby at_82) rfl k)
  refine Ends.bastore X38 hx hZ e38 A38 (by unfold inb; decide) N38 g17 (g := (mkF m 84 #[.val (.long p0), .second, .val (.int p1), .val (.int p2), .val (.ref a16), .unset, .unset, .unset, .unset] [(.int (10 : Int32)), (.int (7 : Int32)), (.ref a16)])) rfl rfl (hb hby at_84) (fun T40 h40 sl40 X40 e40 N40 W40 A40 => ?_)
  show Ends p e below s _ _ _ (T40.setTop (mkF m 85 #[.val (.long p0), .second, .val (.int p1), .val (.int p2), .val (.ref a16), .unset, .unset, .unset, .unset] []))
  have Z41 : n0 ≤ h40.size := W40.size.symm ▸ Z39
  refine Ends.step (u' := (T40.setTop (mkF m 86 #[.val (.long p0), .second, .val (.int p1), .val (.int p2), .val (.ref a16), .unset, .unset, .unset, .unset] [(.int p2)]))) ?_ (fun _ k => XS.iloadN X40.here hx rfl (hb hby at_85) rfl k)
  refine Ends.step (u' := (T40.setTop (mkF m 88 #[.val (.long p0), .second, .val (.int p1), .val (.int p2), .val (.ref a16), .unset, .unset, .unset, .unset] [(.int (2147483647 : Int32)), (.int p2)]))) ?_ (fun _ k => X40.ldcI hx hown (mvT hZ (hw _ (List.mem_of_getElem? (i := 5) rfl))) rfl (hb hby at_86) k)
  refine Ends.step (u' := (T40.setTop (mkF m 89 #[.val (.long p0), .second, .val (.int p1), .val (.int p2), .val (.ref a16), .unset, .unset, .unset, .unset] [(.int (p2 &&& (2147483647 : Int32)))]))) ?_ (fun _ k => XS.iand X40.here hx rfl (hb hby at_88) rfl k)
  refine Ends.step (u' := (T40.setTop (mkF m 91 #[.val (.long p0), .second, .val (.int p1), .val (.int p2), .val (.ref a16), .unset, .unset, .unset, .unset] [(.int (8 : Int32)), (.int (p2 &&& (2147483647 : Int32)))]))) ?_ (fun _ k => XT.bipushV X40.here hx rfl (8 : Int32) (hb hby at_89) rfl k)
  refine Ends.step (u' := (T40.setTop (mkF m 92 #[.val (.long p0), .second, .val (.int p1), .val (.int p2), .val (.ref a16), .unset, .unset, .unset, .unset] [(.int ((p2 &&& (2147483647 : Int32)) % (8 : Int32)))]))) ?_ (fun _ k => iremM X40 hx rfl (hb hby at_91) rfl (by decide) k)
  refine Ends.step (u' := (T40.setTop (mkF m 94 #[.val (.long p0), .second, .val (.int p1), .val (.int p2), .val (.ref a16), .val (.int ((p2 &&& (2147483647 : Int32)) % (8 : Int32))), .unset, .unset, .unset] []))) ?_ (fun _ k => XS.istore X40.here hx rfl (hb hby at_92) rfl (l' := #[.val (.long p0), .second, .val (.int p1), .val (.int p2), .val (.ref a16), .val (.int ((p2 &&& (2147483647 : Int32)) % (8 : Int32))), .unset, .unset, .unset]) rfl k)
  exact b94 T40 _ _ X40 e40 N40 Z41 (upd (upd (upd (upd (upd (upd (upd (upd (fun _ => 0) 0 (nar .byte (F1 p0 p1 (0 : Int32)))) 1 (nar .byte (F1 p0 p1 (1 : Int32)))) 2 (nar .byte (F1 p0 p1 (2 : Int32)))) 3 (nar .byte (F1 p0 p1 (3 : Int32)))) 4 (nar .byte (F1 p0 p1 (4 : Int32)))) 5 (nar .byte (F1 p0 p1 (5 : Int32)))) 6 (nar .byte (F1 p0 p1 (6 : Int32)))) 7 (nar .byte (10 : Int32))) ((p2 &&& (2147483647 : Int32)) % (8 : Int32)) p0 (.val (.int p1)) (Or.inr ⟨_, rfl, rfl⟩) (.val (.int p2)) (Or.inr ⟨_, rfl, rfl⟩) a16 g17 A40 ok
theorem own_toInt (x : Int32) (h : x.toBitVec.toNat < 2 ^ 31) : x.toInt = x.toBitVec.toNat := by
  show x.toBitVec.toInt = _
  rw [BitVec.toInt_eq_toNat_cond, if_pos (by omega)]
theorem own_nonneg (x : Int32) (h : 0 ≤ x.toInt) : x.toBitVec.toNat < 2 ^ 31 := by
  have h' : 0 ≤ x.toBitVec.toInt := h
  rw [BitVec.toInt_eq_toNat_cond] at h'
  split at h' <;> omega
theorem own_band (x c : Int32) (hc : 0 ≤ c.toInt) : 0 ≤ (x &&& c).toInt ∧ (x &&& c).toInt ≤ c.toInt := by
  have hb := own_nonneg c hc
  have e : (x &&& c).toBitVec.toNat = x.toBitVec.toNat &&& c.toBitVec.toNat := by rw [Int32.toBitVec_and, BitVec.toNat_and]
  have l : x.toBitVec.toNat &&& c.toBitVec.toNat ≤ c.toBitVec.toNat := Nat.and_le_right
  rw [own_toInt (x &&& c) (by omega), own_toInt c hb, e]
  omega
theorem own_inb (j : Int32) (n : Nat) (h0 : 0 ≤ j.toInt) (h1 : j.toInt < n) : inb j n := by
  intro h
  rcases h with h | h
  · rw [Int32.lt_iff_toInt_lt] at h
    have : (0 : Int32).toInt = 0 := rfl
    omega
  · simp only [Int32.toNatClampNeg] at h
    omega
theorem own_n_toInt (i : Nat) (h : i < 2 ^ 31) : (Int32.ofNat i).toInt = i := Int32.toInt_ofNat_of_lt h
theorem own_n_lt (i j : Nat) (hi : i < 2 ^ 31) (hj : j < 2 ^ 31) : Int32.ofNat i < Int32.ofNat j ↔ i < j := by
  rw [Int32.lt_iff_toInt_lt, own_n_toInt i hi, own_n_toInt j hj]; omega
theorem own_n_add (i j : Nat) : Int32.ofNat i + Int32.ofNat j = Int32.ofNat (i + j) := (Int32.ofNat_add i j).symm
theorem own_n_ix (i : Nat) (h : i < 2 ^ 31) : (Int32.ofNat i).toNatClampNeg = i := by
  simp only [Int32.toNatClampNeg, own_n_toInt i h]; omega
theorem own_n_inb (i n : Nat) (h : i < n) (hn : n < 2 ^ 31) : inb (Int32.ofNat i) n :=
  own_inb _ _ (by rw [own_n_toInt i (by omega)]; omega) (by rw [own_n_toInt i (by omega)]; omega)
theorem own_n_ex (x : Int32) (h : 0 ≤ x.toInt) : ∃ n : Nat, n < 2 ^ 31 ∧ x = Int32.ofNat n ∧ x.toInt = n := by
  have := Int32.toInt_lt x
  refine ⟨x.toInt.toNat, by omega, ?_, by omega⟩
  apply Int32.toInt_inj.mp
  rw [own_n_toInt _ (by omega)]
  omega
theorem own_pos_mod (x c : Int32) (hc : 0 < c.toInt) : 0 ≤ ((x &&& (2147483647 : Int32)) % c).toInt ∧ ((x &&& (2147483647 : Int32)) % c).toInt < c.toInt := by
  have h := own_band x 2147483647 (by decide)
  rw [Int32.toInt_mod, Int.tmod_eq_emod_of_nonneg h.1]
  exact ⟨Int.emod_nonneg _ (by omega), Int.emod_lt_of_pos _ hc⟩
def own_first (f : Nat → Int32) : Nat → Nat → Nat
  | 0, i => i
  | d + 1, i => if f i = (10 : Int32) then i else own_first f d (i + 1)
theorem own_loop (K : Nat) (f : Nat → Int32) (h7 : f 7 = 10) (cnt : Int32) : ∀ (d j i : Nat), i + d = 7 → d < j →
    O5_2 K j cnt 8 f (Int32.ofNat i) ∧ F5_2 K j cnt 8 f (Int32.ofNat i) = Int32.ofNat (own_first f d i)
  | d, 0, _, _, q => absurd q (Nat.not_lt_zero d)
  | 0, j + 1, i, r, _ => by
    have r' : i = 7 := by omega
    subst r'
    have e : (Int32.ofNat 7).toNatClampNeg = 7 := by decide
    have c : f (Int32.ofNat 7).toNatClampNeg = (10 : Int32) := by rw [e]; exact h7
    exact ⟨⟨own_n_inb 7 8 (by decide) (by decide), fun _ => trivial, fun q => absurd c q⟩, if_pos c⟩
  | d + 1, j + 1, i, r, q => by
    have e : (Int32.ofNat i).toNatClampNeg = i := own_n_ix i (by omega)
    have e1 : Int32.ofNat i + 1 = Int32.ofNat (i + 1) := own_n_add i 1
    have ih := own_loop K f h7 cnt d j (i + 1) (by omega) (by omega)
    rw [← e1] at ih
    by_cases c : f i = (10 : Int32)
    · have c' : f (Int32.ofNat i).toNatClampNeg = (10 : Int32) := by rw [e]; exact c
      have v : own_first f (d + 1) i = i := if_pos c
      rw [v]
      exact ⟨⟨own_n_inb i 8 (by omega) (by decide), fun _ => trivial, fun q => absurd c' q⟩, if_pos c'⟩
    · have c' : ¬ f (Int32.ofNat i).toNatClampNeg = (10 : Int32) := by rw [e]; exact c
      have v : own_first f (d + 1) i = own_first f d (i + 1) := if_neg c
      rw [v]
      exact ⟨⟨own_n_inb i 8 (by omega) (by decide), fun q => absurd q c', fun _ => ih.1⟩, (if_neg c').trans ih.2⟩
def own_v (f : Nat → Int32) (k s : Nat) : Int32 := Int32.ofNat (if s ≤ k then own_first f (7 - k) k else own_first f (7 - s) s)
theorem own_v_next (f : Nat → Int32) (k s : Nat) (h : k < s) : own_v f (k + 1) s = own_v f k s := by
  unfold own_v
  by_cases q : s ≤ k + 1
  · have : s = k + 1 := by omega
    subst this
    rw [if_pos (by omega), if_neg (by omega)]
  · rw [if_neg q, if_neg (by omega)]
theorem own_v_hit (f : Nat → Int32) (k s : Nat) (h : s ≤ k) (hk : k ≤ 6) (c : f k = (10 : Int32)) : own_v f k s = Int32.ofNat k := by
  unfold own_v
  rw [if_pos h, show 7 - k = (6 - k) + 1 by omega]
  exact congrArg Int32.ofNat (if_pos c)
theorem own_v_miss (f : Nat → Int32) (k s : Nat) (h : s ≤ k) (hk : k ≤ 6) (c : ¬ f k = (10 : Int32)) : own_v f k s = own_v f (k + 1) s := by
  unfold own_v
  rw [if_pos h, if_pos (by omega), show 7 - k = (6 - k) + 1 by omega, show 7 - (k + 1) = 6 - k by omega]
  exact congrArg Int32.ofNat (if_neg c)
theorem own_v7 (f : Nat → Int32) (s : Nat) (h : s ≤ 7) : own_v f 7 s = 7 := by
  unfold own_v
  rw [if_pos h]; rfl
theorem own_t6 (f : Nat → Int32) (s : Nat) (hs : s ≤ 7) : O2_89 8 f (Int32.ofNat s) ∧ F2_89 8 f (Int32.ofNat s) = own_v f 6 s := by
  by_cases c : (6 : Int32) < Int32.ofNat s
  · have c' : 6 < s := (own_n_lt 6 s (by decide) (by omega)).mp c
    rw [← own_v_next f 6 s c']
    exact ⟨⟨fun _ => trivial, fun q => absurd c q⟩, (if_pos c).trans (own_v7 f s hs).symm⟩
  · have c' : s ≤ 6 := Nat.le_of_not_lt fun z => c ((own_n_lt 6 s (by decide) (by omega)).mpr z)
    have e : (6 : Int32).toNatClampNeg = 6 := by decide
    have hb : inb (6 : Int32) 8 := own_n_inb 6 8 (by decide) (by decide)
    by_cases w : f 6 = (10 : Int32)
    · have w' : f (6 : Int32).toNatClampNeg = (10 : Int32) := by rw [e]; exact w
      rw [own_v_hit f 6 s c' (by decide) w]
      exact ⟨⟨fun q => absurd q c, fun _ => ⟨hb, fun _ => trivial, fun q => absurd w' q⟩⟩, (if_neg c).trans (if_pos w')⟩
    · have w' : ¬ f (6 : Int32).toNatClampNeg = (10 : Int32) := by rw [e]; exact w
      rw [own_v_miss f 6 s c' (by decide) w]
      exact ⟨⟨fun q => absurd q c, fun _ => ⟨hb, fun q => absurd q w', fun _ => trivial⟩⟩, (if_neg c).trans ((if_neg w').trans (own_v7 f s hs).symm)⟩
theorem own_t5 (f : Nat → Int32) (s : Nat) (hs : s ≤ 7) : O2_74 8 f (Int32.ofNat s) ∧ F2_74 8 f (Int32.ofNat s) = own_v f 5 s := by
  have t := own_t6 f s hs
  by_cases c : (5 : Int32) < Int32.ofNat s
  · have c' : 5 < s := (own_n_lt 5 s (by decide) (by omega)).mp c
    rw [← own_v_next f 5 s c']
    exact ⟨⟨fun _ => t.1, fun q => absurd c q⟩, (if_pos c).trans t.2⟩
  · have c' : s ≤ 5 := Nat.le_of_not_lt fun z => c ((own_n_lt 5 s (by decide) (by omega)).mpr z)
    have e : (5 : Int32).toNatClampNeg = 5 := by decide
    have hb : inb (5 : Int32) 8 := own_n_inb 5 8 (by decide) (by decide)
    by_cases w : f 5 = (10 : Int32)
    · have w' : f (5 : Int32).toNatClampNeg = (10 : Int32) := by rw [e]; exact w
      rw [own_v_hit f 5 s c' (by decide) w]
      exact ⟨⟨fun q => absurd q c, fun _ => ⟨hb, fun _ => trivial, fun q => absurd w' q⟩⟩, (if_neg c).trans (if_pos w')⟩
    · have w' : ¬ f (5 : Int32).toNatClampNeg = (10 : Int32) := by rw [e]; exact w
      rw [own_v_miss f 5 s c' (by decide) w]
      exact ⟨⟨fun q => absurd q c, fun _ => ⟨hb, fun q => absurd q w', fun _ => t.1⟩⟩, (if_neg c).trans ((if_neg w').trans t.2)⟩
theorem own_t4 (f : Nat → Int32) (s : Nat) (hs : s ≤ 7) : O2_59 8 f (Int32.ofNat s) ∧ F2_59 8 f (Int32.ofNat s) = own_v f 4 s := by
  have t := own_t5 f s hs
  by_cases c : (4 : Int32) < Int32.ofNat s
  · have c' : 4 < s := (own_n_lt 4 s (by decide) (by omega)).mp c
    rw [← own_v_next f 4 s c']
    exact ⟨⟨fun _ => t.1, fun q => absurd c q⟩, (if_pos c).trans t.2⟩
  · have c' : s ≤ 4 := Nat.le_of_not_lt fun z => c ((own_n_lt 4 s (by decide) (by omega)).mpr z)
    have e : (4 : Int32).toNatClampNeg = 4 := by decide
    have hb : inb (4 : Int32) 8 := own_n_inb 4 8 (by decide) (by decide)
    by_cases w : f 4 = (10 : Int32)
    · have w' : f (4 : Int32).toNatClampNeg = (10 : Int32) := by rw [e]; exact w
      rw [own_v_hit f 4 s c' (by decide) w]
      exact ⟨⟨fun q => absurd q c, fun _ => ⟨hb, fun _ => trivial, fun q => absurd w' q⟩⟩, (if_neg c).trans (if_pos w')⟩
    · have w' : ¬ f (4 : Int32).toNatClampNeg = (10 : Int32) := by rw [e]; exact w
      rw [own_v_miss f 4 s c' (by decide) w]
      exact ⟨⟨fun q => absurd q c, fun _ => ⟨hb, fun q => absurd q w', fun _ => t.1⟩⟩, (if_neg c).trans ((if_neg w').trans t.2)⟩
theorem own_t3 (f : Nat → Int32) (s : Nat) (hs : s ≤ 7) : O2_44 8 f (Int32.ofNat s) ∧ F2_44 8 f (Int32.ofNat s) = own_v f 3 s := by
  have t := own_t4 f s hs
  by_cases c : (3 : Int32) < Int32.ofNat s
  · have c' : 3 < s := (own_n_lt 3 s (by decide) (by omega)).mp c
    rw [← own_v_next f 3 s c']
    exact ⟨⟨fun _ => t.1, fun q => absurd c q⟩, (if_pos c).trans t.2⟩
  · have c' : s ≤ 3 := Nat.le_of_not_lt fun z => c ((own_n_lt 3 s (by decide) (by omega)).mpr z)
    have e : (3 : Int32).toNatClampNeg = 3 := by decide
    have hb : inb (3 : Int32) 8 := own_n_inb 3 8 (by decide) (by decide)
    by_cases w : f 3 = (10 : Int32)
    · have w' : f (3 : Int32).toNatClampNeg = (10 : Int32) := by rw [e]; exact w
      rw [own_v_hit f 3 s c' (by decide) w]
      exact ⟨⟨fun q => absurd q c, fun _ => ⟨hb, fun _ => trivial, fun q => absurd w' q⟩⟩, (if_neg c).trans (if_pos w')⟩
    · have w' : ¬ f (3 : Int32).toNatClampNeg = (10 : Int32) := by rw [e]; exact w
      rw [own_v_miss f 3 s c' (by decide) w]
      exact ⟨⟨fun q => absurd q c, fun _ => ⟨hb, fun q => absurd q w', fun _ => t.1⟩⟩, (if_neg c).trans ((if_neg w').trans t.2)⟩
theorem own_t2 (f : Nat → Int32) (s : Nat) (hs : s ≤ 7) : O2_29 8 f (Int32.ofNat s) ∧ F2_29 8 f (Int32.ofNat s) = own_v f 2 s := by
  have t := own_t3 f s hs
  by_cases c : (2 : Int32) < Int32.ofNat s
  · have c' : 2 < s := (own_n_lt 2 s (by decide) (by omega)).mp c
    rw [← own_v_next f 2 s c']
    exact ⟨⟨fun _ => t.1, fun q => absurd c q⟩, (if_pos c).trans t.2⟩
  · have c' : s ≤ 2 := Nat.le_of_not_lt fun z => c ((own_n_lt 2 s (by decide) (by omega)).mpr z)
    have e : (2 : Int32).toNatClampNeg = 2 := by decide
    have hb : inb (2 : Int32) 8 := own_n_inb 2 8 (by decide) (by decide)
    by_cases w : f 2 = (10 : Int32)
    · have w' : f (2 : Int32).toNatClampNeg = (10 : Int32) := by rw [e]; exact w
      rw [own_v_hit f 2 s c' (by decide) w]
      exact ⟨⟨fun q => absurd q c, fun _ => ⟨hb, fun _ => trivial, fun q => absurd w' q⟩⟩, (if_neg c).trans (if_pos w')⟩
    · have w' : ¬ f (2 : Int32).toNatClampNeg = (10 : Int32) := by rw [e]; exact w
      rw [own_v_miss f 2 s c' (by decide) w]
      exact ⟨⟨fun q => absurd q c, fun _ => ⟨hb, fun q => absurd q w', fun _ => t.1⟩⟩, (if_neg c).trans ((if_neg w').trans t.2)⟩
theorem own_t1 (f : Nat → Int32) (s : Nat) (hs : s ≤ 7) : O2_14 8 f (Int32.ofNat s) ∧ F2_14 8 f (Int32.ofNat s) = own_v f 1 s := by
  have t := own_t2 f s hs
  by_cases c : (1 : Int32) < Int32.ofNat s
  · have c' : 1 < s := (own_n_lt 1 s (by decide) (by omega)).mp c
    rw [← own_v_next f 1 s c']
    exact ⟨⟨fun _ => t.1, fun q => absurd c q⟩, (if_pos c).trans t.2⟩
  · have c' : s ≤ 1 := Nat.le_of_not_lt fun z => c ((own_n_lt 1 s (by decide) (by omega)).mpr z)
    have e : (1 : Int32).toNatClampNeg = 1 := by decide
    have hb : inb (1 : Int32) 8 := own_n_inb 1 8 (by decide) (by decide)
    by_cases w : f 1 = (10 : Int32)
    · have w' : f (1 : Int32).toNatClampNeg = (10 : Int32) := by rw [e]; exact w
      rw [own_v_hit f 1 s c' (by decide) w]
      exact ⟨⟨fun q => absurd q c, fun _ => ⟨hb, fun _ => trivial, fun q => absurd w' q⟩⟩, (if_neg c).trans (if_pos w')⟩
    · have w' : ¬ f (1 : Int32).toNatClampNeg = (10 : Int32) := by rw [e]; exact w
      rw [own_v_miss f 1 s c' (by decide) w]
      exact ⟨⟨fun q => absurd q c, fun _ => ⟨hb, fun q => absurd q w', fun _ => t.1⟩⟩, (if_neg c).trans ((if_neg w').trans t.2)⟩
theorem own_t0 (f : Nat → Int32) (s : Nat) (hs : s ≤ 7) : O2 (Int32.ofNat s) 8 f ∧ F2 (Int32.ofNat s) 8 f = own_v f 0 s := by
  have t := own_t1 f s hs
  by_cases c : (0 : Int32) < Int32.ofNat s
  · have c' : 0 < s := (own_n_lt 0 s (by decide) (by omega)).mp c
    rw [← own_v_next f 0 s c']
    exact ⟨⟨fun _ => t.1, fun q => absurd c q⟩, (if_pos c).trans t.2⟩
  · have c' : s ≤ 0 := Nat.le_of_not_lt fun z => c ((own_n_lt 0 s (by decide) (by omega)).mpr z)
    have e : (0 : Int32).toNatClampNeg = 0 := by decide
    have hb : inb (0 : Int32) 8 := own_n_inb 0 8 (by decide) (by decide)
    by_cases w : f 0 = (10 : Int32)
    · have w' : f (0 : Int32).toNatClampNeg = (10 : Int32) := by rw [e]; exact w
      rw [own_v_hit f 0 s c' (by decide) w]
      exact ⟨⟨fun q => absurd q c, fun _ => ⟨hb, fun _ => trivial, fun q => absurd w' q⟩⟩, (if_neg c).trans (if_pos w')⟩
    · have w' : ¬ f (0 : Int32).toNatClampNeg = (10 : Int32) := by rw [e]; exact w
      rw [own_v_miss f 0 s c' (by decide) w]
      exact ⟨⟨fun q => absurd q c, fun _ => ⟨hb, fun q => absurd q w', fun _ => t.1⟩⟩, (if_neg c).trans ((if_neg w').trans t.2)⟩
theorem own_94 (f : Nat → Int32) (h7 : f 7 = 10) (s : Nat) (hs : s ≤ 7) : O0_94 9 f (Int32.ofNat s) ∧ F0_94 9 f (Int32.ofNat s) = 1 := by
  have t := own_t0 f s hs
  have l := own_loop 9 f h7 (F3 (1 : Int32) (0 : Int32) 8 f) (7 - s) 9 s (by omega) (by omega)
  have e : own_v f 0 s = Int32.ofNat (own_first f (7 - s) s) := by
    unfold own_v
    by_cases q : s ≤ 0
    · have : s = 0 := by omega
      subst this; rfl
    · rw [if_neg q]
  refine ⟨⟨t.1, l.1, trivial⟩, ?_⟩
  have e2 : F5 9 (Int32.ofNat s) (F3 (1 : Int32) (0 : Int32) 8 f) 8 f = Int32.ofNat (own_first f (7 - s) s) := l.2
  simp only [F0_94, F0_103, e2, t.2, e, F0_124, if_true]
  rfl
theorem own_law (i0 : Int64) (i1 : Int32) (i2 : Int32) : ∃ K, O0 K i0 i1 i2 ∧ F0 K i0 i1 i2 = 1 := by
  refine ⟨9, ?_⟩
  have key : ∀ f : Nat → Int32, f 7 = 10 → O0_94 9 f ((i2 &&& (2147483647 : Int32)) % (8 : Int32)) ∧ F0_94 9 f ((i2 &&& (2147483647 : Int32)) % (8 : Int32)) = 1 := by
    intro f h7
    have e8 : (8 : Int32).toInt = 8 := rfl
    have ho := own_pos_mod i2 8 (by decide)
    obtain ⟨o, o1, eo, o2⟩ := own_n_ex _ ho.1
    rw [eo]
    exact own_94 f h7 o (by omega)
  exact key _ rfl
set_option maxRecDepth 65536 in
set_option maxHeartbeats 40000000 in
theorem comes_1 {Post : Tables → Env → Array Value → State → Outcome → State → Prop} (hpost : ∀ tb e args s v u, (limb_1_1.after args s (.returned v) u = true ∧ limb_1_2.after args s (.returned v) u = true ∧ True) → FrameEnd s (.returned v) u (Jvm.fieldLocs frame_1_writes args s ++ Jvm.arrayLocs frame_1_arrays args s ++ Jvm.staticLocs frame_1_statics s) 16 128 → Post tb e args s (.returned v) u) :
    ArmFor flags0 classFile x code maxLocals ret World_1 tables_1 room_1 Calls_1 rest_1 Pre_1 Post := by
  intro l hfl _ _ p e ha hc hk s m args below hf hA hF happ hP
  obtain ⟨hcalls, hrest, hpre⟩ := hP
  obtain ⟨-, -, -, hnamed, -, -, -, hat⟩ := (Spec.applies_iff hf).mp happ
  obtain ⟨hg, hn⟩ := and_e (Cond.before_iff.mp (show (Jvm.Cond.and given_1 narrow_1).before args s = true from hpre))
  obtain ⟨h1, r0⟩ := and_e hg
  obtain ⟨k0, r1⟩ := and_e r0
  obtain ⟨k1, r2⟩ := and_e r1
  obtain ⟨w0, w1, w2, rfl⟩ : ∃ w0 w1 w2 : Value, args = #[w0, w1, w2] := by
    have hs : args.size = 3 := by simpa [Cond.value, given_1] using h1
    obtain ⟨L⟩ := args
    match L, hs with
    | [w0, w1, w2], _ => exact ⟨w0, w1, w2, rfl⟩
  have hw := fun d (hd : d ∈ tables_1) => atoms_spec (ws := Jvm.Cond.code x code maxLocals ret :: tables_1) hat d (List.mem_cons_of_mem _ hd)
  obtain ⟨i0, e0⟩ := isL_v k0
  obtain rfl : w0 = (.long i0) := Option.some.inj e0
  obtain ⟨i1, e1⟩ := is_v k1
  obtain rfl : w1 = (.int i1) := Option.some.inj e1
  obtain ⟨i2, e2⟩ := is_v r2
  obtain rfl : w2 = (.int i2) := Option.some.inj e2
  obtain ⟨K, ok, val⟩ := own_law i0 i1 i2
  obtain ⟨n, o, h1, h2, h3, _, L, rfl, ⟨rfl, N⟩, hq⟩ := rm0 l s _ hw K i0 i1 i2 s.heap s.heap.size (Nat.le_refl _) ok p e ha hc hk s m _ below hf ((Spec.applies_iff_loose hf).mp happ).1 ⟨rfl, State.Warmed39.refl s, rfl⟩ trivial
  refine ⟨n, _, h1, h2, h3, hpost _ _ _ _ _ _ ⟨Cond.after_iff.mpr rfl, Cond.after_iff.mpr (eq_i res_at (Term.int_eval (1)) (by rw [val])), trivial⟩ ⟨hq.1, hq.2.1, (hq.2.2.sift fun y hy => Or.inr (N y hy)).mono (by decide) (by decide)⟩⟩
theorem main_1_1 : Claimed_1_1 := comes_1 fun _ _ _ _ _ _ h hF => ⟨h.1, hF⟩
theorem main_1_2 : Claimed_1_2 := comes_1 fun _ _ _ _ _ _ h hF => ⟨h.2.1, hF⟩
end Jvm.Pilot.@@N@@
namespace Jvm.Pilot.@@N@@
open Jvm Jvm.ClassFile Sem Op Lib Jvm.Free Jvm.Stand Jvm.Pilot.@@N@@.Jvm.D
/-! MADE BY PROGRAM (witnessworld.py) out of the Statement's table words and the real class files: 9 classes; the members and pool entries that the words name. The judged class is class 1, her method 1. -/
namespace start1
open Jvm.ClassFile
def u (s : String) : CpInfo := .utf8 (stringToUtf16 s)
/-- a pool by its gaps: so many unusable entries, then the entry; so many at the end -/
def gap : Nat → List CpInfo → List CpInfo
  | 0, r => r
  | n + 1, r => .unusable :: gap n r
def poolList (es : List (Nat × CpInfo)) (last : Nat) : List CpInfo := es.foldr (fun e r => gap e.1 (e.2 :: r)) (gap last [])
def pool (es : List (Nat × CpInfo)) (last : Nat) : Array CpInfo := ⟨poolList es last⟩
def fileOf (pool : Array CpInfo) (this : Nat) (attrs : Array Attribute := #[]) (ms : Array MethodInfo := #[]) (fl : Nat := 33) (sup : Nat := 0) (ifs : Array Nat := #[]) (fds : Array FieldInfo := #[]) : ClassFile where
  minorVersion := 0
  majorVersion := 65
  constantPool := pool
  accessFlags := fl
  thisClass := this
  superClass := sup
  interfaces := ifs
  fields := fds
  methods := ms
  attributes := attrs
def plain (name : String) (sup : Option ClassId) : Class where
  name := name
  kind := .ordinary
  loader := none
  accessFlags := 33
  super := sup
  interfaces := #[]
  cf := none
  fields := #[]
  methods := #[]
  instanceTypes := #[]
  staticTypes := #[]
  resolved := #[]
  callSites := []
  init := .initialized
  statics := none
  mirror := none

def pool0 : Array CpInfo := pool [(5, u "<init>"), (0, u "()V"), (1, .class_ 10), (1, u "java/lang/Object")] 113

def k0c0 : Code := { maxStack := 0, maxLocals := 1, code := object_method_1_code, exceptionTable := #[], attributes := #[] }
def k0m0 : Method := { name := "<init>", desc := "()V", sig := { parameters := [], returnType := none }, accessFlags := 1, code := some k0c0 }
/-- java/lang/Object -/
def k0 : Class := { plain "java/lang/Object" none with
  accessFlags := 33
  interfaces := #[]
  cf := some (fileOf pool0 8 #[] #[{ accessFlags := 1, nameIndex := 5, descriptorIndex := 6, attributes := #[] }] 33 0 #[] #[])
  fields := #[]
  methods := #[k0m0]
  instanceTypes := #[]
  staticTypes := #[]
  resolved := Array.replicate 124 none
  statics := none }

def pool1 : Array CpInfo := pool [(2, .class_ 4), (1, u "java/lang/Object"), (0, u "<init>"), (0, u "()V"), (0, .methodref 8 9), (0, .class_ 10), (0, .nameAndType 11 12), (0, u "com/example/numbersieve/numbersieve/JobLinesEndPinLaw"), (0, u "pick"), (0, u "(JII)B"), (0, .integer 2147483647), (0, .methodref 8 15), (0, .nameAndType 16 17), (0, u "expected"), (0, u "([BI)I"), (0, .class_ 19), (0, u "com/example/numbersieve/numbersieve/JobLines"), (0, .methodref 18 21), (0, .nameAndType 5 22), (0, u "([BI)V"), (0, .methodref 18 24), (0, .nameAndType 25 26), (0, u "end"), (0, u "(I)I"), (2, u "law"), (0, u "(JII)Z")] 5

def k1m0 : Method := { name := "<init>", desc := "()V", sig := { parameters := [], returnType := none }, accessFlags := 1, code := none }
def k1c1 : Code := { maxStack := 6, maxLocals := 9, code := code, exceptionTable := #[], attributes := #[] }
def k1m1 : Method := { name := "law", desc := "(JII)Z", sig := { parameters := [.long, .int, .int], returnType := some .boolean }, accessFlags := 9, code := some k1c1 }
def k1c2 : Code := { maxStack := 4, maxLocals := 4, code := method_3_code, exceptionTable := #[], attributes := #[] }
def k1m2 : Method := { name := "pick", desc := "(JII)B", sig := { parameters := [.long, .int, .int], returnType := some .byte }, accessFlags := 10, code := some k1c2 }
def k1c3 : Code := { maxStack := 2, maxLocals := 2, code := method_4_code, exceptionTable := #[], attributes := #[] }
def k1m3 : Method := { name := "expected", desc := "([BI)I", sig := { parameters := [(.array .byte), .int], returnType := some .int }, accessFlags := 10, code := some k1c3 }
/-- com/example/numbersieve/numbersieve/JobLinesEndPinLaw -/
def k1 : Class := { plain "com/example/numbersieve/numbersieve/JobLinesEndPinLaw" (some 0) with
  accessFlags := 49
  interfaces := #[]
  cf := some (fileOf pool1 8 #[] #[{ accessFlags := 1, nameIndex := 5, descriptorIndex := 6, attributes := #[] }, { accessFlags := 9, nameIndex := 29, descriptorIndex := 30, attributes := #[] }, { accessFlags := 10, nameIndex := 11, descriptorIndex := 12, attributes := #[] }, { accessFlags := 10, nameIndex := 16, descriptorIndex := 17, attributes := #[] }] 49 2 #[] #[])
  fields := #[]
  methods := #[k1m0, k1m1, k1m2, k1m3]
  instanceTypes := #[]
  staticTypes := #[]
  resolved := Array.replicate 36 none
  statics := none }

def pool2 : Array CpInfo := pool [(1, .methodref 2 3), (0, .class_ 4), (0, .nameAndType 5 6), (0, u "java/lang/Object"), (0, u "<init>"), (0, u "()V"), (0, .fieldref 8 9), (0, .class_ 10), (0, .nameAndType 11 12), (0, u "com/example/numbersieve/numbersieve/JobLines"), (0, u "text"), (0, u "[B"), (0, .fieldref 8 14), (0, .nameAndType 15 16), (0, u "count"), (0, u "I"), (2, u "end"), (0, u "(I)I"), (11, u "MAX_LINES"), (2, u "([BI)V"), (11, .class_ 48), (0, u "com/example/numbersieve/numbersieve/JobLines$Collector"), (0, .class_ 50), (0, u "com/example/numbersieve/numbersieve/JobLines$Collector$Text")] 3

def k2c0 : Code := { maxStack := 2, maxLocals := 3, code := prog_26_method_1_code, exceptionTable := #[], attributes := #[] }
def k2m0 : Method := { name := "<init>", desc := "([BI)V", sig := { parameters := [(.array .byte), .int], returnType := none }, accessFlags := 0, code := some k2c0 }
def k2c1 : Code := { maxStack := 2, maxLocals := 3, code := prog_26_method_5_code, exceptionTable := #[], attributes := #[] }
def k2m1 : Method := { name := "end", desc := "(I)I", sig := { parameters := [.int], returnType := some .int }, accessFlags := 0, code := some k2c1 }
/-- com/example/numbersieve/numbersieve/JobLines -/
def k2 : Class := { plain "com/example/numbersieve/numbersieve/JobLines" (some 0) with
  accessFlags := 48
  interfaces := #[]
  cf := some (fileOf pool2 8 #[.nestMembers #[47, 49]] #[{ accessFlags := 0, nameIndex := 5, descriptorIndex := 35, attributes := #[] }, { accessFlags := 0, nameIndex := 19, descriptorIndex := 20, attributes := #[] }] 48 2 #[] #[{ accessFlags := 24, nameIndex := 32, descriptorIndex := 16, attributes := #[] }, { accessFlags := 18, nameIndex := 11, descriptorIndex := 12, attributes := #[] }, { accessFlags := 18, nameIndex := 15, descriptorIndex := 16, attributes := #[] }])
  fields := #[{ name := "MAX_LINES", type := .int, accessFlags := 24, slot := 0, constantValue := 0 }, { name := "text", type := (.array .byte), accessFlags := 18, slot := 0, constantValue := 0 }, { name := "count", type := .int, accessFlags := 18, slot := 1, constantValue := 0 }]
  methods := #[k2m0, k2m1]
  instanceTypes := #[(.array .byte), .int]
  staticTypes := #[.int]
  resolved := Array.replicate 54 none
  statics := none }

def pool3 : Array CpInfo := pool [(1, u "java/lang/Cloneable"), (0, .class_ 1), (0, u "java/lang/Object"), (0, .class_ 3)] 3

/-- java/lang/Cloneable -/
def k3 : Class := { plain "java/lang/Cloneable" (some 0) with
  accessFlags := 1537
  interfaces := #[]
  cf := some (fileOf pool3 2 #[] #[] 1537 4 #[] #[])
  fields := #[]
  methods := #[]
  instanceTypes := #[]
  staticTypes := #[]
  resolved := Array.replicate 8 none
  statics := none }

def pool4 : Array CpInfo := pool [(1, u "java/io/Serializable"), (0, .class_ 1), (0, u "java/lang/Object"), (0, .class_ 3)] 3

/-- java/io/Serializable -/
def k4 : Class := { plain "java/io/Serializable" (some 0) with
  accessFlags := 1537
  interfaces := #[]
  cf := some (fileOf pool4 2 #[] #[] 1537 4 #[] #[])
  fields := #[]
  methods := #[]
  instanceTypes := #[]
  staticTypes := #[]
  resolved := Array.replicate 8 none
  statics := none }

/-- the primitive byte -/
def k5 : Class := { plain "byte" none with kind := .primitive 'B', accessFlags := 0x411 }
/-- [B -/
def k6 : Class := { plain "[B" (some 0) with kind := .array 5 .byte, interfaces := #[3, 4], accessFlags := 1041 }

/-- the primitive int -/
def k7 : Class := { plain "int" none with kind := .primitive 'I', accessFlags := 0x411 }
/-- [I -/
def k8 : Class := { plain "[I" (some 0) with kind := .array 7 .int, interfaces := #[3, 4], accessFlags := 1041 }

def heap : Heap := #[]
def classes : Array Class := #[k0, k1, k2, k3, k4, k5, k6, k7, k8]
def interned : List (Array UInt16 × Addr) := []
def slotsUsed : Nat := 0
def theMethod : MethodId := ⟨1, 1⟩
def args0 : Array Value := #[.long 5, .int 7, .int 3]
def aboutOver (below : List Frame) : State where
  vm := { classes := classes, interned := interned.toArray }
  heap := heap
  slotsUsed := slotsUsed
  threads := #[{ frames := .invoking theMethod args0 :: below }]
def below0 : List Frame := [.native { method := ⟨0, 0⟩, args := #[] }]
def about1 : State := aboutOver below0
def p0 : Program := .bare "" "" ""
def e0 : Env := launch0.env 0 0 0
theorem w_frames : about1.frames = Frame.invoking theMethod args0 :: below0 := rfl
set_option maxRecDepth 65536 in
theorem w_args : argsFit about1.vm theMethod args0 = true := by decide +kernel
set_option maxRecDepth 65536 in
theorem w_heap : heapFits about1 = true := by decide +kernel
set_option maxRecDepth 65536 in
theorem w_runnable : about1.curStatus? = some .runnable := by decide +kernel
set_option maxRecDepth 65536 in
theorem w_alone : about1.alone = true := by decide +kernel
set_option maxRecDepth 65536 in
theorem w_named : about1.methodNamed? x = some theMethod := by decide +kernel
set_option maxRecDepth 65536 in
theorem w_hears : about1.hears theMethod below0 = true := by decide +kernel
set_option maxRecDepth 65536 in
theorem w_ripe : about1.ripe theMethod args0 below0 = true := by decide +kernel
theorem w_running : about1.status = .running := rfl
set_option maxRecDepth 65536 in
theorem w_room : about1.hasRoom e0.platform room_1 = true :=
  launch0.hasRoom_least _ room_1 (by decide +kernel) (by decide +kernel) (by decide +kernel) (by decide +kernel) (by decide +kernel) (by decide +kernel)
theorem allAtoms_all (ts : List Jvm.Cond) (a : Array Jvm.Value) (st : Jvm.State) : (allAtoms ts).before a st = ts.all (fun c => c.before a st) := by
  induction ts with
  | nil => rfl
  | cons c t ih =>
    show (Jvm.Cond.and c (allAtoms t)).before a st = _
    rw [Jvm.Cond.before_and, ih, List.all_cons]
def words1 : List Jvm.Cond := Jvm.Cond.code x code maxLocals ret :: tables_1
/-- a 'code' word, met by the world's own term for the bytes: nothing is compared byte by byte -/
theorem code_word {y : MethodName} {bytes : ByteArray} {mx : Nat} {rt : Option FieldType} {a : Array Value} {s : State} {m : MethodId} {meth : Method} {c : Code} (h1 : s.methodNamed? y = some m) (h2 : s.vm.method? m = some meth) (h3 : meth.code = some c) (h4 : c.code = bytes)
    (h5 : (c.maxLocals == mx && c.exceptionTable.isEmpty && decide (c.maxStack ≤ mostOperands) && decide (meth.sig.returnType = rt) && !meth.locks && decide (parseMethodDescriptor y.desc = some meth.sig)) = true) : (Jvm.Cond.code y bytes mx rt).before a s = true := by
  simp only [Bool.and_eq_true, beq_iff_eq, Bool.not_eq_true', decide_eq_true_eq] at h5
  obtain ⟨⟨⟨⟨⟨g1, g2⟩, g3⟩, g4⟩, g5⟩, g6⟩ := h5
  simp [Cond.before, Cond.holds, Cond.value, h1, h2, h3, h4, g1, g2, g3, g4, g5, g6]
def isCode : Jvm.Cond → Bool
  | .code _ _ _ _ => true
  | _ => false
theorem all_split {L : List Jvm.Cond} {P : Jvm.Cond → Bool} (h1 : L.all (fun c => isCode c || P c) = true) (h2 : ∀ c ∈ L.filter isCode, P c = true) : L.all P = true := by
  refine List.all_eq_true.mpr fun c hc => ?_
  have h := List.all_eq_true.mp h1 c hc
  rcases Bool.eq_false_or_eq_true (isCode c) with hi | hi
  · exact h2 c (List.mem_filter.mpr ⟨hc, hi⟩)
  · simpa [hi] using h
set_option maxRecDepth 65536 in
theorem w_c0 : (Jvm.Cond.code x code maxLocals ret).before args0 about1 = true := code_word (m := ⟨1, 1⟩) (meth := k1m1) (c := k1c1) (by decide +kernel) rfl rfl rfl (by decide +kernel)
set_option maxRecDepth 65536 in
theorem w_c1 : (Jvm.Cond.code ({ cls := "com/example/numbersieve/numbersieve/JobLinesEndPinLaw", name := "pick", desc := "(JII)B" } : Jvm.MethodName) method_3_code (4 : Nat) (Option.some Jvm.ClassFile.FieldType.byte)).before args0 about1 = true := code_word (m := ⟨1, 2⟩) (meth := k1m2) (c := k1c2) (by decide +kernel) rfl rfl rfl (by decide +kernel)
set_option maxRecDepth 65536 in
theorem w_c2 : (Jvm.Cond.code ({ cls := "com/example/numbersieve/numbersieve/JobLinesEndPinLaw", name := "expected", desc := "([BI)I" } : Jvm.MethodName) method_4_code (2 : Nat) (Option.some Jvm.ClassFile.FieldType.int)).before args0 about1 = true := code_word (m := ⟨1, 3⟩) (meth := k1m3) (c := k1c3) (by decide +kernel) rfl rfl rfl (by decide +kernel)
set_option maxRecDepth 65536 in
theorem w_c3 : (Jvm.Cond.code ({ cls := "com/example/numbersieve/numbersieve/JobLines", name := "<init>", desc := "([BI)V" } : Jvm.MethodName) prog_26_method_1_code (3 : Nat) (Option.none : Option Jvm.ClassFile.FieldType)).before args0 about1 = true := code_word (m := ⟨2, 0⟩) (meth := k2m0) (c := k2c0) (by decide +kernel) rfl rfl rfl (by decide +kernel)
set_option maxRecDepth 65536 in
theorem w_c4 : (Jvm.Cond.code ({ cls := "java/lang/Object", name := "<init>", desc := "()V" } : Jvm.MethodName) object_method_1_code (1 : Nat) (Option.none : Option Jvm.ClassFile.FieldType)).before args0 about1 = true := code_word (m := ⟨0, 0⟩) (meth := k0m0) (c := k0c0) (by decide +kernel) rfl rfl rfl (by decide +kernel)
set_option maxRecDepth 65536 in
theorem w_c5 : (Jvm.Cond.code ({ cls := "com/example/numbersieve/numbersieve/JobLines", name := "end", desc := "(I)I" } : Jvm.MethodName) prog_26_method_5_code (3 : Nat) (Option.some Jvm.ClassFile.FieldType.int)).before args0 about1 = true := code_word (m := ⟨2, 1⟩) (meth := k2m1) (c := k2c1) (by decide +kernel) rfl rfl rfl (by decide +kernel)
def codes1 : List Jvm.Cond := [Jvm.Cond.code x code maxLocals ret, Jvm.Cond.code ({ cls := "com/example/numbersieve/numbersieve/JobLinesEndPinLaw", name := "pick", desc := "(JII)B" } : Jvm.MethodName) method_3_code (4 : Nat) (Option.some Jvm.ClassFile.FieldType.byte), Jvm.Cond.code ({ cls := "com/example/numbersieve/numbersieve/JobLinesEndPinLaw", name := "expected", desc := "([BI)I" } : Jvm.MethodName) method_4_code (2 : Nat) (Option.some Jvm.ClassFile.FieldType.int), Jvm.Cond.code ({ cls := "com/example/numbersieve/numbersieve/JobLines", name := "<init>", desc := "([BI)V" } : Jvm.MethodName) prog_26_method_1_code (3 : Nat) (Option.none : Option Jvm.ClassFile.FieldType), Jvm.Cond.code ({ cls := "java/lang/Object", name := "<init>", desc := "()V" } : Jvm.MethodName) object_method_1_code (1 : Nat) (Option.none : Option Jvm.ClassFile.FieldType), Jvm.Cond.code ({ cls := "com/example/numbersieve/numbersieve/JobLines", name := "end", desc := "(I)I" } : Jvm.MethodName) prog_26_method_5_code (3 : Nat) (Option.some Jvm.ClassFile.FieldType.int)]
set_option maxRecDepth 65536 in
theorem codes_eq : words1.filter isCode = codes1 := rfl
theorem w_codes : ∀ c ∈ words1.filter isCode, c.before args0 about1 = true := by
  rw [codes_eq]
  intro c hc
  simp only [codes1, List.mem_cons, List.not_mem_nil, or_false] at hc
  rcases hc with rfl | rfl | rfl | rfl | rfl | rfl
  · exact w_c0
  · exact w_c1
  · exact w_c2
  · exact w_c3
  · exact w_c4
  · exact w_c5
set_option maxRecDepth 65536 in
theorem w_t1 : (words1.take 24).all (fun c => isCode c || c.before args0 about1) = true := by decide +kernel
set_option maxRecDepth 65536 in
theorem w_t2 : (words1.drop 24).all (fun c => isCode c || c.before args0 about1) = true := by decide +kernel
theorem w_tables : (allAtoms (Jvm.Cond.code x code maxLocals ret :: tables_1)).before args0 about1 = true := by
  rw [allAtoms_all]
  show words1.all (fun c => c.before args0 about1) = true
  refine all_split ?_ w_codes
  rw [← List.take_append_drop 24 words1, List.all_append, w_t1, w_t2]
  rfl
set_option maxRecDepth 65536 in
theorem w_case : (Jvm.Cond.and given_1 narrow_1).before args0 about1 = true := by decide +kernel
theorem w_applies : (headSpec (Jvm.Cond.code x code maxLocals ret :: tables_1) room_1).applies x e0.platform about1 = true :=
  (Spec.applies_iff w_frames).mpr ⟨w_running, w_runnable, w_alone, w_named, w_hears, w_ripe, w_room, w_tables⟩
theorem atStart : AtStart classFile x code maxLocals ret World_1 tables_1 room_1 Calls_1 rest_1 Pre_1 launch0 p0 e0 about1 theMethod args0 below0 :=
  ⟨lists_1, trivial, launch0.admits_env _ _ _, launch0.least_env, fairChoices_fair.cas, fairChoices_fair.clock, w_frames, w_args, w_heap, w_applies, trivial, trivial, w_case⟩
end start1
theorem witness_1 : WitnessClaimed_1 := ⟨start1.p0, start1.e0, start1.about1, start1.theMethod, start1.args0, start1.below0, start1.atStart⟩
end Jvm.Pilot.@@N@@
