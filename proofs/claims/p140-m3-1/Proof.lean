import JvmDerived
import JvmDerived.Pilot.@@N@@Statement
import JvmDerived.Pilot.@@N@@Code
set_option linter.unusedVariables false
set_option linter.unusedSimpArgs false
namespace Jvm.RoadKit
open Sem ClassFile Op Lib Jvm.Stand Jvm.Free Jvm.LawKit
section New
variable {p : Program} {l : Launch} {e : Env} {R : Room} {s : State} {m : MethodId} {args : Array Value} {below : List Frame} {meth : Method} {c : Code} {T : State} {locs : List Loc} {cells slots : Nat}
theorem retI (X : Stand p l e R s m args below meth c T locs cells slots) (hx : p.tables.exec = Jvm.exec) {pc : Nat} {Ls : Array Slot} {z : Int32} {rest : List Value} (hret : meth.sig.returnType = some .int) (hd : decode c.code pc = .ok (.ireturn, 1)) {fs : List Frame}
    (hl : ∀ (f : JFrame) (acts : List Action), f.method = m → f.locked = none → f.entered = [] → (doReturn e (T.setTop f) acts (some (.int z))).1 = T.setFrames fs) : Steps p.tables e below (T.setTop (mkF m pc Ls (.int z :: rest))) (T.setFrames fs) := by
  have hm' : T.vm.method? m = some meth := X.method'
  have hn : narrow .int (.int z) = .int z := rfl
  show Steps p.tables e below (T.setTop { method := m, pc := pc, locals := Ls, stack := _ :: rest, locked := none }) _
  jvm_step X.here [X.here.top, hx, hd, hm', hret, hn]
  first | (intro acts; rw [hl _ acts rfl rfl rfl]) | rw [hl _ _ rfl rfl rfl]
  exact Steps.refl _
end New
end Jvm.RoadKit
namespace Jvm.Pilot.@@N@@
open Jvm Jvm.ClassFile Sem Op Lib Jvm.Free Jvm.Stand Jvm.LawKit Jvm.RoadKit Bundle Jvm.Pilot.@@N@@.Jvm.D
/-! ### the frame of this text: 'Ends': the run from u ends in a return that Q says -/
section OwnFrame
variable {p : Program} {l : Launch} {e : Env} {R : Room} {s : State} {m : MethodId} {args : Array Value} {below : List Frame} {meth : Method} {c : Code} {T : State} {locs : List Loc} {cells slots cs ss : Nat} {Z : State} {a0 : Array Value} {h h' : Heap} {Q : Option Value → Heap → List Loc → Prop} {u u' : State}
def Ends (p : Program) (e : Env) (below : List Frame) (s : State) (cs ss : Nat) (Q : Option Value → Heap → List Loc → Prop) (u : State) : Prop :=
  ∃ t v L, Steps p.tables e below u t ∧ t.status = .running ∧ Ended t below (.returned v) ∧ Q v t.heap L ∧ s.WarmedH t.vm ∧ s.sameButNew ({ t with vm := s.vm } : State) L cs ss
theorem Ends.step (h : Ends p e below s cs ss Q u') (k : ∀ t, Steps p.tables e below u' t → Steps p.tables e below u t) : Ends p e below s cs ss Q u := by
  obtain ⟨t, v, L, h1, r⟩ := h; exact ⟨t, v, L, k t h1, r⟩
theorem Ends.ret (X : Stand p l e R s m args below meth c T locs cells slots) {v : Option Value} (hv : meth.sig.returnType = none → v = none) (hlk : meth.locks = false)
    (k : ∀ fs, (∀ (f : JFrame) (acts : List Action), f.method = m → f.locked = none → f.entered = [] → (doReturn e (T.setTop f) acts v).1 = T.setFrames fs) → Steps p.tables e below u (T.setFrames fs))
    (hc : cells ≤ cs) (hs : slots ≤ ss) (hq : Q v T.heap locs) : Ends p e below s cs ss Q u := by
  obtain ⟨fs, hr, hrun, hended, hW, hsame⟩ := X.leave (v := v) hv hlk
  exact ⟨T.setFrames fs, v, locs, k fs hr, hrun, hended, hq, hW, hsame.mono hc hs⟩
/-- what a body promises -/
abbrev Meets (l : Launch) (Z : State) (y : MethodName) (bytes : ByteArray) (maxL : Nat) (ret : Option FieldType) (ws : List Jvm.Cond) (rm : Room) (as' : Array Value) (h : Heap) (Q : Option Value → Heap → List Loc → Prop) (cs ss : Nat) : Prop :=
  MetFree l y (head1 (Jvm.Cond.code y bytes maxL ret :: ws) rm) (fun a U => a = as' ∧ Z.Warmed39 U.vm ∧ U.heap = h) (fun _ _ _ _ _ => True) (fun _ U o U' => ∃ v L, o = .returned v ∧ Q v U'.heap L ∧ FrameEnd U o U' L cs ss)
theorem Meets.of {y : MethodName} {bytes : ByteArray} {maxL : Nat} {ret : Option FieldType} {ws : List Jvm.Cond} {rm : Room} {as' : Array Value} (pn : plainFor y = true)
    (k : ∀ (p : Program) (e : Env) (s : State) (m : MethodId) (below : List Frame) (meth : Method) (c : Code) (s₁ : State), p.tables.exec = Jvm.exec → c.code = bytes → c.maxLocals = maxL → Z.Warmed39 s.vm → s.vm.findClass y.cls = some m.cls → meth.name = y.name → meth.sig.returnType = ret → meth.locks = false →
      Stand p l e rm s m as' below meth c s₁ [] 0 0 → s₁.heap = h → Ends p e below s cs ss Q (s₁.setTop (entryFrame m as' maxL))) : Meets l Z y bytes maxL ret ws rm as' h Q cs ss := by
  refine MetFree.of_bodySF pn hisR ?_
  intro p e s m args below meth c s₁ Bd hml0 hP hK
  obtain ⟨rfl, hZ, hh⟩ := hP
  obtain ⟨t, v, L, h1, h2, h3, h4, h5, h6⟩ := k p e s m below meth c s₁ Bd.exec Bd.bytes hml0 hZ (findClass_of_methodNamed Bd.named) (name_of_methodNamed Bd.named Bd.method).1 Bd.returns (BodyLoose.notSynchronized Bd) (Stand.of_body Bd) (by rw [← hh, Bd.state]; rfl)
  exact ⟨t, .returned v, h1, h2, h3, v, L, rfl, h4, ⟨_, rfl⟩, h5, h6⟩
theorem Ends.callS (X : Stand p l e R s m args below meth c T locs cells slots) (hx : p.tables.exec = Jvm.exec) (hZ : Z.Warmed39 s.vm) {own : String} {index : Nat} {y : MethodName} {bytes : ByteArray} {maxL : Nat} {ret : Option FieldType}
    (hown : s.vm.findClass own = some m.cls) (w1 : (Jvm.Cond.methodLink own index y).before a0 Z = true) (w2 : (Jvm.Cond.static y).before a0 Z = true) (w3 : (Jvm.Cond.initialized y.cls).before a0 Z = true) (w4 : (Jvm.Cond.code y bytes maxL ret).before a0 Z = true)
    (hy : y.cls ≠ "java/lang/invoke/MethodHandle" ∧ y.cls ≠ "java/lang/invoke/VarHandle") {rm : Room} {as' : Array Value} {Q' : Option Value → Heap → List Loc → Prop} (hM : Meets l Z y bytes maxL ret [] rm as' h Q' rm.cells rm.slots)
    (W : Nat) (hf : rm.frames + 1 ≤ R.frames) (hl : W + (maxL + 11) + rm.locals ≤ R.locals) (eT : T.heap = h) {g : JFrame} (hg : g.method = m) (hsize : g.locals.size = c.maxLocals) (argsL rest : List Value)
    (hlen : ∀ sig, parseMethodDescriptor y.desc = some sig → argsL.length = sig.parameters.length) (hstack : g.stack = argsL.reverse ++ rest) (hW : 2 * g.monitorRoom + (rest.map fun v => v.category).sum ≤ W) (hdg : decode c.code g.pc = .ok (.invokestatic index, 3))
    (ha : argsL.toArray = as') (hc : cells + rm.cells ≤ R.cells) (hs : slots + rm.slots ≤ R.slots)
    (k : ∀ v T' L, Stand p l e R s m args below meth c T' (locs ++ L) (cells + rm.cells) (slots + rm.slots) → Q' v T'.heap L → Ends p e below s cs ss Q (T'.setTop { g with pc := g.pc + 3, stack := v.toList ++ rest })) : Ends p e below s cs ss Q (T.setTop g) := by
  obtain ⟨v, _, ⟨T', L', k', n'⟩, -, X', ⟨Lc, hQ, rfl, rfl, rfl⟩, st⟩ := Jvm.LawKit.callS X hx (y := y) hown (mvT hZ w1) (mvT hZ w2) (mvT hZ w3) (mvT hZ w4) hy (backOf (W := W) hM hZ w4 w3 hf hl) hg hsize (argsL := argsL) (rest := rest) hlen hstack hW hdg (fun _ _ => ⟨ha, eT, hc, hs⟩)
  exact (k v T' Lc X' hQ).step st
theorem Ends.callC (X : Stand p l e R s m args below meth c T locs cells slots) (hx : p.tables.exec = Jvm.exec) (hZ : Z.Warmed39 s.vm) {own : String} {index : Nat} {y : MethodName} {bytes : ByteArray} {maxL : Nat} (hy1 : y.name = "<init>")
    (hown : s.vm.findClass own = some m.cls) (w1 : (Jvm.Cond.methodLink own index y).before a0 Z = true) (w2 : (Jvm.Cond.instanceMethod y).before a0 Z = true) (w3 : (Jvm.Cond.initialized y.cls).before a0 Z = true) (w4 : (Jvm.Cond.code y bytes maxL none).before a0 Z = true)
    (hy : y.cls ≠ "java/lang/invoke/MethodHandle" ∧ y.cls ≠ "java/lang/invoke/VarHandle") {rm : Room} {as' : Array Value} {Q' : Option Value → Heap → List Loc → Prop} (hM : Meets l Z y bytes maxL none [] rm as' h Q' rm.cells rm.slots)
    (W : Nat) (hf : rm.frames + 1 ≤ R.frames) (hl : W + (maxL + 11) + rm.locals ≤ R.locals) (eT : T.heap = h) {g : JFrame} (hg : g.method = m) (hsize : g.locals.size = c.maxLocals) (a : Addr) (argsL rest : List Value)
    (hlen : ∀ sig, parseMethodDescriptor y.desc = some sig → argsL.length = sig.parameters.length) (hstack : g.stack = argsL.reverse ++ .ref a :: rest) (hW : 2 * g.monitorRoom + (rest.map fun v => v.category).sum ≤ W) (hdg : decode c.code g.pc = .ok (.invokespecial index, 3))
    (ha : (.ref a :: argsL).toArray = as') (hc : cells + rm.cells ≤ R.cells) (hs : slots + rm.slots ≤ R.slots)
    (k : ∀ v T' L, Stand p l e R s m args below meth c T' (locs ++ L) (cells + rm.cells) (slots + rm.slots) → Q' v T'.heap L → Ends p e below s cs ss Q (T'.setTop { g with pc := g.pc + 3, stack := v.toList ++ rest })) : Ends p e below s cs ss Q (T.setTop g) := by
  obtain ⟨v, _, ⟨T', L', k', n'⟩, -, X', ⟨Lc, hQ, rfl, rfl, rfl⟩, st⟩ := X.specialBack hx (y := y) hy1 hown (mvT hZ w1) (mvT hZ w2) (mvT hZ w4) hy (backOf (W := W) hM hZ w4 w3 hf hl) hg hsize (Steps.refl _) (a := a) (argsL := argsL) (rest := rest) hlen hstack hW hdg (fun _ _ => ⟨ha, eT, hc, hs⟩)
  exact (k v T' Lc X' hQ).step (fun _ q => st.trans q)
theorem Ends.callV (X : Stand p l e R s m args below meth c T locs cells slots) (hx : p.tables.exec = Jvm.exec) (hZ : Z.Warmed39 s.vm) {own C : String} {index : Nat} {y : MethodName} {bytes : ByteArray} {maxL : Nat} {ret : Option FieldType}
    (hown : s.vm.findClass own = some m.cls) (w1 : (Jvm.Cond.methodLink own index y).before a0 Z = true) (wd : (Jvm.Cond.declares y).before a0 Z = true) (wsel : (Jvm.Cond.selects C y y).before a0 Z = true) (w2 : (Jvm.Cond.instanceMethod y).before a0 Z = true) (w3 : (Jvm.Cond.initialized y.cls).before a0 Z = true) (w4 : (Jvm.Cond.code y bytes maxL ret).before a0 Z = true)
    (hy : y.cls ≠ "java/lang/invoke/MethodHandle" ∧ y.cls ≠ "java/lang/invoke/VarHandle") {rm : Room} {as' : Array Value} {Q' : Option Value → Heap → List Loc → Prop} (hM : Meets l Z y bytes maxL ret [] rm as' h Q' rm.cells rm.slots)
    (W : Nat) (hf : rm.frames + 1 ≤ R.frames) (hl : W + (maxL + 11) + rm.locals ≤ R.locals) (eT : T.heap = h) (a : Addr) (E : Exa Z h a C) {g : JFrame} (hg : g.method = m) (hsize : g.locals.size = c.maxLocals) (argsL rest : List Value)
    (hlen : ∀ sig, parseMethodDescriptor y.desc = some sig → argsL.length = sig.parameters.length) (hstack : g.stack = argsL.reverse ++ .ref a :: rest) (hW : 2 * g.monitorRoom + (rest.map fun v => v.category).sum ≤ W) (hdg : decode c.code g.pc = .ok (.invokevirtual index, 3))
    (ha : (.ref a :: argsL).toArray = as') (hc : cells + rm.cells ≤ R.cells) (hs : slots + rm.slots ≤ R.slots)
    (k : ∀ v T' L, Stand p l e R s m args below meth c T' (locs ++ L) (cells + rm.cells) (slots + rm.slots) → Q' v T'.heap L → Ends p e below s cs ss Q (T'.setTop { g with pc := g.pc + 3, stack := v.toList ++ rest })) : Ends p e below s cs ss Q (T.setTop g) := by
  obtain ⟨cq, kq, q1, q2, q3⟩ := isOf (T := T) hZ eT E
  obtain ⟨v, _, ⟨T', L', k', n'⟩, -, X', ⟨Lc, hQ, rfl, rfl, rfl⟩, st⟩ := X.virtualBack hx (y := y) (z := y) hown (mvT hZ w1) (mvT hZ wd) (notFace_of_selects (args := #[]) (mvT hZ wsel)) (mvT hZ wsel) (mvT hZ w2) hy (backOf (W := W) hM hZ w4 w3 hf hl) q1 q3 hg hsize (Steps.refl _) (argsL := argsL) (rest := rest) hlen hstack hW hdg (fun _ _ => ⟨ha, eT, hc, hs⟩)
  exact (k v T' Lc X' hQ).step (fun _ q => st.trans q)
/-! ### arrays of small numbers: what each place holds, as a function -/
def Ar (Z : State) (h : Heap) (a : Addr) (ty : FieldType) (n : Nat) (f : Nat → Int32) : Prop := ∃ cl : Cell, Arr Z h a cl ty ∧ cl.slots.size = n ∧ n < 2 ^ 31 ∧ ∀ i, i < n → cl.slots[i]? = some (.int (f i))
def upd (f : Nat → Int32) (j : Nat) (v : Int32) : Nat → Int32 := fun i => if i = j then v else f i
def inb (j : Int32) (n : Nat) : Prop := ¬ (j < 0 ∨ n ≤ j.toNatClampNeg)
variable {a b : Addr} {ty : FieldType} {n sl : Nat} {f : Nat → Int32} {v : Value} {wsA : List Addr}
theorem Ar.lt (A : Ar Z h a ty n f) : a < h.size := by obtain ⟨cl, A1, -⟩ := A; exact A1.lt
theorem Ar.ext (A : Ar Z h a ty n f) (E : Ext h h') : Ar Z h' a ty n f := by obtain ⟨cl, A1, r⟩ := A; exact ⟨cl, A1.ext E, r⟩
theorem Ar.other (A : Ar Z h b ty n f) (W : Wr h h' a sl v) (q : b ≠ a) : Ar Z h' b ty n f := by obtain ⟨cl, A1, r⟩ := A; exact ⟨cl, A1.other W q, r⟩
theorem Ar.keep (A : Ar Z h a ty n f) (K : Keep h h' wsA) (q : a ∉ wsA) : Ar Z h' a ty n f := by obtain ⟨cl, A1, r⟩ := A; exact ⟨cl, ⟨K.2.1 a cl A1.1 q, A1.2⟩, r⟩
theorem Ar.small (A : Ar Z h a ty n f) : n < 2 ^ 31 := by obtain ⟨cl, A1, -, r, -⟩ := A; exact r
theorem Ar.set {j : Int32} {x : Int32} (A : Ar Z h a ty n f) (W : Wr h h' a j.toNatClampNeg (.int x)) : Ar Z h' a ty n (upd f j.toNatClampNeg x) := by
  obtain ⟨cl, A1, r1, r2, r3⟩ := A
  refine ⟨_, A1.same W, by rw [sz_set]; exact r1, r2, fun i hi => ?_⟩
  by_cases q : i = j.toNatClampNeg
  · subst q; simp [Cell.setSlot, upd, r1, hi]
  · simp only [Cell.setSlot, upd, if_neg q]; rw [Array.getElem?_setIfInBounds_ne (fun z => q z.symm)]; exact r3 i hi
theorem Ar.new {cA : ClassId} {k : Int32} (A : Arr Z h a (newA cA ty k) ty) (q : ¬ k < 0) (hd : defaultValue ty = .int 0) : Ar Z h a ty k.toNatClampNeg (fun _ => 0) :=
  ⟨_, A, sz_new _ _ _, (back32 q).2, fun i hi => by simp [newA, hi, hd]⟩
theorem Ends.newA (X : Stand p l e R s m args below meth c T locs cells slots) (hx : p.tables.exec = Jvm.exec) (hZ : Z.Warmed39 s.vm) {aty : ArrayType} (w : (Jvm.Cond.arrayClass (newarray.typeOf aty)).before a0 Z = true) (eT : T.heap = h) {g : JFrame} (hg : g.method = m) (hd : decode c.code g.pc = .ok (.newarray aty, 2)) {k : Int32} {rest : List Value} (hs : g.stack = .int k :: rest)
    (hdf : defaultValue (newarray.typeOf aty) = .int 0) (hn : ¬ k < 0) (cap : Nat) (hcap : k.toNatClampNeg ≤ cap) (hb : cap * 8 ≤ 536870912) (hc : cells + 1 ≤ R.cells) (hl : slots + cap ≤ R.slots)
    (kk : ∀ T' h' a, Stand p l e R s m args below meth c T' locs (cells + 1) (slots + cap) → T'.heap = h' → Ext h h' → h.size = a → Ar Z h' a (newarray.typeOf aty) k.toNatClampNeg (fun _ => 0) → Ends p e below s cs ss Q (T'.setTop { g with pc := g.pc + 2, stack := .ref a :: rest })) : Ends p e below s cs ss Q (T.setTop g) := by
  obtain ⟨T', h', cA, X', e', E, A, st⟩ := newP X hx hZ w eT hg hd hs hn hcap hb hc hl
  exact (kk T' h' h.size X' e' E rfl (Ar.new A hn hdf)).step st
theorem Ends.iaload (X : Stand p l e R s m args below meth c T locs cells slots) (hx : p.tables.exec = Jvm.exec) (hZ : Z.Warmed39 s.vm) (eT : T.heap = h) (A : Ar Z h a .int n f) {j : Int32} (hj : inb j n) {g : JFrame} (hg : g.method = m) {rest : List Value} (hs : g.stack = .int j :: .ref a :: rest) (hd : decode c.code g.pc = .ok (.iaload, 1))
    (k : Ends p e below s cs ss Q (T.setTop { g with pc := g.pc + 1, stack := .int (f j.toNatClampNeg) :: rest })) : Ends p e below s cs ss Q (T.setTop g) := by
  obtain ⟨cl, A1, r1, -, r3⟩ := A
  subst r1
  exact k.step (X.iaload hx (by rw [eT]; exact A1.1) (State.isArrayOf_alike hZ.alike A1.2.1) A1.2.2 hj (r3 _ (Nat.lt_of_not_le fun q => hj (Or.inr q))) hg hs hd)
theorem Ends.baload (X : Stand p l e R s m args below meth c T locs cells slots) (hx : p.tables.exec = Jvm.exec) (hZ : Z.Warmed39 s.vm) (eT : T.heap = h) (A : Ar Z h a .byte n f) {j : Int32} (hj : inb j n) {g : JFrame} (hg : g.method = m) {rest : List Value} (hs : g.stack = .int j :: .ref a :: rest) (hd : decode c.code g.pc = .ok (.baload, 1))
    (k : Ends p e below s cs ss Q (T.setTop { g with pc := g.pc + 1, stack := .int (f j.toNatClampNeg) :: rest })) : Ends p e below s cs ss Q (T.setTop g) := by
  obtain ⟨cl, A1, r1, -, r3⟩ := A
  subst r1
  exact k.step (X.baloadBytes hx (by rw [eT]; exact A1.1) (State.isArrayOf_alike hZ.alike A1.2.1) A1.2.2 hj (r3 _ (Nat.lt_of_not_le fun q => hj (Or.inr q))) hg hs hd)
theorem Ends.arrlen (X : Stand p l e R s m args below meth c T locs cells slots) (hx : p.tables.exec = Jvm.exec) (hZ : Z.Warmed39 s.vm) (eT : T.heap = h) (A : Ar Z h a ty n f) {g : JFrame} (hg : g.method = m) {rest : List Value} (hs : g.stack = .ref a :: rest) (hd : decode c.code g.pc = .ok (.arraylength, 1))
    (k : Ends p e below s cs ss Q (T.setTop { g with pc := g.pc + 1, stack := .int (Nat.toInt32 n) :: rest })) : Ends p e below s cs ss Q (T.setTop g) := by
  obtain ⟨cl, A1, r1, -, r3⟩ := A
  subst r1
  exact k.step (X.arraylength hx (by rw [eT]; exact A1.1) (State.isArrayOf_alike hZ.alike A1.2.1) hg hs hd)
theorem Ends.iastore (X : Stand p l e R s m args below meth c T locs cells slots) (hx : p.tables.exec = Jvm.exec) (hZ : Z.Warmed39 s.vm) (eT : T.heap = h) (A : Ar Z h a .int n f) {j x : Int32} (hj : inb j n) {n0 : Nat} (N : Fr n0 locs) (ge : n0 ≤ a) {g : JFrame} (hg : g.method = m) {rest : List Value} (hs : g.stack = .int x :: .int j :: .ref a :: rest) (hd : decode c.code g.pc = .ok (.iastore, 1))
    (k : ∀ T' h' sl, Stand p l e R s m args below meth c T' (locs ++ [⟨a, sl⟩]) cells slots → T'.heap = h' → Fr n0 (locs ++ [⟨a, sl⟩]) → Wr h h' a sl (.int x) → Ar Z h' a .int n (upd f j.toNatClampNeg x) → Ends p e below s cs ss Q (T'.setTop { g with pc := g.pc + 1, stack := rest })) : Ends p e below s cs ss Q (T.setTop g) := by
  obtain ⟨cl, A1, r1, r2, r3⟩ := A
  obtain ⟨T', h', X', e', W, st⟩ := stI X hx hZ eT A1 (by rw [r1]; exact hj) hg hs hd
  exact (k T' h' _ X' e' (Fr.snoc X' N ge) W (Ar.set ⟨cl, A1, r1, r2, r3⟩ W)).step st
theorem Ends.bastore (X : Stand p l e R s m args below meth c T locs cells slots) (hx : p.tables.exec = Jvm.exec) (hZ : Z.Warmed39 s.vm) (eT : T.heap = h) (A : Ar Z h a .byte n f) {j x : Int32} (hj : inb j n) {n0 : Nat} (N : Fr n0 locs) (ge : n0 ≤ a) {g : JFrame} (hg : g.method = m) {rest : List Value} (hs : g.stack = .int x :: .int j :: .ref a :: rest) (hd : decode c.code g.pc = .ok (.bastore, 1))
    (k : ∀ T' h' sl, Stand p l e R s m args below meth c T' (locs ++ [⟨a, sl⟩]) cells slots → T'.heap = h' → Fr n0 (locs ++ [⟨a, sl⟩]) → Wr h h' a sl (.int (nar .byte x)) → Ar Z h' a .byte n (upd f j.toNatClampNeg (nar .byte x)) → Ends p e below s cs ss Q (T'.setTop { g with pc := g.pc + 1, stack := rest })) : Ends p e below s cs ss Q (T.setTop g) := by
  obtain ⟨cl, A1, r1, r2, r3⟩ := A
  obtain ⟨T', h', X', e', W, st⟩ := stB X hx hZ eT A1 (by rw [r1]; exact hj) hg hs hd
  exact (k T' h' _ X' e' (Fr.snoc X' N ge) W (Ar.set ⟨cl, A1, r1, r2, r3⟩ W)).step st
theorem Ends.getF (X : Stand p l e R s m args below meth c T locs cells slots) (hx : p.tables.exec = Jvm.exec) (hZ : Z.Warmed39 s.vm) {own O fn d : String} {index : Nat} (hown : s.vm.findClass own = some m.cls) (w : (Jvm.Cond.fieldLink own index O fn d).before a0 Z = true) (eT : T.heap = h) (F : Fld Z h a O fn d v) {g : JFrame} (hg : g.method = m) {rest : List Value} (hs : g.stack = .ref a :: rest) (hd : decode c.code g.pc = .ok (.getfield index, 3))
    (k : ∀ T', Stand p l e R s m args below meth c T' locs cells slots → T'.heap = h → Ends p e below s cs ss Q (T'.setTop { g with pc := g.pc + 3, stack := v :: rest })) : Ends p e below s cs ss Q (T.setTop g) := by
  obtain ⟨T', X', e', st⟩ := Jvm.RoadKit.getF X hx hZ hown (host := "") (Or.inl w) Via.refl eT F hg hs hd
  exact (k T' X' e').step st
theorem Ends.putF (X : Stand p l e R s m args below meth c T locs cells slots) (hx : p.tables.exec = Jvm.exec) (hZ : Z.Warmed39 s.vm) {own O fn d : String} {index kk : Nat} {tf : FieldType} {old : Value} (hown : s.vm.findClass own = some m.cls) (w : (Jvm.Cond.fieldLink own index O fn d).before a0 Z = true) (eT : T.heap = h) (F : Fld Z h a O fn d old) (E : Exa Z h a O) (L : (Jvm.Cond.lays O O fn d).before a0 Z = true ∨ ((Jvm.Cond.laysFinal O O fn d).before a0 Z = true ∧ own = O ∧ meth.name = "<init>")) (wi : (Jvm.Cond.instantiable O kk).before a0 Z = true)
    (hty : parseFieldDescriptor d = some tf) (hn : narrow tf v = v) (hf : fits tf v = true) {n0 : Nat} (N : Fr n0 locs) (ge : n0 ≤ a) {g : JFrame} (hg : g.method = m) {rest : List Value} (hs : g.stack = v :: .ref a :: rest) (hd : decode c.code g.pc = .ok (.putfield index, 3))
    (k : ∀ T' h', Stand p l e R s m args below meth c T' (locs ++ [⟨a, Jvm.RoadKit.slotOf Z O fn d⟩]) cells slots → T'.heap = h' → Fr n0 (locs ++ [⟨a, Jvm.RoadKit.slotOf Z O fn d⟩]) → Wr h h' a (Jvm.RoadKit.slotOf Z O fn d) v → Ends p e below s cs ss Q (T'.setTop { g with pc := g.pc + 3, stack := rest })) : Ends p e below s cs ss Q (T.setTop g) := by
  obtain ⟨T', h', X', e', W, st⟩ := Jvm.RoadKit.putF X hx hZ hown (host := "") (Or.inl w) Via.refl eT F E L wi hty hn hf hg hs hd
  exact (k T' h' X' e' (Fr.snoc X' N ge) W).step st
theorem Ends.newO (X : Stand p l e R s m args below meth c T locs cells slots) (hx : p.tables.exec = Jvm.exec) (hZ : Z.Warmed39 s.vm) {own C : String} {index k : Nat} (hown : s.vm.findClass own = some m.cls) (w : (Jvm.Cond.classLink own index C).before a0 Z = true) (wi : (Jvm.Cond.instantiable C k).before a0 Z = true) (wz : (Jvm.Cond.initialized C).before a0 Z = true) (eT : T.heap = h)
    {g : JFrame} (hg : g.method = m) (hd : decode c.code g.pc = .ok (.new index, 3)) (hc : cells + 1 ≤ R.cells) (hl : slots + k ≤ R.slots)
    (kk : ∀ T' h' a, Stand p l e R s m args below meth c T' locs (cells + 1) (slots + k) → T'.heap = h' → Ext h h' → h.size = a → Exa Z h' a C → (∀ {O nm d : String} {ty : FieldType}, Laid Z a0 C O nm d → parseFieldDescriptor d = some ty → Fld Z h' a O nm d (defaultValue ty)) → Ends p e below s cs ss Q (T'.setTop { g with pc := g.pc + 3, stack := .ref a :: g.stack })) : Ends p e below s cs ss Q (T.setTop g) := by
  obtain ⟨T', h', X', e', E, A, D, -, st⟩ := Jvm.RoadKit.newO X hx hZ hown w wi wz eT hg hd hc hl
  exact (kk T' h' _ X' e' E rfl A D).step st
theorem Ends.initO (X : Stand p l e R s m args below meth c T locs cells slots) (hx : p.tables.exec = Jvm.exec) (hZ : Z.Warmed39 s.vm) {own : String} {idx : Nat} (hown : s.vm.findClass own = some m.cls) (w1 : (Jvm.Cond.methodLink own idx Lib.objectInit).before a0 Z = true) (w2 : (Jvm.Cond.instanceMethod Lib.objectInit).before a0 Z = true)
    (w3 : (Jvm.Cond.code Lib.objectInit ⟨#[0xb1]⟩ 1 none).before a0 Z = true) (eT : T.heap = h) {g : JFrame} (hg : g.method = m) (hsize : g.locals.size = c.maxLocals) {rest : List Value} (hs : g.stack = .ref a :: rest) (hd : decode c.code g.pc = .ok (.invokespecial idx, 3))
    (hf : 1 ≤ R.frames) (W : Nat) (hW : 2 * g.monitorRoom + (rest.map fun v => v.category).sum ≤ W) (hl : W + 12 ≤ R.locals)
    (k : ∀ T', Stand p l e R s m args below meth c T' locs cells slots → T'.heap = h → Ends p e below s cs ss Q (T'.setTop { g with pc := g.pc + 3, stack := rest })) : Ends p e below s cs ss Q (T.setTop g) := by
  obtain ⟨T', X', e', st⟩ := Jvm.RoadKit.initO X hx hZ hown w1 w2 w3 eT hg hsize hs hd hf hW hl
  exact (k T' X' e').step st
def OneS (o : Slot) : Prop := o = .unset ∨ ∃ w, o = .val w ∧ w.category = 1
theorem storeL {ls : Array Slot} {i : Nat} {x : Int64} {o o' : Slot} (h1 : ls[i]? = some o) (h2 : ls[i + 1]? = some o') (p1 : OneS o) (p2 : OneS o') : storeLocals ls i (.long x) = some ((ls.setIfInBounds i (.val (.long x))).setIfInBounds (i + 1) .second) := by
  have l1 : i < ls.size := (Array.getElem?_eq_some_iff.mp h1).1
  have l2 : i + 1 < ls.size := (Array.getElem?_eq_some_iff.mp h2).1
  have e2 : (ls.setIfInBounds i (.val (.long x)))[i + 1]? = some o' := by rw [Array.getElem?_setIfInBounds_ne (by omega)]; exact h2
  have q : storeSelf ls i (.long x) = some ((ls.setIfInBounds i (.val (.long x))).setIfInBounds (i + 1) .second) := by
    have cat : (Value.long x).category = 2 := rfl
    simp only [storeSelf, setAt, if_pos l1, cat, if_true, Option.bind_eq_bind, Option.bind_some, e2]
    rcases p2 with rfl | ⟨w, rfl, hw⟩
    · simp [l2]
    · simp [l2, hw]
  simp only [storeLocals, h1, Option.bind_eq_bind, Option.bind_some]
  rcases p1 with rfl | ⟨w, rfl, hw⟩
  · exact q
  · simp only [hw]; exact q
end OwnFrame
-- body 1
def F1_16 (t1 : Int32) (t0 : Int32) : Int32 := (t0 + t1)
def F1_11 (t0 : Int32) : Int32 := (F1_16 (4 : Int32) t0)
def F1_15 (t0 : Int32) : Int32 := (F1_16 (0 : Int32) t0)
def F1 (p0 : Int32) (p1 : Int32) : Int32 := if p0 = 0 then (F1_15 ((1 : Int32) + ((p1 + (1 : Int32)) / (2 : Int32)))) else (F1_11 ((1 : Int32) + ((p1 + (1 : Int32)) / (2 : Int32))))
-- body 2
def F2_109 (K : Nat) (n_o0 : Nat) (cf_o0 : Nat → Int32) (n_o3 : Nat) (f_o3 : Nat → Int32) (x6 : Int32) : Int32 × (Nat → Int32) := (x6, cf_o0)
def F2_90 (K : Nat) (rec : Nat → (Nat → Int32) → Nat → (Nat → Int32) → Int32 → Int32 → Int32 → Int32 × (Nat → Int32)) (n_o0 : Nat) (cf_o0 : Nat → Int32) (n_o3 : Nat) (f_o3 : Nat → Int32) (x5 : Int32) (x6 : Int32) (x7 : Int32) : Int32 × (Nat → Int32) := (rec n_o0 (upd cf_o0 (x6).toNatClampNeg (nar .byte (((XT.ushr x5 x7)).toInt8.toInt32))) n_o3 f_o3 x5 (x6 + (1 : Int32)) (x7 + (-8 : Int32)))
def O2_90 (K : Nat) (rec : Nat → (Nat → Int32) → Nat → (Nat → Int32) → Int32 → Int32 → Int32 → Prop) (n_o0 : Nat) (cf_o0 : Nat → Int32) (n_o3 : Nat) (f_o3 : Nat → Int32) (x5 : Int32) (x6 : Int32) (x7 : Int32) : Prop := (inb x6 n_o0) ∧ (rec n_o0 (upd cf_o0 (x6).toNatClampNeg (nar .byte (((XT.ushr x5 x7)).toInt8.toInt32))) n_o3 f_o3 x5 (x6 + (1 : Int32)) (x7 + (-8 : Int32)))
def F2_85 (K : Nat) : Nat → Nat → (Nat → Int32) → Nat → (Nat → Int32) → Int32 → Int32 → Int32 → Int32 × (Nat → Int32)
  | 0, _, _, _, _, _, _, _ => default
  | j + 1, n_o0, cf_o0, n_o3, f_o3, x5, x6, x7 => if x7 < 0 then (F2_109 K n_o0 cf_o0 n_o3 f_o3 x6) else (F2_90 K (F2_85 K j) n_o0 cf_o0 n_o3 f_o3 x5 x6 x7)
def O2_85 (K : Nat) : Nat → Nat → (Nat → Int32) → Nat → (Nat → Int32) → Int32 → Int32 → Int32 → Prop
  | 0, _, _, _, _, _, _, _ => False
  | j + 1, n_o0, cf_o0, n_o3, f_o3, x5, x6, x7 => (x7 < 0 → True) ∧ (¬ x7 < 0 → (O2_90 K (O2_85 K j) n_o0 cf_o0 n_o3 f_o3 x5 x6 x7))
def F2_81 (K : Nat) (n_o0 : Nat) (cf_o0 : Nat → Int32) (n_o3 : Nat) (f_o3 : Nat → Int32) (x5 : Int32) (x6 : Int32) : Int32 × (Nat → Int32) := (F2_85 K K n_o0 cf_o0 n_o3 f_o3 x5 x6 (24 : Int32))
def O2_81 (K : Nat) (n_o0 : Nat) (cf_o0 : Nat → Int32) (n_o3 : Nat) (f_o3 : Nat → Int32) (x5 : Int32) (x6 : Int32) : Prop := (O2_85 K K n_o0 cf_o0 n_o3 f_o3 x5 x6 (24 : Int32))
def F2_77 (K : Nat) (n_o0 : Nat) (cf_o0 : Nat → Int32) (n_o3 : Nat) (f_o3 : Nat → Int32) (x2 : Int32) (x5 : Int32) (x6 : Int32) : Int32 × (Nat → Int32) := if x2 = 0 then (F2_109 K n_o0 cf_o0 n_o3 f_o3 x6) else (F2_81 K n_o0 cf_o0 n_o3 f_o3 x5 x6)
def O2_77 (K : Nat) (n_o0 : Nat) (cf_o0 : Nat → Int32) (n_o3 : Nat) (f_o3 : Nat → Int32) (x2 : Int32) (x5 : Int32) (x6 : Int32) : Prop := (x2 = 0 → True) ∧ (¬ x2 = 0 → (O2_81 K n_o0 cf_o0 n_o3 f_o3 x5 x6))
def F2_54 (K : Nat) (rec : Nat → (Nat → Int32) → Nat → (Nat → Int32) → Int32 → Int32 → Int32 → Int32 → Int32 → Int32 × (Nat → Int32)) (n_o0 : Nat) (cf_o0 : Nat → Int32) (n_o3 : Nat) (f_o3 : Nat → Int32) (x2 : Int32) (x4 : Int32) (x5 : Int32) (x6 : Int32) (x7 : Int32) (x8 : Int32) (t0 : Int32) : Int32 × (Nat → Int32) := (rec n_o0 (upd cf_o0 (x6).toNatClampNeg (nar .byte ((((x8 <<< ((4 : Int32) &&& 31)) ||| t0)).toInt8.toInt32))) n_o3 f_o3 x2 x4 x5 (x6 + (1 : Int32)) (x7 + (2 : Int32)))
def O2_54 (K : Nat) (rec : Nat → (Nat → Int32) → Nat → (Nat → Int32) → Int32 → Int32 → Int32 → Int32 → Int32 → Prop) (n_o0 : Nat) (cf_o0 : Nat → Int32) (n_o3 : Nat) (f_o3 : Nat → Int32) (x2 : Int32) (x4 : Int32) (x5 : Int32) (x6 : Int32) (x7 : Int32) (x8 : Int32) (t0 : Int32) : Prop := (inb x6 n_o0) ∧ (rec n_o0 (upd cf_o0 (x6).toNatClampNeg (nar .byte ((((x8 <<< ((4 : Int32) &&& 31)) ||| t0)).toInt8.toInt32))) n_o3 f_o3 x2 x4 x5 (x6 + (1 : Int32)) (x7 + (2 : Int32)))
def F2_41 (K : Nat) (rec : Nat → (Nat → Int32) → Nat → (Nat → Int32) → Int32 → Int32 → Int32 → Int32 → Int32 → Int32 × (Nat → Int32)) (n_o0 : Nat) (cf_o0 : Nat → Int32) (n_o3 : Nat) (f_o3 : Nat → Int32) (x2 : Int32) (x4 : Int32) (x5 : Int32) (x6 : Int32) (x7 : Int32) (x8 : Int32) : Int32 × (Nat → Int32) := (F2_54 K rec n_o0 cf_o0 n_o3 f_o3 x2 x4 x5 x6 x7 x8 ((f_o3 ((x7 + (1 : Int32))).toNatClampNeg) - (48 : Int32)))
def O2_41 (K : Nat) (rec : Nat → (Nat → Int32) → Nat → (Nat → Int32) → Int32 → Int32 → Int32 → Int32 → Int32 → Prop) (n_o0 : Nat) (cf_o0 : Nat → Int32) (n_o3 : Nat) (f_o3 : Nat → Int32) (x2 : Int32) (x4 : Int32) (x5 : Int32) (x6 : Int32) (x7 : Int32) (x8 : Int32) : Prop := (inb (x7 + (1 : Int32)) n_o3) ∧ (O2_54 K rec n_o0 cf_o0 n_o3 f_o3 x2 x4 x5 x6 x7 x8 ((f_o3 ((x7 + (1 : Int32))).toNatClampNeg) - (48 : Int32)))
def F2_53 (K : Nat) (rec : Nat → (Nat → Int32) → Nat → (Nat → Int32) → Int32 → Int32 → Int32 → Int32 → Int32 → Int32 × (Nat → Int32)) (n_o0 : Nat) (cf_o0 : Nat → Int32) (n_o3 : Nat) (f_o3 : Nat → Int32) (x2 : Int32) (x4 : Int32) (x5 : Int32) (x6 : Int32) (x7 : Int32) (x8 : Int32) : Int32 × (Nat → Int32) := (F2_54 K rec n_o0 cf_o0 n_o3 f_o3 x2 x4 x5 x6 x7 x8 (0 : Int32))
def O2_53 (K : Nat) (rec : Nat → (Nat → Int32) → Nat → (Nat → Int32) → Int32 → Int32 → Int32 → Int32 → Int32 → Prop) (n_o0 : Nat) (cf_o0 : Nat → Int32) (n_o3 : Nat) (f_o3 : Nat → Int32) (x2 : Int32) (x4 : Int32) (x5 : Int32) (x6 : Int32) (x7 : Int32) (x8 : Int32) : Prop := (O2_54 K rec n_o0 cf_o0 n_o3 f_o3 x2 x4 x5 x6 x7 x8 (0 : Int32))
def F2_32 (K : Nat) (rec : Nat → (Nat → Int32) → Nat → (Nat → Int32) → Int32 → Int32 → Int32 → Int32 → Int32 → Int32 × (Nat → Int32)) (n_o0 : Nat) (cf_o0 : Nat → Int32) (n_o3 : Nat) (f_o3 : Nat → Int32) (x2 : Int32) (x4 : Int32) (x5 : Int32) (x6 : Int32) (x7 : Int32) (x8 : Int32) : Int32 × (Nat → Int32) := if (x7 + (1 : Int32)) < x4 then (F2_41 K rec n_o0 cf_o0 n_o3 f_o3 x2 x4 x5 x6 x7 x8) else (F2_53 K rec n_o0 cf_o0 n_o3 f_o3 x2 x4 x5 x6 x7 x8)
def O2_32 (K : Nat) (rec : Nat → (Nat → Int32) → Nat → (Nat → Int32) → Int32 → Int32 → Int32 → Int32 → Int32 → Prop) (n_o0 : Nat) (cf_o0 : Nat → Int32) (n_o3 : Nat) (f_o3 : Nat → Int32) (x2 : Int32) (x4 : Int32) (x5 : Int32) (x6 : Int32) (x7 : Int32) (x8 : Int32) : Prop := ((x7 + (1 : Int32)) < x4 → (O2_41 K rec n_o0 cf_o0 n_o3 f_o3 x2 x4 x5 x6 x7 x8)) ∧ (¬ (x7 + (1 : Int32)) < x4 → (O2_53 K rec n_o0 cf_o0 n_o3 f_o3 x2 x4 x5 x6 x7 x8))
def F2_23 (K : Nat) (rec : Nat → (Nat → Int32) → Nat → (Nat → Int32) → Int32 → Int32 → Int32 → Int32 → Int32 → Int32 × (Nat → Int32)) (n_o0 : Nat) (cf_o0 : Nat → Int32) (n_o3 : Nat) (f_o3 : Nat → Int32) (x2 : Int32) (x4 : Int32) (x5 : Int32) (x6 : Int32) (x7 : Int32) : Int32 × (Nat → Int32) := (F2_32 K rec n_o0 cf_o0 n_o3 f_o3 x2 x4 x5 x6 x7 ((f_o3 (x7).toNatClampNeg) - (48 : Int32)))
def O2_23 (K : Nat) (rec : Nat → (Nat → Int32) → Nat → (Nat → Int32) → Int32 → Int32 → Int32 → Int32 → Int32 → Prop) (n_o0 : Nat) (cf_o0 : Nat → Int32) (n_o3 : Nat) (f_o3 : Nat → Int32) (x2 : Int32) (x4 : Int32) (x5 : Int32) (x6 : Int32) (x7 : Int32) : Prop := (inb x7 n_o3) ∧ (O2_32 K rec n_o0 cf_o0 n_o3 f_o3 x2 x4 x5 x6 x7 ((f_o3 (x7).toNatClampNeg) - (48 : Int32)))
def F2_16 (K : Nat) : Nat → Nat → (Nat → Int32) → Nat → (Nat → Int32) → Int32 → Int32 → Int32 → Int32 → Int32 → Int32 × (Nat → Int32)
  | 0, _, _, _, _, _, _, _, _, _ => default
  | j + 1, n_o0, cf_o0, n_o3, f_o3, x2, x4, x5, x6, x7 => if x7 < x4 then (F2_23 K (F2_16 K j) n_o0 cf_o0 n_o3 f_o3 x2 x4 x5 x6 x7) else (F2_77 K n_o0 cf_o0 n_o3 f_o3 x2 x5 x6)
def O2_16 (K : Nat) : Nat → Nat → (Nat → Int32) → Nat → (Nat → Int32) → Int32 → Int32 → Int32 → Int32 → Int32 → Prop
  | 0, _, _, _, _, _, _, _, _, _ => False
  | j + 1, n_o0, cf_o0, n_o3, f_o3, x2, x4, x5, x6, x7 => (x7 < x4 → (O2_23 K (O2_16 K j) n_o0 cf_o0 n_o3 f_o3 x2 x4 x5 x6 x7)) ∧ (¬ x7 < x4 → (O2_77 K n_o0 cf_o0 n_o3 f_o3 x2 x5 x6))
def F2 (K : Nat) (p1 : Int32) (p2 : Int32) (p4 : Int32) (p5 : Int32) (n_o0 : Nat) (f_o0 : Nat → Int32) (n_o3 : Nat) (f_o3 : Nat → Int32) : Int32 × (Nat → Int32) := (F2_16 K K n_o0 (upd f_o0 (p1).toNatClampNeg (nar .byte ((p4).toInt8.toInt32))) n_o3 f_o3 p2 p4 p5 (p1 + (1 : Int32)) (0 : Int32))
def O2 (K : Nat) (p1 : Int32) (p2 : Int32) (p4 : Int32) (p5 : Int32) (n_o0 : Nat) (f_o0 : Nat → Int32) (n_o3 : Nat) (f_o3 : Nat → Int32) : Prop := (inb p1 n_o0) ∧ (O2_16 K K n_o0 (upd f_o0 (p1).toNatClampNeg (nar .byte ((p4).toInt8.toInt32))) n_o3 f_o3 p2 p4 p5 (p1 + (1 : Int32)) (0 : Int32))
-- body 0
def F0_111 (K : Nat) (t0 : Int32) : Int32 := (nar .boolean t0)
def F0_106 (K : Nat)  : Int32 := (F0_111 K (1 : Int32))
def F0_110 (K : Nat)  : Int32 := (F0_111 K (0 : Int32))
def F0_96 (K : Nat) (x6 : Int32) (x9 : Int32) (x11 : Int32) : Int32 := if (x11 - x6) = x9 then (F0_106 K) else (F0_110 K)
def F0_89 (K : Nat) (x6 : Int32) (x9 : Int32) (x10 : Int32) (x11 : Int32) : Int32 := if x9 = x10 then (F0_96 K x6 x9 x11) else (F0_110 K)
def F0_73 (K : Nat) (cf_q30 : Nat → Int32) (cf_q36 : Nat → Int32) (x3 : Int32) (x4 : Int32) (x5 : Int32) (x6 : Int32) (x9 : Int32) (x10 : Int32) : Int32 := (F0_89 K x6 x9 x10 (F2 K x6 x4 x5 x3 64 cf_q30 20 cf_q36).1)
def O0_73 (K : Nat) (cf_q30 : Nat → Int32) (cf_q36 : Nat → Int32) (x3 : Int32) (x4 : Int32) (x5 : Int32) (x6 : Int32) (x9 : Int32) (x10 : Int32) : Prop := (O2 K x6 x4 x5 x3 64 cf_q30 20 cf_q36) ∧ True
def F0_70 (K : Nat) (cf_q30 : Nat → Int32) (cf_q36 : Nat → Int32) (x3 : Int32) (x4 : Int32) (x5 : Int32) (x6 : Int32) (x9 : Int32) (t1 : Int32) (t0 : Int32) : Int32 := (F0_73 K cf_q30 cf_q36 x3 x4 x5 x6 x9 (t0 + t1))
def O0_70 (K : Nat) (cf_q30 : Nat → Int32) (cf_q36 : Nat → Int32) (x3 : Int32) (x4 : Int32) (x5 : Int32) (x6 : Int32) (x9 : Int32) (t1 : Int32) (t0 : Int32) : Prop := (O0_73 K cf_q30 cf_q36 x3 x4 x5 x6 x9 (t0 + t1))
def F0_65 (K : Nat) (cf_q30 : Nat → Int32) (cf_q36 : Nat → Int32) (x3 : Int32) (x4 : Int32) (x5 : Int32) (x6 : Int32) (x9 : Int32) (t0 : Int32) : Int32 := (F0_70 K cf_q30 cf_q36 x3 x4 x5 x6 x9 (4 : Int32) t0)
def O0_65 (K : Nat) (cf_q30 : Nat → Int32) (cf_q36 : Nat → Int32) (x3 : Int32) (x4 : Int32) (x5 : Int32) (x6 : Int32) (x9 : Int32) (t0 : Int32) : Prop := (O0_70 K cf_q30 cf_q36 x3 x4 x5 x6 x9 (4 : Int32) t0)
def F0_69 (K : Nat) (cf_q30 : Nat → Int32) (cf_q36 : Nat → Int32) (x3 : Int32) (x4 : Int32) (x5 : Int32) (x6 : Int32) (x9 : Int32) (t0 : Int32) : Int32 := (F0_70 K cf_q30 cf_q36 x3 x4 x5 x6 x9 (0 : Int32) t0)
def O0_69 (K : Nat) (cf_q30 : Nat → Int32) (cf_q36 : Nat → Int32) (x3 : Int32) (x4 : Int32) (x5 : Int32) (x6 : Int32) (x9 : Int32) (t0 : Int32) : Prop := (O0_70 K cf_q30 cf_q36 x3 x4 x5 x6 x9 (0 : Int32) t0)
def F0_49 (K : Nat) (cf_q30 : Nat → Int32) (cf_q36 : Nat → Int32) (x3 : Int32) (x4 : Int32) (x5 : Int32) (x6 : Int32) (x9 : Int32) : Int32 := if x4 = 0 then (F0_69 K cf_q30 cf_q36 x3 x4 x5 x6 x9 (((1 : Int32) + (x5 / (2 : Int32))) + (x5 &&& (1 : Int32)))) else (F0_65 K cf_q30 cf_q36 x3 x4 x5 x6 x9 (((1 : Int32) + (x5 / (2 : Int32))) + (x5 &&& (1 : Int32))))
def O0_49 (K : Nat) (cf_q30 : Nat → Int32) (cf_q36 : Nat → Int32) (x3 : Int32) (x4 : Int32) (x5 : Int32) (x6 : Int32) (x9 : Int32) : Prop := (x4 = 0 → (O0_69 K cf_q30 cf_q36 x3 x4 x5 x6 x9 (((1 : Int32) + (x5 / (2 : Int32))) + (x5 &&& (1 : Int32))))) ∧ (¬ x4 = 0 → (O0_65 K cf_q30 cf_q36 x3 x4 x5 x6 x9 (((1 : Int32) + (x5 / (2 : Int32))) + (x5 &&& (1 : Int32)))))
def F0_28 (K : Nat) (x3 : Int32) (x4 : Int32) (x5 : Int32) (x6 : Int32) : Int32 := (F0_49 K (fun _ => 0) (fun _ => 0) x3 x4 x5 x6 (F1 x4 x5))
def O0_28 (K : Nat) (x3 : Int32) (x4 : Int32) (x5 : Int32) (x6 : Int32) : Prop := (O0_49 K (fun _ => 0) (fun _ => 0) x3 x4 x5 x6 (F1 x4 x5))
def F0_22 (K : Nat) (x2 : Int32) (x3 : Int32) (x4 : Int32) (x5 : Int32) : Int32 := (F0_28 K x3 x4 x5 (x2 &&& (31 : Int32)))
def O0_22 (K : Nat) (x2 : Int32) (x3 : Int32) (x4 : Int32) (x5 : Int32) : Prop := (O0_28 K x3 x4 x5 (x2 &&& (31 : Int32)))
def F0_11 (K : Nat) (x1 : Int32) (x2 : Int32) (x3 : Int32) (t0 : Int32) : Int32 := (F0_22 K x2 x3 t0 ((x1 &&& (2147483647 : Int32)) % (21 : Int32)))
def O0_11 (K : Nat) (x1 : Int32) (x2 : Int32) (x3 : Int32) (t0 : Int32) : Prop := (O0_22 K x2 x3 t0 ((x1 &&& (2147483647 : Int32)) % (21 : Int32)))
def F0_6 (K : Nat) (x1 : Int32) (x2 : Int32) (x3 : Int32) : Int32 := (F0_11 K x1 x2 x3 (1 : Int32))
def O0_6 (K : Nat) (x1 : Int32) (x2 : Int32) (x3 : Int32) : Prop := (O0_11 K x1 x2 x3 (1 : Int32))
def F0_10 (K : Nat) (x1 : Int32) (x2 : Int32) (x3 : Int32) : Int32 := (F0_11 K x1 x2 x3 (0 : Int32))
def O0_10 (K : Nat) (x1 : Int32) (x2 : Int32) (x3 : Int32) : Prop := (O0_11 K x1 x2 x3 (0 : Int32))
def F0 (K : Nat) (p0 : Int32) (p1 : Int32) (p2 : Int32) (p3 : Int32) : Int32 := if (p0 &&& (1 : Int32)) = 0 then (F0_10 K p1 p2 p3) else (F0_6 K p1 p2 p3)
def O0 (K : Nat) (p0 : Int32) (p1 : Int32) (p2 : Int32) (p3 : Int32) : Prop := ((p0 &&& (1 : Int32)) = 0 → (O0_10 K p1 p2 p3)) ∧ (¬ (p0 &&& (1 : Int32)) = 0 → (O0_6 K p1 p2 p3))
theorem pd_0 : parseMethodDescriptor "(ZI)I" = some ⟨[.boolean, .int], (some .int)⟩ := by decide +kernel
theorem pd_1 : parseMethodDescriptor "([BIZ[BII)I" = some ⟨[(.array .byte), .int, .boolean, (.array .byte), .int, .int], (some .int)⟩ := by decide +kernel
theorem d1_0 : decode prog_16_method_2_code 0 = .ok (.iconst 1, 1) := by decide +kernel
theorem d1_1 : decode prog_16_method_2_code 1 = .ok (.iload_n 1, 1) := by decide +kernel
theorem d1_2 : decode prog_16_method_2_code 2 = .ok (.iconst 1, 1) := by decide +kernel
theorem d1_3 : decode prog_16_method_2_code 3 = .ok (.iadd, 1) := by decide +kernel
theorem d1_4 : decode prog_16_method_2_code 4 = .ok (.iconst 2, 1) := by decide +kernel
theorem d1_5 : decode prog_16_method_2_code 5 = .ok (.idiv, 1) := by decide +kernel
theorem d1_6 : decode prog_16_method_2_code 6 = .ok (.iadd, 1) := by decide +kernel
theorem d1_7 : decode prog_16_method_2_code 7 = .ok (.iload_n 0, 1) := by decide +kernel
theorem d1_8 : decode prog_16_method_2_code 8 = .ok (.ifCond .eq 7, 3) := by decide +kernel
theorem d1_11 : decode prog_16_method_2_code 11 = .ok (.iconst 4, 1) := by decide +kernel
theorem d1_12 : decode prog_16_method_2_code 12 = .ok (.goto 4, 3) := by decide +kernel
theorem d1_15 : decode prog_16_method_2_code 15 = .ok (.iconst 0, 1) := by decide +kernel
theorem d1_16 : decode prog_16_method_2_code 16 = .ok (.iadd, 1) := by decide +kernel
theorem d1_17 : decode prog_16_method_2_code 17 = .ok (.ireturn, 1) := by decide +kernel
theorem pn_1 : plainFor (⟨"com/example/numbersieve/numbersieve/EntryCodec", "entryBytes", "(ZI)I"⟩ : MethodName) = true := by first | exact plainFor_of_name (by first | (simp [plainName, overriddenIn]; done) | decide +kernel) | decide +kernel
theorem ef_1 (m : MethodId) (y0 : Int32) (y1 : Int32) : entryFrame m #[(.int y0), (.int y1)] 2 = mkF m 0 #[.val (.int y0), .val (.int y1)] [] := by first | (simp [entryFrame, mkF, argsToLocals, Value.category]; done) | rfl
def Q1 (Z : State)   (h0 : Heap) (n0 : Nat) (ans : Int32) (v : Option Value) (h : Heap) (L : List Loc) : Prop := v = some (.int ans) ∧ Fr n0 L ∧ h = h0
set_option maxRecDepth 65536 in
set_option maxHeartbeats 40000000 in
theorem rm1 (l : Launch) (Z : State) (a0 : Array Value) (hw : ∀ d ∈ tables_1, d.before a0 Z = true) (p0 : Int32) (p1 : Int32)  (h0 : Heap) (n0 : Nat) (Z0 : n0 ≤ h0.size)  :
    Meets l Z (⟨"com/example/numbersieve/numbersieve/EntryCodec", "entryBytes", "(ZI)I"⟩ : MethodName) prog_16_method_2_code 2 (some .int) [] ({ frames := 0, cells := 0, slots := 0, locals := 0 } : Room) #[(.int p0), (.int p1)] h0 (Q1 Z  h0 n0 (F1 p0 p1)) 0 0 := by
  refine Meets.of pn_1 ?_
  intro p e s m below meth c s₁ hx hby hml hZ hown hnm hret hlk X0 e0
  have hml : c.maxLocals = 2 := hml
  have hown : s.vm.findClass "com/example/numbersieve/numbersieve/EntryCodec" = some m.cls := hown
  have N0 := Fr.nil n0
  have b16 : ∀ (T : State) (L : List Loc) (X : Stand p l e ({ frames := 0, cells := 0, slots := 0, locals := 0 } : Room) s m #[(.int p0), (.int p1)] below meth c T L 0 0) (eT : T.heap = h0) (N : Fr n0 L) (t1 : Int32) (t0 : Int32) (d0 : Slot) (od0 : OneS d0) (d1 : Slot) (od1 : OneS d1), Ends p e below s 0 0 (Q1 Z  h0 n0 (F1_16 t1 t0)) (T.setTop (mkF m 16 #[d0, d1] [(.int t1), (.int t0)])) := by
    intro T L X eT N t1 t0 d0 od0 d1 od1
    refine Ends.step (u' := (T.setTop (mkF m 17 #[d0, d1] [(.int (t0 + t1))]))) ?_ (fun _ k => XS.iadd X.here hx rfl (hb hby d1_16) rfl k)
    exact Ends.ret X (v := some (.int (t0 + t1))) (fun q => by rw [hret] at q; cases q) hlk (fun fs hr => retI X hx hret (hb hby d1_17) hr) (by decide) (by decide) ⟨rfl, N, eT⟩
  have b11 : ∀ (T : State) (L : List Loc) (X : Stand p l e ({ frames := 0, cells := 0, slots := 0, locals := 0 } : Room) s m #[(.int p0), (.int p1)] below meth c T L 0 0) (eT : T.heap = h0) (N : Fr n0 L) (t0 : Int32) (d0 : Slot) (od0 : OneS d0) (d1 : Slot) (od1 : OneS d1), Ends p e below s 0 0 (Q1 Z  h0 n0 (F1_11 t0)) (T.setTop (mkF m 11 #[d0, d1] [(.int t0)])) := by
    intro T L X eT N t0 d0 od0 d1 od1
    refine Ends.step (u' := (T.setTop (mkF m 12 #[d0, d1] [(.int (4 : Int32)), (.int t0)]))) ?_ (fun _ k => XT.iconstV X.here hx rfl (4 : Int32) (hb hby d1_11) rfl k)
    refine Ends.step (u' := (T.setTop (mkF m 16 #[d0, d1] [(.int (4 : Int32)), (.int t0)]))) ?_ (fun _ k => XS.goto X.here hx rfl (pc0 := 12) (pc' := 16) rfl (hb hby d1_12) (by decide) (by decide) k)
    exact b16 T _ X eT N (4 : Int32) t0 (d0) od0 (d1) od1
  have b15 : ∀ (T : State) (L : List Loc) (X : Stand p l e ({ frames := 0, cells := 0, slots := 0, locals := 0 } : Room) s m #[(.int p0), (.int p1)] below meth c T L 0 0) (eT : T.heap = h0) (N : Fr n0 L) (t0 : Int32) (d0 : Slot) (od0 : OneS d0) (d1 : Slot) (od1 : OneS d1), Ends p e below s 0 0 (Q1 Z  h0 n0 (F1_15 t0)) (T.setTop (mkF m 15 #[d0, d1] [(.int t0)])) := by
    intro T L X eT N t0 d0 od0 d1 od1
    refine Ends.step (u' := (T.setTop (mkF m 16 #[d0, d1] [(.int (0 : Int32)), (.int t0)]))) ?_ (fun _ k => XT.iconstV X.here hx rfl (0 : Int32) (hb hby d1_15) rfl k)
    exact b16 T _ X eT N (0 : Int32) t0 (d0) od0 (d1) od1
  refine Ends.step (u' := (s₁.setTop (mkF m 0 #[.val (.int p0), .val (.int p1)] []))) ?_ (fun _ k => castTop (ef_1 m p0 p1) k)
  refine Ends.step (u' := (s₁.setTop (mkF m 1 #[.val (.int p0), .val (.int p1)] [(.int (1 : Int32))]))) ?_ (fun _ k => XT.iconstV X0.here hx rfl (1 : Int32) (hb hby d1_0) rfl k)
  refine Ends.step (u' := (s₁.setTop (mkF m 2 #[.val (.int p0), .val (.int p1)] [(.int p1), (.int (1 : Int32))]))) ?_ (fun _ k => XS.iloadN X0.here hx rfl (hb hby d1_1) rfl k)
  refine Ends.step (u' := (s₁.setTop (mkF m 3 #[.val (.int p0), .val (.int p1)] [(.int (1 : Int32)), (.int p1), (.int (1 : Int32))]))) ?_ (fun _ k => XT.iconstV X0.here hx rfl (1 : Int32) (hb hby d1_2) rfl k)
  refine Ends.step (u' := (s₁.setTop (mkF m 4 #[.val (.int p0), .val (.int p1)] [(.int (p1 + (1 : Int32))), (.int (1 : Int32))]))) ?_ (fun _ k => XS.iadd X0.here hx rfl (hb hby d1_3) rfl k)
  refine Ends.step (u' := (s₁.setTop (mkF m 5 #[.val (.int p0), .val (.int p1)] [(.int (2 : Int32)), (.int (p1 + (1 : Int32))), (.int (1 : Int32))]))) ?_ (fun _ k => XT.iconstV X0.here hx rfl (2 : Int32) (hb hby d1_4) rfl k)
  refine Ends.step (u' := (s₁.setTop (mkF m 6 #[.val (.int p0), .val (.int p1)] [(.int ((p1 + (1 : Int32)) / (2 : Int32))), (.int (1 : Int32))]))) ?_ (fun _ k => XS.idiv X0.here hx rfl (hb hby d1_5) rfl (by decide) k)
  refine Ends.step (u' := (s₁.setTop (mkF m 7 #[.val (.int p0), .val (.int p1)] [(.int ((1 : Int32) + ((p1 + (1 : Int32)) / (2 : Int32))))]))) ?_ (fun _ k => XS.iadd X0.here hx rfl (hb hby d1_6) rfl k)
  refine Ends.step (u' := (s₁.setTop (mkF m 8 #[.val (.int p0), .val (.int p1)] [(.int p0), (.int ((1 : Int32) + ((p1 + (1 : Int32)) / (2 : Int32))))]))) ?_ (fun _ k => XS.iloadN X0.here hx rfl (hb hby d1_7) rfl k)
  by_cases hc8 : p0 = 0
  · refine Eq.mp (congrArg (fun z => Ends p e below s 0 0 (Q1 Z  h0 n0 z) (s₁.setTop (mkF m 8 #[.val (.int p0), .val (.int p1)] [(.int p0), (.int ((1 : Int32) + ((p1 + (1 : Int32)) / (2 : Int32))))]))) (show (F1 p0 p1) = (F1_15 ((1 : Int32) + ((p1 + (1 : Int32)) / (2 : Int32)))) from (if_pos hc8)).symm) ?_
    refine Ends.step (u' := (s₁.setTop (mkF m 15 #[.val (.int p0), .val (.int p1)] [(.int ((1 : Int32) + ((p1 + (1 : Int32)) / (2 : Int32))))]))) ?_ (fun _ k => XS.ifYes X0.here hx rfl (pc0 := 8) (pc' := 15) rfl (hb hby d1_8) rfl (XT.i0_eq_t hc8) (by decide) (by decide) k)
    exact b15 s₁ _ X0 e0 N0 ((1 : Int32) + ((p1 + (1 : Int32)) / (2 : Int32))) (.val (.int p0)) (Or.inr ⟨_, rfl, rfl⟩) (.val (.int p1)) (Or.inr ⟨_, rfl, rfl⟩)
  · refine Eq.mp (congrArg (fun z => Ends p e below s 0 0 (Q1 Z  h0 n0 z) (s₁.setTop (mkF m 8 #[.val (.int p0), .val (.int p1)] [(.int p0), (.int ((1 : Int32) + ((p1 + (1 : Int32)) / (2 : Int32))))]))) (show (F1 p0 p1) = (F1_11 ((1 : Int32) + ((p1 + (1 : Int32)) / (2 : Int32)))) from (if_neg hc8)).symm) ?_
    refine Ends.step (u' := (s₁.setTop (mkF m 11 #[.val (.int p0), .val (.int p1)] [(.int ((1 : Int32) + ((p1 + (1 : Int32)) / (2 : Int32))))]))) ?_ (fun _ k => XS.ifNo X0.here hx rfl (hb hby d1_8) rfl (XT.i0_eq_f hc8) k)
    exact b11 s₁ _ X0 e0 N0 ((1 : Int32) + ((p1 + (1 : Int32)) / (2 : Int32))) (.val (.int p0)) (Or.inr ⟨_, rfl, rfl⟩) (.val (.int p1)) (Or.inr ⟨_, rfl, rfl⟩)
theorem d2_0 : decode prog_16_method_3_code 0 = .ok (.iload_n 1, 1) := by decide +kernel
theorem d2_1 : decode prog_16_method_3_code 1 = .ok (.istore 6, 2) := by decide +kernel
theorem d2_3 : decode prog_16_method_3_code 3 = .ok (.aload_n 0, 1) := by decide +kernel
theorem d2_4 : decode prog_16_method_3_code 4 = .ok (.iload 6, 2) := by decide +kernel
theorem d2_6 : decode prog_16_method_3_code 6 = .ok (.iinc 6 1, 3) := by decide +kernel
theorem d2_9 : decode prog_16_method_3_code 9 = .ok (.iload 4, 2) := by decide +kernel
theorem d2_11 : decode prog_16_method_3_code 11 = .ok (.i2b, 1) := by decide +kernel
theorem d2_12 : decode prog_16_method_3_code 12 = .ok (.bastore, 1) := by decide +kernel
theorem d2_13 : decode prog_16_method_3_code 13 = .ok (.iconst 0, 1) := by decide +kernel
theorem d2_14 : decode prog_16_method_3_code 14 = .ok (.istore 7, 2) := by decide +kernel
theorem d2_16 : decode prog_16_method_3_code 16 = .ok (.iload 7, 2) := by decide +kernel
theorem d2_18 : decode prog_16_method_3_code 18 = .ok (.iload 4, 2) := by decide +kernel
theorem d2_20 : decode prog_16_method_3_code 20 = .ok (.if_icmp .ge 57, 3) := by decide +kernel
theorem d2_23 : decode prog_16_method_3_code 23 = .ok (.aload_n 3, 1) := by decide +kernel
theorem d2_24 : decode prog_16_method_3_code 24 = .ok (.iload 7, 2) := by decide +kernel
theorem d2_26 : decode prog_16_method_3_code 26 = .ok (.baload, 1) := by decide +kernel
theorem d2_27 : decode prog_16_method_3_code 27 = .ok (.bipush 48, 2) := by decide +kernel
theorem d2_29 : decode prog_16_method_3_code 29 = .ok (.isub, 1) := by decide +kernel
theorem d2_30 : decode prog_16_method_3_code 30 = .ok (.istore 8, 2) := by decide +kernel
theorem d2_32 : decode prog_16_method_3_code 32 = .ok (.iload 7, 2) := by decide +kernel
theorem d2_34 : decode prog_16_method_3_code 34 = .ok (.iconst 1, 1) := by decide +kernel
theorem d2_35 : decode prog_16_method_3_code 35 = .ok (.iadd, 1) := by decide +kernel
theorem d2_36 : decode prog_16_method_3_code 36 = .ok (.iload 4, 2) := by decide +kernel
theorem d2_38 : decode prog_16_method_3_code 38 = .ok (.if_icmp .ge 15, 3) := by decide +kernel
theorem d2_41 : decode prog_16_method_3_code 41 = .ok (.aload_n 3, 1) := by decide +kernel
theorem d2_42 : decode prog_16_method_3_code 42 = .ok (.iload 7, 2) := by decide +kernel
theorem d2_44 : decode prog_16_method_3_code 44 = .ok (.iconst 1, 1) := by decide +kernel
theorem d2_45 : decode prog_16_method_3_code 45 = .ok (.iadd, 1) := by decide +kernel
theorem d2_46 : decode prog_16_method_3_code 46 = .ok (.baload, 1) := by decide +kernel
theorem d2_47 : decode prog_16_method_3_code 47 = .ok (.bipush 48, 2) := by decide +kernel
theorem d2_49 : decode prog_16_method_3_code 49 = .ok (.isub, 1) := by decide +kernel
theorem d2_50 : decode prog_16_method_3_code 50 = .ok (.goto 4, 3) := by decide +kernel
theorem d2_53 : decode prog_16_method_3_code 53 = .ok (.iconst 0, 1) := by decide +kernel
theorem d2_54 : decode prog_16_method_3_code 54 = .ok (.istore 9, 2) := by decide +kernel
theorem d2_56 : decode prog_16_method_3_code 56 = .ok (.aload_n 0, 1) := by decide +kernel
theorem d2_57 : decode prog_16_method_3_code 57 = .ok (.iload 6, 2) := by decide +kernel
theorem d2_59 : decode prog_16_method_3_code 59 = .ok (.iinc 6 1, 3) := by decide +kernel
theorem d2_62 : decode prog_16_method_3_code 62 = .ok (.iload 8, 2) := by decide +kernel
theorem d2_64 : decode prog_16_method_3_code 64 = .ok (.iconst 4, 1) := by decide +kernel
theorem d2_65 : decode prog_16_method_3_code 65 = .ok (.ishl, 1) := by decide +kernel
theorem d2_66 : decode prog_16_method_3_code 66 = .ok (.iload 9, 2) := by decide +kernel
theorem d2_68 : decode prog_16_method_3_code 68 = .ok (.ior, 1) := by decide +kernel
theorem d2_69 : decode prog_16_method_3_code 69 = .ok (.i2b, 1) := by decide +kernel
theorem d2_70 : decode prog_16_method_3_code 70 = .ok (.bastore, 1) := by decide +kernel
theorem d2_71 : decode prog_16_method_3_code 71 = .ok (.iinc 7 2, 3) := by decide +kernel
theorem d2_74 : decode prog_16_method_3_code 74 = .ok (.goto (-58), 3) := by decide +kernel
theorem d2_77 : decode prog_16_method_3_code 77 = .ok (.iload_n 2, 1) := by decide +kernel
theorem d2_78 : decode prog_16_method_3_code 78 = .ok (.ifCond .eq 31, 3) := by decide +kernel
theorem d2_81 : decode prog_16_method_3_code 81 = .ok (.bipush 24, 2) := by decide +kernel
theorem d2_83 : decode prog_16_method_3_code 83 = .ok (.istore 7, 2) := by decide +kernel
theorem d2_85 : decode prog_16_method_3_code 85 = .ok (.iload 7, 2) := by decide +kernel
theorem d2_87 : decode prog_16_method_3_code 87 = .ok (.ifCond .lt 22, 3) := by decide +kernel
theorem d2_90 : decode prog_16_method_3_code 90 = .ok (.aload_n 0, 1) := by decide +kernel
theorem d2_91 : decode prog_16_method_3_code 91 = .ok (.iload 6, 2) := by decide +kernel
theorem d2_93 : decode prog_16_method_3_code 93 = .ok (.iinc 6 1, 3) := by decide +kernel
theorem d2_96 : decode prog_16_method_3_code 96 = .ok (.iload 5, 2) := by decide +kernel
theorem d2_98 : decode prog_16_method_3_code 98 = .ok (.iload 7, 2) := by decide +kernel
theorem d2_100 : decode prog_16_method_3_code 100 = .ok (.iushr, 1) := by decide +kernel
theorem d2_101 : decode prog_16_method_3_code 101 = .ok (.i2b, 1) := by decide +kernel
theorem d2_102 : decode prog_16_method_3_code 102 = .ok (.bastore, 1) := by decide +kernel
theorem d2_103 : decode prog_16_method_3_code 103 = .ok (.iinc 7 (-8), 3) := by decide +kernel
theorem d2_106 : decode prog_16_method_3_code 106 = .ok (.goto (-21), 3) := by decide +kernel
theorem d2_109 : decode prog_16_method_3_code 109 = .ok (.iload 6, 2) := by decide +kernel
theorem d2_111 : decode prog_16_method_3_code 111 = .ok (.ireturn, 1) := by decide +kernel
theorem pn_2 : plainFor (⟨"com/example/numbersieve/numbersieve/EntryCodec", "encode", "([BIZ[BII)I"⟩ : MethodName) = true := by first | exact plainFor_of_name (by first | (simp [plainName, overriddenIn]; done) | decide +kernel) | decide +kernel
theorem ef_2 (m : MethodId) (y0 : Addr) (y1 : Int32) (y2 : Int32) (y3 : Addr) (y4 : Int32) (y5 : Int32) : entryFrame m #[(.ref y0), (.int y1), (.int y2), (.ref y3), (.int y4), (.int y5)] 10 = mkF m 0 #[.val (.ref y0), .val (.int y1), .val (.int y2), .val (.ref y3), .val (.int y4), .val (.int y5), .unset, .unset, .unset, .unset] [] := by first | (simp [entryFrame, mkF, argsToLocals, Value.category]; done) | rfl
def Q2 (Z : State) (a_o0 : Addr) (a_o3 : Addr) (n_o0 : Nat) (f_o0 : Nat → Int32) (n_o3 : Nat) (f_o3 : Nat → Int32) (h0 : Heap) (n0 : Nat) (ans : Int32 × (Nat → Int32)) (v : Option Value) (h : Heap) (L : List Loc) : Prop := v = some (.int ans.1) ∧ Fr n0 L ∧ Keep h0 h [a_o0] ∧ Ar Z h a_o0 .byte n_o0 ans.2
set_option maxRecDepth 65536 in
set_option maxHeartbeats 40000000 in
theorem rm2 (l : Launch) (Z : State) (a0 : Array Value) (hw : ∀ d ∈ tables_1, d.before a0 Z = true) (K : Nat) (p1 : Int32) (p2 : Int32) (p4 : Int32) (p5 : Int32) (n_o0 : Nat) (f_o0 : Nat → Int32) (n_o3 : Nat) (f_o3 : Nat → Int32) (a_o0 : Addr) (a_o3 : Addr) (h0 : Heap) (n0 : Nat) (Z0 : n0 ≤ h0.size) (A_o0 : Ar Z h0 a_o0 .byte n_o0 f_o0) (A_o3 : Ar Z h0 a_o3 .byte n_o3 f_o3) (ne_o0_o3 : a_o0 ≠ a_o3) (g_o0 : n0 ≤ a_o0) (ok : O2 K p1 p2 p4 p5 n_o0 f_o0 n_o3 f_o3) :
    Meets l Z (⟨"com/example/numbersieve/numbersieve/EntryCodec", "encode", "([BIZ[BII)I"⟩ : MethodName) prog_16_method_3_code 10 (some .int) [] ({ frames := 0, cells := 0, slots := 0, locals := 0 } : Room) #[(.ref a_o0), (.int p1), (.int p2), (.ref a_o3), (.int p4), (.int p5)] h0 (Q2 Z a_o0 a_o3 n_o0 f_o0 n_o3 f_o3 h0 n0 (F2 K p1 p2 p4 p5 n_o0 f_o0 n_o3 f_o3)) 0 0 := by
  refine Meets.of pn_2 ?_
  intro p e s m below meth c s₁ hx hby hml hZ hown hnm hret hlk X0 e0
  have hml : c.maxLocals = 10 := hml
  have hown : s.vm.findClass "com/example/numbersieve/numbersieve/EntryCodec" = some m.cls := hown
  have N0 := Fr.nil n0
  have K0 := Keep.refl h0 [a_o0]
  have b109 : ∀ (T : State) (L : List Loc) (h : Heap) (X : Stand p l e ({ frames := 0, cells := 0, slots := 0, locals := 0 } : Room) s m #[(.ref a_o0), (.int p1), (.int p2), (.ref a_o3), (.int p4), (.int p5)] below meth c T L 0 0) (eT : T.heap = h) (N : Fr n0 L) (Zs : n0 ≤ h.size) (Kp : Keep h0 h [a_o0]) (cf_o0 : Nat → Int32) (x6 : Int32) (d0 : Slot) (od0 : OneS d0) (d1 : Slot) (od1 : OneS d1) (d2 : Slot) (od2 : OneS d2) (d3 : Slot) (od3 : OneS d3) (d4 : Slot) (od4 : OneS d4) (d5 : Slot) (od5 : OneS d5) (d7 : Slot) (od7 : OneS d7) (d8 : Slot) (od8 : OneS d8) (d9 : Slot) (od9 : OneS d9) (A_o0 : Ar Z h a_o0 .byte n_o0 cf_o0) (A_o3 : Ar Z h a_o3 .byte n_o3 f_o3), Ends p e below s 0 0 (Q2 Z a_o0 a_o3 n_o0 f_o0 n_o3 f_o3 h0 n0 (F2_109 K n_o0 cf_o0 n_o3 f_o3 x6)) (T.setTop (mkF m 109 #[d0, d1, d2, d3, d4, d5, .val (.int x6), d7, d8, d9] [])) := by
    intro T L h X eT N Zs Kp cf_o0 x6 d0 od0 d1 od1 d2 od2 d3 od3 d4 od4 d5 od5 d7 od7 d8 od8 d9 od9 A_o0 A_o3
    refine Ends.step (u' := (T.setTop (mkF m 111 #[d0, d1, d2, d3, d4, d5, .val (.int x6), d7, d8, d9] [(.int x6)]))) ?_ (fun _ k => XS.iload X.here hx rfl (hb hby d2_109) rfl k)
    exact Ends.ret X (v := some (.int x6)) (fun q => by rw [hret] at q; cases q) hlk (fun fs hr => retI X hx hret (hb hby d2_111) hr) (by decide) (by decide) (by rw [eT]; exact ⟨rfl, N, Kp, A_o0⟩)
  have b85 : ∀ (j : Nat) (T : State) (L : List Loc) (h : Heap) (X : Stand p l e ({ frames := 0, cells := 0, slots := 0, locals := 0 } : Room) s m #[(.ref a_o0), (.int p1), (.int p2), (.ref a_o3), (.int p4), (.int p5)] below meth c T L 0 0) (eT : T.heap = h) (N : Fr n0 L) (Zs : n0 ≤ h.size) (Kp : Keep h0 h [a_o0]) (cf_o0 : Nat → Int32) (x5 : Int32) (x6 : Int32) (x7 : Int32) (d1 : Slot) (od1 : OneS d1) (d2 : Slot) (od2 : OneS d2) (d3 : Slot) (od3 : OneS d3) (d4 : Slot) (od4 : OneS d4) (d8 : Slot) (od8 : OneS d8) (d9 : Slot) (od9 : OneS d9) (A_o0 : Ar Z h a_o0 .byte n_o0 cf_o0) (A_o3 : Ar Z h a_o3 .byte n_o3 f_o3) (ok : (O2_85 K j n_o0 cf_o0 n_o3 f_o3 x5 x6 x7)), Ends p e below s 0 0 (Q2 Z a_o0 a_o3 n_o0 f_o0 n_o3 f_o3 h0 n0 (F2_85 K j n_o0 cf_o0 n_o3 f_o3 x5 x6 x7)) (T.setTop (mkF m 85 #[.val (.ref a_o0), d1, d2, d3, d4, .val (.int x5), .val (.int x6), .val (.int x7), d8, d9] [])) := by
    intro j
    induction j with
    | zero => intro T L h X eT N Zs Kp cf_o0 x5 x6 x7 d1 od1 d2 od2 d3 od3 d4 od4 d8 od8 d9 od9 A_o0 A_o3 ok; exact ok.elim
    | succ j ih =>
      have b90 : ∀ (T : State) (L : List Loc) (h : Heap) (X : Stand p l e ({ frames := 0, cells := 0, slots := 0, locals := 0 } : Room) s m #[(.ref a_o0), (.int p1), (.int p2), (.ref a_o3), (.int p4), (.int p5)] below meth c T L 0 0) (eT : T.heap = h) (N : Fr n0 L) (Zs : n0 ≤ h.size) (Kp : Keep h0 h [a_o0]) (cf_o0 : Nat → Int32) (x5 : Int32) (x6 : Int32) (x7 : Int32) (d1 : Slot) (od1 : OneS d1) (d2 : Slot) (od2 : OneS d2) (d3 : Slot) (od3 : OneS d3) (d4 : Slot) (od4 : OneS d4) (d8 : Slot) (od8 : OneS d8) (d9 : Slot) (od9 : OneS d9) (A_o0 : Ar Z h a_o0 .byte n_o0 cf_o0) (A_o3 : Ar Z h a_o3 .byte n_o3 f_o3) (ok : (O2_90 K (O2_85 K j) n_o0 cf_o0 n_o3 f_o3 x5 x6 x7)), Ends p e below s 0 0 (Q2 Z a_o0 a_o3 n_o0 f_o0 n_o3 f_o3 h0 n0 (F2_90 K (F2_85 K j) n_o0 cf_o0 n_o3 f_o3 x5 x6 x7)) (T.setTop (mkF m 90 #[.val (.ref a_o0), d1, d2, d3, d4, .val (.int x5), .val (.int x6), .val (.int x7), d8, d9] [])) := by
        intro T L h X eT N Zs Kp cf_o0 x5 x6 x7 d1 od1 d2 od2 d3 od3 d4 od4 d8 od8 d9 od9 A_o0 A_o3 ok
        obtain ⟨o1, ok⟩ := ok
        refine Ends.step (u' := (T.setTop (mkF m 91 #[.val (.ref a_o0), d1, d2, d3, d4, .val (.int x5), .val (.int x6), .val (.int x7), d8, d9] [(.ref a_o0)]))) ?_ (fun _ k => XS.aloadN X.here hx rfl (hb hby d2_90) rfl rfl k)
        refine Ends.step (u' := (T.setTop (mkF m 93 #[.val (.ref a_o0), d1, d2, d3, d4, .val (.int x5), .val (.int x6), .val (.int x7), d8, d9] [(.int x6), (.ref a_o0)]))) ?_ (fun _ k => XS.iload X.here hx rfl (hb hby d2_91) rfl k)
        refine Ends.step (u' := (T.setTop (mkF m 96 #[.val (.ref a_o0), d1, d2, d3, d4, .val (.int x5), .val (.int (x6 + (1 : Int32))), .val (.int x7), d8, d9] [(.int x6), (.ref a_o0)]))) ?_ (fun _ k => XT.iincV X.here hx rfl (1 : Int32) (hb hby d2_93) rfl rfl (l' := #[.val (.ref a_o0), d1, d2, d3, d4, .val (.int x5), .val (.int (x6 + (1 : Int32))), .val (.int x7), d8, d9]) rfl k)
        refine Ends.step (u' := (T.setTop (mkF m 98 #[.val (.ref a_o0), d1, d2, d3, d4, .val (.int x5), .val (.int (x6 + (1 : Int32))), .val (.int x7), d8, d9] [(.int x5), (.int x6), (.ref a_o0)]))) ?_ (fun _ k => XS.iload X.here hx rfl (hb hby d2_96) rfl k)
        refine Ends.step (u' := (T.setTop (mkF m 100 #[.val (.ref a_o0), d1, d2, d3, d4, .val (.int x5), .val (.int (x6 + (1 : Int32))), .val (.int x7), d8, d9] [(.int x7), (.int x5), (.int x6), (.ref a_o0)]))) ?_ (fun _ k => XS.iload X.here hx rfl (hb hby d2_98) rfl k)
        refine Ends.step (u' := (T.setTop (mkF m 101 #[.val (.ref a_o0), d1, d2, d3, d4, .val (.int x5), .val (.int (x6 + (1 : Int32))), .val (.int x7), d8, d9] [(.int (XT.ushr x5 x7)), (.int x6), (.ref a_o0)]))) ?_ (fun _ k => XT.iushr X.here hx rfl (hb hby d2_100) rfl k)
        refine Ends.step (u' := (T.setTop (mkF m 102 #[.val (.ref a_o0), d1, d2, d3, d4, .val (.int x5), .val (.int (x6 + (1 : Int32))), .val (.int x7), d8, d9] [(.int (((XT.ushr x5 x7)).toInt8.toInt32)), (.int x6), (.ref a_o0)]))) ?_ (fun _ k => XT.i2b X.here hx rfl (hb hby d2_101) rfl k)
        refine Ends.bastore X hx hZ eT A_o0 o1 N g_o0 (g := (mkF m 102 #[.val (.ref a_o0), d1, d2, d3, d4, .val (.int x5), .val (.int (x6 + (1 : Int32))), .val (.int x7), d8, d9] [(.int (((XT.ushr x5 x7)).toInt8.toInt32)), (.int x6), (.ref a_o0)])) rfl rfl (hb hby d2_102) (fun T1 h1 sl1 X1 e1 N1 W1 A1 => ?_)
        show Ends p e below s _ _ _ (T1.setTop (mkF m 103 #[.val (.ref a_o0), d1, d2, d3, d4, .val (.int x5), .val (.int (x6 + (1 : Int32))), .val (.int x7), d8, d9] []))
        have A2 := A_o3.other W1 ne_o0_o3.symm
        have Z3 : n0 ≤ h1.size := W1.size.symm ▸ Zs
        have K4 := Kp.wr W1 (Or.inl (List.mem_of_getElem? (i := 0) rfl))
        refine Ends.step (u' := (T1.setTop (mkF m 106 #[.val (.ref a_o0), d1, d2, d3, d4, .val (.int x5), .val (.int (x6 + (1 : Int32))), .val (.int (x7 + (-8 : Int32))), d8, d9] []))) ?_ (fun _ k => XT.iincV X1.here hx rfl (-8 : Int32) (hb hby d2_103) rfl rfl (l' := #[.val (.ref a_o0), d1, d2, d3, d4, .val (.int x5), .val (.int (x6 + (1 : Int32))), .val (.int (x7 + (-8 : Int32))), d8, d9]) rfl k)
        refine Ends.step (u' := (T1.setTop (mkF m 85 #[.val (.ref a_o0), d1, d2, d3, d4, .val (.int x5), .val (.int (x6 + (1 : Int32))), .val (.int (x7 + (-8 : Int32))), d8, d9] []))) ?_ (fun _ k => XS.goto X1.here hx rfl (pc0 := 106) (pc' := 85) rfl (hb hby d2_106) (by decide) (by decide) k)
        exact ih T1 _ _ X1 e1 N1 Z3 K4 (upd cf_o0 (x6).toNatClampNeg (nar .byte (((XT.ushr x5 x7)).toInt8.toInt32))) x5 (x6 + (1 : Int32)) (x7 + (-8 : Int32)) (d1) od1 (d2) od2 (d3) od3 (d4) od4 (d8) od8 (d9) od9 A1 A2 ok
      intro T L h X eT N Zs Kp cf_o0 x5 x6 x7 d1 od1 d2 od2 d3 od3 d4 od4 d8 od8 d9 od9 A_o0 A_o3 ok
      obtain ⟨okt, okf⟩ := ok
      refine Ends.step (u' := (T.setTop (mkF m 87 #[.val (.ref a_o0), d1, d2, d3, d4, .val (.int x5), .val (.int x6), .val (.int x7), d8, d9] [(.int x7)]))) ?_ (fun _ k => XS.iload X.here hx rfl (hb hby d2_85) rfl k)
      by_cases hc87 : x7 < 0
      · refine Eq.mp (congrArg (fun z => Ends p e below s 0 0 (Q2 Z a_o0 a_o3 n_o0 f_o0 n_o3 f_o3 h0 n0 z) (T.setTop (mkF m 87 #[.val (.ref a_o0), d1, d2, d3, d4, .val (.int x5), .val (.int x6), .val (.int x7), d8, d9] [(.int x7)]))) (show (F2_85 K (j + 1) n_o0 cf_o0 n_o3 f_o3 x5 x6 x7) = (F2_109 K n_o0 cf_o0 n_o3 f_o3 x6) from (if_pos hc87)).symm) ?_
        refine Ends.step (u' := (T.setTop (mkF m 109 #[.val (.ref a_o0), d1, d2, d3, d4, .val (.int x5), .val (.int x6), .val (.int x7), d8, d9] []))) ?_ (fun _ k => XS.ifYes X.here hx rfl (pc0 := 87) (pc' := 109) rfl (hb hby d2_87) rfl (XT.i0_lt_t hc87) (by decide) (by decide) k)
        exact b109 T _ _ X eT N Zs Kp cf_o0 x6 (.val (.ref a_o0)) (Or.inr ⟨_, rfl, rfl⟩) (d1) od1 (d2) od2 (d3) od3 (d4) od4 (.val (.int x5)) (Or.inr ⟨_, rfl, rfl⟩) (.val (.int x7)) (Or.inr ⟨_, rfl, rfl⟩) (d8) od8 (d9) od9 A_o0 A_o3
      · refine Eq.mp (congrArg (fun z => Ends p e below s 0 0 (Q2 Z a_o0 a_o3 n_o0 f_o0 n_o3 f_o3 h0 n0 z) (T.setTop (mkF m 87 #[.val (.ref a_o0), d1, d2, d3, d4, .val (.int x5), .val (.int x6), .val (.int x7), d8, d9] [(.int x7)]))) (show (F2_85 K (j + 1) n_o0 cf_o0 n_o3 f_o3 x5 x6 x7) = (F2_90 K (F2_85 K j) n_o0 cf_o0 n_o3 f_o3 x5 x6 x7) from (if_neg hc87)).symm) ?_
        refine Ends.step (u' := (T.setTop (mkF m 90 #[.val (.ref a_o0), d1, d2, d3, d4, .val (.int x5), .val (.int x6), .val (.int x7), d8, d9] []))) ?_ (fun _ k => XS.ifNo X.here hx rfl (hb hby d2_87) rfl (XT.i0_lt_f hc87) k)
        exact b90 T _ _ X eT N Zs Kp cf_o0 x5 x6 x7 (d1) od1 (d2) od2 (d3) od3 (d4) od4 (d8) od8 (d9) od9 A_o0 A_o3 (okf hc87)
  have b81 : ∀ (T : State) (L : List Loc) (h : Heap) (X : Stand p l e ({ frames := 0, cells := 0, slots := 0, locals := 0 } : Room) s m #[(.ref a_o0), (.int p1), (.int p2), (.ref a_o3), (.int p4), (.int p5)] below meth c T L 0 0) (eT : T.heap = h) (N : Fr n0 L) (Zs : n0 ≤ h.size) (Kp : Keep h0 h [a_o0]) (cf_o0 : Nat → Int32) (x5 : Int32) (x6 : Int32) (d1 : Slot) (od1 : OneS d1) (d2 : Slot) (od2 : OneS d2) (d3 : Slot) (od3 : OneS d3) (d4 : Slot) (od4 : OneS d4) (d7 : Slot) (od7 : OneS d7) (d8 : Slot) (od8 : OneS d8) (d9 : Slot) (od9 : OneS d9) (A_o0 : Ar Z h a_o0 .byte n_o0 cf_o0) (A_o3 : Ar Z h a_o3 .byte n_o3 f_o3) (ok : (O2_81 K n_o0 cf_o0 n_o3 f_o3 x5 x6)), Ends p e below s 0 0 (Q2 Z a_o0 a_o3 n_o0 f_o0 n_o3 f_o3 h0 n0 (F2_81 K n_o0 cf_o0 n_o3 f_o3 x5 x6)) (T.setTop (mkF m 81 #[.val (.ref a_o0), d1, d2, d3, d4, .val (.int x5), .val (.int x6), d7, d8, d9] [])) := by
    intro T L h X eT N Zs Kp cf_o0 x5 x6 d1 od1 d2 od2 d3 od3 d4 od4 d7 od7 d8 od8 d9 od9 A_o0 A_o3 ok
    refine Ends.step (u' := (T.setTop (mkF m 83 #[.val (.ref a_o0), d1, d2, d3, d4, .val (.int x5), .val (.int x6), d7, d8, d9] [(.int (24 : Int32))]))) ?_ (fun _ k => XT.bipushV X.here hx rfl (24 : Int32) (hb hby d2_81) rfl k)
    refine Ends.step (u' := (T.setTop (mkF m 85 #[.val (.ref a_o0), d1, d2, d3, d4, .val (.int x5), .val (.int x6), .val (.int (24 : Int32)), d8, d9] []))) ?_ (fun _ k => XS.istoreS X.here hx rfl (hb hby d2_83) rfl rfl od7 k)
    exact b85 K T _ _ X eT N Zs Kp cf_o0 x5 x6 (24 : Int32) (d1) od1 (d2) od2 (d3) od3 (d4) od4 (d8) od8 (d9) od9 A_o0 A_o3 ok
  have b77 : ∀ (T : State) (L : List Loc) (h : Heap) (X : Stand p l e ({ frames := 0, cells := 0, slots := 0, locals := 0 } : Room) s m #[(.ref a_o0), (.int p1), (.int p2), (.ref a_o3), (.int p4), (.int p5)] below meth c T L 0 0) (eT : T.heap = h) (N : Fr n0 L) (Zs : n0 ≤ h.size) (Kp : Keep h0 h [a_o0]) (cf_o0 : Nat → Int32) (x2 : Int32) (x5 : Int32) (x6 : Int32) (d1 : Slot) (od1 : OneS d1) (d3 : Slot) (od3 : OneS d3) (d4 : Slot) (od4 : OneS d4) (d7 : Slot) (od7 : OneS d7) (d8 : Slot) (od8 : OneS d8) (d9 : Slot) (od9 : OneS d9) (A_o0 : Ar Z h a_o0 .byte n_o0 cf_o0) (A_o3 : Ar Z h a_o3 .byte n_o3 f_o3) (ok : (O2_77 K n_o0 cf_o0 n_o3 f_o3 x2 x5 x6)), Ends p e below s 0 0 (Q2 Z a_o0 a_o3 n_o0 f_o0 n_o3 f_o3 h0 n0 (F2_77 K n_o0 cf_o0 n_o3 f_o3 x2 x5 x6)) (T.setTop (mkF m 77 #[.val (.ref a_o0), d1, .val (.int x2), d3, d4, .val (.int x5), .val (.int x6), d7, d8, d9] [])) := by
    intro T L h X eT N Zs Kp cf_o0 x2 x5 x6 d1 od1 d3 od3 d4 od4 d7 od7 d8 od8 d9 od9 A_o0 A_o3 ok
    obtain ⟨okt, okf⟩ := ok
    refine Ends.step (u' := (T.setTop (mkF m 78 #[.val (.ref a_o0), d1, .val (.int x2), d3, d4, .val (.int x5), .val (.int x6), d7, d8, d9] [(.int x2)]))) ?_ (fun _ k => XS.iloadN X.here hx rfl (hb hby d2_77) rfl k)
    by_cases hc78 : x2 = 0
    · refine Eq.mp (congrArg (fun z => Ends p e below s 0 0 (Q2 Z a_o0 a_o3 n_o0 f_o0 n_o3 f_o3 h0 n0 z) (T.setTop (mkF m 78 #[.val (.ref a_o0), d1, .val (.int x2), d3, d4, .val (.int x5), .val (.int x6), d7, d8, d9] [(.int x2)]))) (show (F2_77 K n_o0 cf_o0 n_o3 f_o3 x2 x5 x6) = (F2_109 K n_o0 cf_o0 n_o3 f_o3 x6) from (if_pos hc78)).symm) ?_
      refine Ends.step (u' := (T.setTop (mkF m 109 #[.val (.ref a_o0), d1, .val (.int x2), d3, d4, .val (.int x5), .val (.int x6), d7, d8, d9] []))) ?_ (fun _ k => XS.ifYes X.here hx rfl (pc0 := 78) (pc' := 109) rfl (hb hby d2_78) rfl (XT.i0_eq_t hc78) (by decide) (by decide) k)
      exact b109 T _ _ X eT N Zs Kp cf_o0 x6 (.val (.ref a_o0)) (Or.inr ⟨_, rfl, rfl⟩) (d1) od1 (.val (.int x2)) (Or.inr ⟨_, rfl, rfl⟩) (d3) od3 (d4) od4 (.val (.int x5)) (Or.inr ⟨_, rfl, rfl⟩) (d7) od7 (d8) od8 (d9) od9 A_o0 A_o3
    · refine Eq.mp (congrArg (fun z => Ends p e below s 0 0 (Q2 Z a_o0 a_o3 n_o0 f_o0 n_o3 f_o3 h0 n0 z) (T.setTop (mkF m 78 #[.val (.ref a_o0), d1, .val (.int x2), d3, d4, .val (.int x5), .val (.int x6), d7, d8, d9] [(.int x2)]))) (show (F2_77 K n_o0 cf_o0 n_o3 f_o3 x2 x5 x6) = (F2_81 K n_o0 cf_o0 n_o3 f_o3 x5 x6) from (if_neg hc78)).symm) ?_
      refine Ends.step (u' := (T.setTop (mkF m 81 #[.val (.ref a_o0), d1, .val (.int x2), d3, d4, .val (.int x5), .val (.int x6), d7, d8, d9] []))) ?_ (fun _ k => XS.ifNo X.here hx rfl (hb hby d2_78) rfl (XT.i0_eq_f hc78) k)
      exact b81 T _ _ X eT N Zs Kp cf_o0 x5 x6 (d1) od1 (.val (.int x2)) (Or.inr ⟨_, rfl, rfl⟩) (d3) od3 (d4) od4 (d7) od7 (d8) od8 (d9) od9 A_o0 A_o3 (okf hc78)
  have b16 : ∀ (j : Nat) (T : State) (L : List Loc) (h : Heap) (X : Stand p l e ({ frames := 0, cells := 0, slots := 0, locals := 0 } : Room) s m #[(.ref a_o0), (.int p1), (.int p2), (.ref a_o3), (.int p4), (.int p5)] below meth c T L 0 0) (eT : T.heap = h) (N : Fr n0 L) (Zs : n0 ≤ h.size) (Kp : Keep h0 h [a_o0]) (cf_o0 : Nat → Int32) (x2 : Int32) (x4 : Int32) (x5 : Int32) (x6 : Int32) (x7 : Int32) (d1 : Slot) (od1 : OneS d1) (d8 : Slot) (od8 : OneS d8) (d9 : Slot) (od9 : OneS d9) (A_o0 : Ar Z h a_o0 .byte n_o0 cf_o0) (A_o3 : Ar Z h a_o3 .byte n_o3 f_o3) (ok : (O2_16 K j n_o0 cf_o0 n_o3 f_o3 x2 x4 x5 x6 x7)), Ends p e below s 0 0 (Q2 Z a_o0 a_o3 n_o0 f_o0 n_o3 f_o3 h0 n0 (F2_16 K j n_o0 cf_o0 n_o3 f_o3 x2 x4 x5 x6 x7)) (T.setTop (mkF m 16 #[.val (.ref a_o0), d1, .val (.int x2), .val (.ref a_o3), .val (.int x4), .val (.int x5), .val (.int x6), .val (.int x7), d8, d9] [])) := by
    intro j
    induction j with
    | zero => intro T L h X eT N Zs Kp cf_o0 x2 x4 x5 x6 x7 d1 od1 d8 od8 d9 od9 A_o0 A_o3 ok; exact ok.elim
    | succ j ih =>
      have b54 : ∀ (T : State) (L : List Loc) (h : Heap) (X : Stand p l e ({ frames := 0, cells := 0, slots := 0, locals := 0 } : Room) s m #[(.ref a_o0), (.int p1), (.int p2), (.ref a_o3), (.int p4), (.int p5)] below meth c T L 0 0) (eT : T.heap = h) (N : Fr n0 L) (Zs : n0 ≤ h.size) (Kp : Keep h0 h [a_o0]) (cf_o0 : Nat → Int32) (x2 : Int32) (x4 : Int32) (x5 : Int32) (x6 : Int32) (x7 : Int32) (x8 : Int32) (t0 : Int32) (d1 : Slot) (od1 : OneS d1) (d9 : Slot) (od9 : OneS d9) (A_o0 : Ar Z h a_o0 .byte n_o0 cf_o0) (A_o3 : Ar Z h a_o3 .byte n_o3 f_o3) (ok : (O2_54 K (O2_16 K j) n_o0 cf_o0 n_o3 f_o3 x2 x4 x5 x6 x7 x8 t0)), Ends p e below s 0 0 (Q2 Z a_o0 a_o3 n_o0 f_o0 n_o3 f_o3 h0 n0 (F2_54 K (F2_16 K j) n_o0 cf_o0 n_o3 f_o3 x2 x4 x5 x6 x7 x8 t0)) (T.setTop (mkF m 54 #[.val (.ref a_o0), d1, .val (.int x2), .val (.ref a_o3), .val (.int x4), .val (.int x5), .val (.int x6), .val (.int x7), .val (.int x8), d9] [(.int t0)])) := by
        intro T L h X eT N Zs Kp cf_o0 x2 x4 x5 x6 x7 x8 t0 d1 od1 d9 od9 A_o0 A_o3 ok
        obtain ⟨o1, ok⟩ := ok
        refine Ends.step (u' := (T.setTop (mkF m 56 #[.val (.ref a_o0), d1, .val (.int x2), .val (.ref a_o3), .val (.int x4), .val (.int x5), .val (.int x6), .val (.int x7), .val (.int x8), .val (.int t0)] []))) ?_ (fun _ k => XS.istoreS X.here hx rfl (hb hby d2_54) rfl rfl od9 k)
        refine Ends.step (u' := (T.setTop (mkF m 57 #[.val (.ref a_o0), d1, .val (.int x2), .val (.ref a_o3), .val (.int x4), .val (.int x5), .val (.int x6), .val (.int x7), .val (.int x8), .val (.int t0)] [(.ref a_o0)]))) ?_ (fun _ k => XS.aloadN X.here hx rfl (hb hby d2_56) rfl rfl k)
        refine Ends.step (u' := (T.setTop (mkF m 59 #[.val (.ref a_o0), d1, .val (.int x2), .val (.ref a_o3), .val (.int x4), .val (.int x5), .val (.int x6), .val (.int x7), .val (.int x8), .val (.int t0)] [(.int x6), (.ref a_o0)]))) ?_ (fun _ k => XS.iload X.here hx rfl (hb hby d2_57) rfl k)
        refine Ends.step (u' := (T.setTop (mkF m 62 #[.val (.ref a_o0), d1, .val (.int x2), .val (.ref a_o3), .val (.int x4), .val (.int x5), .val (.int (x6 + (1 : Int32))), .val (.int x7), .val (.int x8), .val (.int t0)] [(.int x6), (.ref a_o0)]))) ?_ (fun _ k => XT.iincV X.here hx rfl (1 : Int32) (hb hby d2_59) rfl rfl (l' := #[.val (.ref a_o0), d1, .val (.int x2), .val (.ref a_o3), .val (.int x4), .val (.int x5), .val (.int (x6 + (1 : Int32))), .val (.int x7), .val (.int x8), .val (.int t0)]) rfl k)
        refine Ends.step (u' := (T.setTop (mkF m 64 #[.val (.ref a_o0), d1, .val (.int x2), .val (.ref a_o3), .val (.int x4), .val (.int x5), .val (.int (x6 + (1 : Int32))), .val (.int x7), .val (.int x8), .val (.int t0)] [(.int x8), (.int x6), (.ref a_o0)]))) ?_ (fun _ k => XS.iload X.here hx rfl (hb hby d2_62) rfl k)
        refine Ends.step (u' := (T.setTop (mkF m 65 #[.val (.ref a_o0), d1, .val (.int x2), .val (.ref a_o3), .val (.int x4), .val (.int x5), .val (.int (x6 + (1 : Int32))), .val (.int x7), .val (.int x8), .val (.int t0)] [(.int (4 : Int32)), (.int x8), (.int x6), (.ref a_o0)]))) ?_ (fun _ k => XT.iconstV X.here hx rfl (4 : Int32) (hb hby d2_64) rfl k)
        refine Ends.step (u' := (T.setTop (mkF m 66 #[.val (.ref a_o0), d1, .val (.int x2), .val (.ref a_o3), .val (.int x4), .val (.int x5), .val (.int (x6 + (1 : Int32))), .val (.int x7), .val (.int x8), .val (.int t0)] [(.int (x8 <<< ((4 : Int32) &&& 31))), (.int x6), (.ref a_o0)]))) ?_ (fun _ k => XT.ishl X.here hx rfl (hb hby d2_65) rfl k)
        refine Ends.step (u' := (T.setTop (mkF m 68 #[.val (.ref a_o0), d1, .val (.int x2), .val (.ref a_o3), .val (.int x4), .val (.int x5), .val (.int (x6 + (1 : Int32))), .val (.int x7), .val (.int x8), .val (.int t0)] [(.int t0), (.int (x8 <<< ((4 : Int32) &&& 31))), (.int x6), (.ref a_o0)]))) ?_ (fun _ k => XS.iload X.here hx rfl (hb hby d2_66) rfl k)
        refine Ends.step (u' := (T.setTop (mkF m 69 #[.val (.ref a_o0), d1, .val (.int x2), .val (.ref a_o3), .val (.int x4), .val (.int x5), .val (.int (x6 + (1 : Int32))), .val (.int x7), .val (.int x8), .val (.int t0)] [(.int ((x8 <<< ((4 : Int32) &&& 31)) ||| t0)), (.int x6), (.ref a_o0)]))) ?_ (fun _ k => XT.ior X.here hx rfl (hb hby d2_68) rfl k)
        refine Ends.step (u' := (T.setTop (mkF m 70 #[.val (.ref a_o0), d1, .val (.int x2), .val (.ref a_o3), .val (.int x4), .val (.int x5), .val (.int (x6 + (1 : Int32))), .val (.int x7), .val (.int x8), .val (.int t0)] [(.int ((((x8 <<< ((4 : Int32) &&& 31)) ||| t0)).toInt8.toInt32)), (.int x6), (.ref a_o0)]))) ?_ (fun _ k => XT.i2b X.here hx rfl (hb hby d2_69) rfl k)
        refine Ends.bastore X hx hZ eT A_o0 o1 N g_o0 (g := (mkF m 70 #[.val (.ref a_o0), d1, .val (.int x2), .val (.ref a_o3), .val (.int x4), .val (.int x5), .val (.int (x6 + (1 : Int32))), .val (.int x7), .val (.int x8), .val (.int t0)] [(.int ((((x8 <<< ((4 : Int32) &&& 31)) ||| t0)).toInt8.toInt32)), (.int x6), (.ref a_o0)])) rfl rfl (hb hby d2_70) (fun T5 h5 sl5 X5 e5 N5 W5 A5 => ?_)
        show Ends p e below s _ _ _ (T5.setTop (mkF m 71 #[.val (.ref a_o0), d1, .val (.int x2), .val (.ref a_o3), .val (.int x4), .val (.int x5), .val (.int (x6 + (1 : Int32))), .val (.int x7), .val (.int x8), .val (.int t0)] []))
        have A6 := A_o3.other W5 ne_o0_o3.symm
        have Z7 : n0 ≤ h5.size := W5.size.symm ▸ Zs
        have K8 := Kp.wr W5 (Or.inl (List.mem_of_getElem? (i := 0) rfl))
        refine Ends.step (u' := (T5.setTop (mkF m 74 #[.val (.ref a_o0), d1, .val (.int x2), .val (.ref a_o3), .val (.int x4), .val (.int x5), .val (.int (x6 + (1 : Int32))), .val (.int (x7 + (2 : Int32))), .val (.int x8), .val (.int t0)] []))) ?_ (fun _ k => XT.iincV X5.here hx rfl (2 : Int32) (hb hby d2_71) rfl rfl (l' := #[.val (.ref a_o0), d1, .val (.int x2), .val (.ref a_o3), .val (.int x4), .val (.int x5), .val (.int (x6 + (1 : Int32))), .val (.int (x7 + (2 : Int32))), .val (.int x8), .val (.int t0)]) rfl k)
        refine Ends.step (u' := (T5.setTop (mkF m 16 #[.val (.ref a_o0), d1, .val (.int x2), .val (.ref a_o3), .val (.int x4), .val (.int x5), .val (.int (x6 + (1 : Int32))), .val (.int (x7 + (2 : Int32))), .val (.int x8), .val (.int t0)] []))) ?_ (fun _ k => XS.goto X5.here hx rfl (pc0 := 74) (pc' := 16) rfl (hb hby d2_74) (by decide) (by decide) k)
        exact ih T5 _ _ X5 e5 N5 Z7 K8 (upd cf_o0 (x6).toNatClampNeg (nar .byte ((((x8 <<< ((4 : Int32) &&& 31)) ||| t0)).toInt8.toInt32))) x2 x4 x5 (x6 + (1 : Int32)) (x7 + (2 : Int32)) (d1) od1 (.val (.int x8)) (Or.inr ⟨_, rfl, rfl⟩) (.val (.int t0)) (Or.inr ⟨_, rfl, rfl⟩) A5 A6 ok
      have b41 : ∀ (T : State) (L : List Loc) (h : Heap) (X : Stand p l e ({ frames := 0, cells := 0, slots := 0, locals := 0 } : Room) s m #[(.ref a_o0), (.int p1), (.int p2), (.ref a_o3), (.int p4), (.int p5)] below meth c T L 0 0) (eT : T.heap = h) (N : Fr n0 L) (Zs : n0 ≤ h.size) (Kp : Keep h0 h [a_o0]) (cf_o0 : Nat → Int32) (x2 : Int32) (x4 : Int32) (x5 : Int32) (x6 : Int32) (x7 : Int32) (x8 : Int32) (d1 : Slot) (od1 : OneS d1) (d9 : Slot) (od9 : OneS d9) (A_o0 : Ar Z h a_o0 .byte n_o0 cf_o0) (A_o3 : Ar Z h a_o3 .byte n_o3 f_o3) (ok : (O2_41 K (O2_16 K j) n_o0 cf_o0 n_o3 f_o3 x2 x4 x5 x6 x7 x8)), Ends p e below s 0 0 (Q2 Z a_o0 a_o3 n_o0 f_o0 n_o3 f_o3 h0 n0 (F2_41 K (F2_16 K j) n_o0 cf_o0 n_o3 f_o3 x2 x4 x5 x6 x7 x8)) (T.setTop (mkF m 41 #[.val (.ref a_o0), d1, .val (.int x2), .val (.ref a_o3), .val (.int x4), .val (.int x5), .val (.int x6), .val (.int x7), .val (.int x8), d9] [])) := by
        intro T L h X eT N Zs Kp cf_o0 x2 x4 x5 x6 x7 x8 d1 od1 d9 od9 A_o0 A_o3 ok
        obtain ⟨o1, ok⟩ := ok
        refine Ends.step (u' := (T.setTop (mkF m 42 #[.val (.ref a_o0), d1, .val (.int x2), .val (.ref a_o3), .val (.int x4), .val (.int x5), .val (.int x6), .val (.int x7), .val (.int x8), d9] [(.ref a_o3)]))) ?_ (fun _ k => XS.aloadN X.here hx rfl (hb hby d2_41) rfl rfl k)
        refine Ends.step (u' := (T.setTop (mkF m 44 #[.val (.ref a_o0), d1, .val (.int x2), .val (.ref a_o3), .val (.int x4), .val (.int x5), .val (.int x6), .val (.int x7), .val (.int x8), d9] [(.int x7), (.ref a_o3)]))) ?_ (fun _ k => XS.iload X.here hx rfl (hb hby d2_42) rfl k)
        refine Ends.step (u' := (T.setTop (mkF m 45 #[.val (.ref a_o0), d1, .val (.int x2), .val (.ref a_o3), .val (.int x4), .val (.int x5), .val (.int x6), .val (.int x7), .val (.int x8), d9] [(.int (1 : Int32)), (.int x7), (.ref a_o3)]))) ?_ (fun _ k => XT.iconstV X.here hx rfl (1 : Int32) (hb hby d2_44) rfl k)
        refine Ends.step (u' := (T.setTop (mkF m 46 #[.val (.ref a_o0), d1, .val (.int x2), .val (.ref a_o3), .val (.int x4), .val (.int x5), .val (.int x6), .val (.int x7), .val (.int x8), d9] [(.int (x7 + (1 : Int32))), (.ref a_o3)]))) ?_ (fun _ k => XS.iadd X.here hx rfl (hb hby d2_45) rfl k)
        refine Ends.baload X hx hZ eT A_o3 o1 (g := (mkF m 46 #[.val (.ref a_o0), d1, .val (.int x2), .val (.ref a_o3), .val (.int x4), .val (.int x5), .val (.int x6), .val (.int x7), .val (.int x8), d9] [(.int (x7 + (1 : Int32))), (.ref a_o3)])) rfl rfl (hb hby d2_46) ?_
        show Ends p e below s _ _ _ (T.setTop (mkF m 47 #[.val (.ref a_o0), d1, .val (.int x2), .val (.ref a_o3), .val (.int x4), .val (.int x5), .val (.int x6), .val (.int x7), .val (.int x8), d9] [(.int (f_o3 ((x7 + (1 : Int32))).toNatClampNeg))]))
        refine Ends.step (u' := (T.setTop (mkF m 49 #[.val (.ref a_o0), d1, .val (.int x2), .val (.ref a_o3), .val (.int x4), .val (.int x5), .val (.int x6), .val (.int x7), .val (.int x8), d9] [(.int (48 : Int32)), (.int (f_o3 ((x7 + (1 : Int32))).toNatClampNeg))]))) ?_ (fun _ k => XT.bipushV X.here hx rfl (48 : Int32) (hb hby d2_47) rfl k)
        refine Ends.step (u' := (T.setTop (mkF m 50 #[.val (.ref a_o0), d1, .val (.int x2), .val (.ref a_o3), .val (.int x4), .val (.int x5), .val (.int x6), .val (.int x7), .val (.int x8), d9] [(.int ((f_o3 ((x7 + (1 : Int32))).toNatClampNeg) - (48 : Int32)))]))) ?_ (fun _ k => XS.isub X.here hx rfl (hb hby d2_49) rfl k)
        refine Ends.step (u' := (T.setTop (mkF m 54 #[.val (.ref a_o0), d1, .val (.int x2), .val (.ref a_o3), .val (.int x4), .val (.int x5), .val (.int x6), .val (.int x7), .val (.int x8), d9] [(.int ((f_o3 ((x7 + (1 : Int32))).toNatClampNeg) - (48 : Int32)))]))) ?_ (fun _ k => XS.goto X.here hx rfl (pc0 := 50) (pc' := 54) rfl (hb hby d2_50) (by decide) (by decide) k)
        exact b54 T _ _ X eT N Zs Kp cf_o0 x2 x4 x5 x6 x7 x8 ((f_o3 ((x7 + (1 : Int32))).toNatClampNeg) - (48 : Int32)) (d1) od1 (d9) od9 A_o0 A_o3 ok
      have b53 : ∀ (T : State) (L : List Loc) (h : Heap) (X : Stand p l e ({ frames := 0, cells := 0, slots := 0, locals := 0 } : Room) s m #[(.ref a_o0), (.int p1), (.int p2), (.ref a_o3), (.int p4), (.int p5)] below meth c T L 0 0) (eT : T.heap = h) (N : Fr n0 L) (Zs : n0 ≤ h.size) (Kp : Keep h0 h [a_o0]) (cf_o0 : Nat → Int32) (x2 : Int32) (x4 : Int32) (x5 : Int32) (x6 : Int32) (x7 : Int32) (x8 : Int32) (d1 : Slot) (od1 : OneS d1) (d9 : Slot) (od9 : OneS d9) (A_o0 : Ar Z h a_o0 .byte n_o0 cf_o0) (A_o3 : Ar Z h a_o3 .byte n_o3 f_o3) (ok : (O2_53 K (O2_16 K j) n_o0 cf_o0 n_o3 f_o3 x2 x4 x5 x6 x7 x8)), Ends p e below s 0 0 (Q2 Z a_o0 a_o3 n_o0 f_o0 n_o3 f_o3 h0 n0 (F2_53 K (F2_16 K j) n_o0 cf_o0 n_o3 f_o3 x2 x4 x5 x6 x7 x8)) (T.setTop (mkF m 53 #[.val (.ref a_o0), d1, .val (.int x2), .val (.ref a_o3), .val (.int x4), .val (.int x5), .val (.int x6), .val (.int x7), .val (.int x8), d9] [])) := by
        intro T L h X eT N Zs Kp cf_o0 x2 x4 x5 x6 x7 x8 d1 od1 d9 od9 A_o0 A_o3 ok
        refine Ends.step (u' := (T.setTop (mkF m 54 #[.val (.ref a_o0), d1, .val (.int x2), .val (.ref a_o3), .val (.int x4), .val (.int x5), .val (.int x6), .val (.int x7), .val (.int x8), d9] [(.int (0 : Int32))]))) ?_ (fun _ k => XT.iconstV X.here hx rfl (0 : Int32) (hb hby d2_53) rfl k)
        exact b54 T _ _ X eT N Zs Kp cf_o0 x2 x4 x5 x6 x7 x8 (0 : Int32) (d1) od1 (d9) od9 A_o0 A_o3 ok
      have b32 : ∀ (T : State) (L : List Loc) (h : Heap) (X : Stand p l e ({ frames := 0, cells := 0, slots := 0, locals := 0 } : Room) s m #[(.ref a_o0), (.int p1), (.int p2), (.ref a_o3), (.int p4), (.int p5)] below meth c T L 0 0) (eT : T.heap = h) (N : Fr n0 L) (Zs : n0 ≤ h.size) (Kp : Keep h0 h [a_o0]) (cf_o0 : Nat → Int32) (x2 : Int32) (x4 : Int32) (x5 : Int32) (x6 : Int32) (x7 : Int32) (x8 : Int32) (d1 : Slot) (od1 : OneS d1) (d9 : Slot) (od9 : OneS d9) (A_o0 : Ar Z h a_o0 .byte n_o0 cf_o0) (A_o3 : Ar Z h a_o3 .byte n_o3 f_o3) (ok : (O2_32 K (O2_16 K j) n_o0 cf_o0 n_o3 f_o3 x2 x4 x5 x6 x7 x8)), Ends p e below s 0 0 (Q2 Z a_o0 a_o3 n_o0 f_o0 n_o3 f_o3 h0 n0 (F2_32 K (F2_16 K j) n_o0 cf_o0 n_o3 f_o3 x2 x4 x5 x6 x7 x8)) (T.setTop (mkF m 32 #[.val (.ref a_o0), d1, .val (.int x2), .val (.ref a_o3), .val (.int x4), .val (.int x5), .val (.int x6), .val (.int x7), .val (.int x8), d9] [])) := by
        intro T L h X eT N Zs Kp cf_o0 x2 x4 x5 x6 x7 x8 d1 od1 d9 od9 A_o0 A_o3 ok
        obtain ⟨okt, okf⟩ := ok
        refine Ends.step (u' := (T.setTop (mkF m 34 #[.val (.ref a_o0), d1, .val (.int x2), .val (.ref a_o3), .val (.int x4), .val (.int x5), .val (.int x6), .val (.int x7), .val (.int x8), d9] [(.int x7)]))) ?_ (fun _ k => XS.iload X.here hx rfl (hb hby d2_32) rfl k)
        refine Ends.step (u' := (T.setTop (mkF m 35 #[.val (.ref a_o0), d1, .val (.int x2), .val (.ref a_o3), .val (.int x4), .val (.int x5), .val (.int x6), .val (.int x7), .val (.int x8), d9] [(.int (1 : Int32)), (.int x7)]))) ?_ (fun _ k => XT.iconstV X.here hx rfl (1 : Int32) (hb hby d2_34) rfl k)
        refine Ends.step (u' := (T.setTop (mkF m 36 #[.val (.ref a_o0), d1, .val (.int x2), .val (.ref a_o3), .val (.int x4), .val (.int x5), .val (.int x6), .val (.int x7), .val (.int x8), d9] [(.int (x7 + (1 : Int32)))]))) ?_ (fun _ k => XS.iadd X.here hx rfl (hb hby d2_35) rfl k)
        refine Ends.step (u' := (T.setTop (mkF m 38 #[.val (.ref a_o0), d1, .val (.int x2), .val (.ref a_o3), .val (.int x4), .val (.int x5), .val (.int x6), .val (.int x7), .val (.int x8), d9] [(.int x4), (.int (x7 + (1 : Int32)))]))) ?_ (fun _ k => XS.iload X.here hx rfl (hb hby d2_36) rfl k)
        by_cases hc38 : (x7 + (1 : Int32)) < x4
        · refine Eq.mp (congrArg (fun z => Ends p e below s 0 0 (Q2 Z a_o0 a_o3 n_o0 f_o0 n_o3 f_o3 h0 n0 z) (T.setTop (mkF m 38 #[.val (.ref a_o0), d1, .val (.int x2), .val (.ref a_o3), .val (.int x4), .val (.int x5), .val (.int x6), .val (.int x7), .val (.int x8), d9] [(.int x4), (.int (x7 + (1 : Int32)))]))) (show (F2_32 K (F2_16 K j) n_o0 cf_o0 n_o3 f_o3 x2 x4 x5 x6 x7 x8) = (F2_41 K (F2_16 K j) n_o0 cf_o0 n_o3 f_o3 x2 x4 x5 x6 x7 x8) from (if_pos hc38)).symm) ?_
          refine Ends.step (u' := (T.setTop (mkF m 41 #[.val (.ref a_o0), d1, .val (.int x2), .val (.ref a_o3), .val (.int x4), .val (.int x5), .val (.int x6), .val (.int x7), .val (.int x8), d9] []))) ?_ (fun _ k => XS.icmpNo X.here hx rfl (hb hby d2_38) rfl (XT.ii_ge_f hc38) k)
          exact b41 T _ _ X eT N Zs Kp cf_o0 x2 x4 x5 x6 x7 x8 (d1) od1 (d9) od9 A_o0 A_o3 (okt hc38)
        · refine Eq.mp (congrArg (fun z => Ends p e below s 0 0 (Q2 Z a_o0 a_o3 n_o0 f_o0 n_o3 f_o3 h0 n0 z) (T.setTop (mkF m 38 #[.val (.ref a_o0), d1, .val (.int x2), .val (.ref a_o3), .val (.int x4), .val (.int x5), .val (.int x6), .val (.int x7), .val (.int x8), d9] [(.int x4), (.int (x7 + (1 : Int32)))]))) (show (F2_32 K (F2_16 K j) n_o0 cf_o0 n_o3 f_o3 x2 x4 x5 x6 x7 x8) = (F2_53 K (F2_16 K j) n_o0 cf_o0 n_o3 f_o3 x2 x4 x5 x6 x7 x8) from (if_neg hc38)).symm) ?_
          refine Ends.step (u' := (T.setTop (mkF m 53 #[.val (.ref a_o0), d1, .val (.int x2), .val (.ref a_o3), .val (.int x4), .val (.int x5), .val (.int x6), .val (.int x7), .val (.int x8), d9] []))) ?_ (fun _ k => XS.icmpYes X.here hx rfl (pc0 := 38) (pc' := 53) rfl (hb hby d2_38) rfl (XT.ii_ge_t hc38) (by decide) (by decide) k)
          exact b53 T _ _ X eT N Zs Kp cf_o0 x2 x4 x5 x6 x7 x8 (d1) od1 (d9) od9 A_o0 A_o3 (okf hc38)
      have b23 : ∀ (T : State) (L : List Loc) (h : Heap) (X : Stand p l e ({ frames := 0, cells := 0, slots := 0, locals := 0 } : Room) s m #[(.ref a_o0), (.int p1), (.int p2), (.ref a_o3), (.int p4), (.int p5)] below meth c T L 0 0) (eT : T.heap = h) (N : Fr n0 L) (Zs : n0 ≤ h.size) (Kp : Keep h0 h [a_o0]) (cf_o0 : Nat → Int32) (x2 : Int32) (x4 : Int32) (x5 : Int32) (x6 : Int32) (x7 : Int32) (d1 : Slot) (od1 : OneS d1) (d8 : Slot) (od8 : OneS d8) (d9 : Slot) (od9 : OneS d9) (A_o0 : Ar Z h a_o0 .byte n_o0 cf_o0) (A_o3 : Ar Z h a_o3 .byte n_o3 f_o3) (ok : (O2_23 K (O2_16 K j) n_o0 cf_o0 n_o3 f_o3 x2 x4 x5 x6 x7)), Ends p e below s 0 0 (Q2 Z a_o0 a_o3 n_o0 f_o0 n_o3 f_o3 h0 n0 (F2_23 K (F2_16 K j) n_o0 cf_o0 n_o3 f_o3 x2 x4 x5 x6 x7)) (T.setTop (mkF m 23 #[.val (.ref a_o0), d1, .val (.int x2), .val (.ref a_o3), .val (.int x4), .val (.int x5), .val (.int x6), .val (.int x7), d8, d9] [])) := by
        intro T L h X eT N Zs Kp cf_o0 x2 x4 x5 x6 x7 d1 od1 d8 od8 d9 od9 A_o0 A_o3 ok
        obtain ⟨o1, ok⟩ := ok
        refine Ends.step (u' := (T.setTop (mkF m 24 #[.val (.ref a_o0), d1, .val (.int x2), .val (.ref a_o3), .val (.int x4), .val (.int x5), .val (.int x6), .val (.int x7), d8, d9] [(.ref a_o3)]))) ?_ (fun _ k => XS.aloadN X.here hx rfl (hb hby d2_23) rfl rfl k)
        refine Ends.step (u' := (T.setTop (mkF m 26 #[.val (.ref a_o0), d1, .val (.int x2), .val (.ref a_o3), .val (.int x4), .val (.int x5), .val (.int x6), .val (.int x7), d8, d9] [(.int x7), (.ref a_o3)]))) ?_ (fun _ k => XS.iload X.here hx rfl (hb hby d2_24) rfl k)
        refine Ends.baload X hx hZ eT A_o3 o1 (g := (mkF m 26 #[.val (.ref a_o0), d1, .val (.int x2), .val (.ref a_o3), .val (.int x4), .val (.int x5), .val (.int x6), .val (.int x7), d8, d9] [(.int x7), (.ref a_o3)])) rfl rfl (hb hby d2_26) ?_
        show Ends p e below s _ _ _ (T.setTop (mkF m 27 #[.val (.ref a_o0), d1, .val (.int x2), .val (.ref a_o3), .val (.int x4), .val (.int x5), .val (.int x6), .val (.int x7), d8, d9] [(.int (f_o3 (x7).toNatClampNeg))]))
        refine Ends.step (u' := (T.setTop (mkF m 29 #[.val (.ref a_o0), d1, .val (.int x2), .val (.ref a_o3), .val (.int x4), .val (.int x5), .val (.int x6), .val (.int x7), d8, d9] [(.int (48 : Int32)), (.int (f_o3 (x7).toNatClampNeg))]))) ?_ (fun _ k => XT.bipushV X.here hx rfl (48 : Int32) (hb hby d2_27) rfl k)
        refine Ends.step (u' := (T.setTop (mkF m 30 #[.val (.ref a_o0), d1, .val (.int x2), .val (.ref a_o3), .val (.int x4), .val (.int x5), .val (.int x6), .val (.int x7), d8, d9] [(.int ((f_o3 (x7).toNatClampNeg) - (48 : Int32)))]))) ?_ (fun _ k => XS.isub X.here hx rfl (hb hby d2_29) rfl k)
        refine Ends.step (u' := (T.setTop (mkF m 32 #[.val (.ref a_o0), d1, .val (.int x2), .val (.ref a_o3), .val (.int x4), .val (.int x5), .val (.int x6), .val (.int x7), .val (.int ((f_o3 (x7).toNatClampNeg) - (48 : Int32))), d9] []))) ?_ (fun _ k => XS.istoreS X.here hx rfl (hb hby d2_30) rfl rfl od8 k)
        exact b32 T _ _ X eT N Zs Kp cf_o0 x2 x4 x5 x6 x7 ((f_o3 (x7).toNatClampNeg) - (48 : Int32)) (d1) od1 (d9) od9 A_o0 A_o3 ok
      intro T L h X eT N Zs Kp cf_o0 x2 x4 x5 x6 x7 d1 od1 d8 od8 d9 od9 A_o0 A_o3 ok
      obtain ⟨okt, okf⟩ := ok
      refine Ends.step (u' := (T.setTop (mkF m 18 #[.val (.ref a_o0), d1, .val (.int x2), .val (.ref a_o3), .val (.int x4), .val (.int x5), .val (.int x6), .val (.int x7), d8, d9] [(.int x7)]))) ?_ (fun _ k => XS.iload X.here hx rfl (hb hby d2_16) rfl k)
      refine Ends.step (u' := (T.setTop (mkF m 20 #[.val (.ref a_o0), d1, .val (.int x2), .val (.ref a_o3), .val (.int x4), .val (.int x5), .val (.int x6), .val (.int x7), d8, d9] [(.int x4), (.int x7)]))) ?_ (fun _ k => XS.iload X.here hx rfl (hb hby d2_18) rfl k)
      by_cases hc20 : x7 < x4
      · refine Eq.mp (congrArg (fun z => Ends p e below s 0 0 (Q2 Z a_o0 a_o3 n_o0 f_o0 n_o3 f_o3 h0 n0 z) (T.setTop (mkF m 20 #[.val (.ref a_o0), d1, .val (.int x2), .val (.ref a_o3), .val (.int x4), .val (.int x5), .val (.int x6), .val (.int x7), d8, d9] [(.int x4), (.int x7)]))) (show (F2_16 K (j + 1) n_o0 cf_o0 n_o3 f_o3 x2 x4 x5 x6 x7) = (F2_23 K (F2_16 K j) n_o0 cf_o0 n_o3 f_o3 x2 x4 x5 x6 x7) from (if_pos hc20)).symm) ?_
        refine Ends.step (u' := (T.setTop (mkF m 23 #[.val (.ref a_o0), d1, .val (.int x2), .val (.ref a_o3), .val (.int x4), .val (.int x5), .val (.int x6), .val (.int x7), d8, d9] []))) ?_ (fun _ k => XS.icmpNo X.here hx rfl (hb hby d2_20) rfl (XT.ii_ge_f hc20) k)
        exact b23 T _ _ X eT N Zs Kp cf_o0 x2 x4 x5 x6 x7 (d1) od1 (d8) od8 (d9) od9 A_o0 A_o3 (okt hc20)
      · refine Eq.mp (congrArg (fun z => Ends p e below s 0 0 (Q2 Z a_o0 a_o3 n_o0 f_o0 n_o3 f_o3 h0 n0 z) (T.setTop (mkF m 20 #[.val (.ref a_o0), d1, .val (.int x2), .val (.ref a_o3), .val (.int x4), .val (.int x5), .val (.int x6), .val (.int x7), d8, d9] [(.int x4), (.int x7)]))) (show (F2_16 K (j + 1) n_o0 cf_o0 n_o3 f_o3 x2 x4 x5 x6 x7) = (F2_77 K n_o0 cf_o0 n_o3 f_o3 x2 x5 x6) from (if_neg hc20)).symm) ?_
        refine Ends.step (u' := (T.setTop (mkF m 77 #[.val (.ref a_o0), d1, .val (.int x2), .val (.ref a_o3), .val (.int x4), .val (.int x5), .val (.int x6), .val (.int x7), d8, d9] []))) ?_ (fun _ k => XS.icmpYes X.here hx rfl (pc0 := 20) (pc' := 77) rfl (hb hby d2_20) rfl (XT.ii_ge_t hc20) (by decide) (by decide) k)
        exact b77 T _ _ X eT N Zs Kp cf_o0 x2 x5 x6 (d1) od1 (.val (.ref a_o3)) (Or.inr ⟨_, rfl, rfl⟩) (.val (.int x4)) (Or.inr ⟨_, rfl, rfl⟩) (.val (.int x7)) (Or.inr ⟨_, rfl, rfl⟩) (d8) od8 (d9) od9 A_o0 A_o3 (okf hc20)
  refine Ends.step (u' := (s₁.setTop (mkF m 0 #[.val (.ref a_o0), .val (.int p1), .val (.int p2), .val (.ref a_o3), .val (.int p4), .val (.int p5), .unset, .unset, .unset, .unset] []))) ?_ (fun _ k => castTop (ef_2 m a_o0 p1 p2 a_o3 p4 p5) k)
  obtain ⟨o1, ok⟩ := ok
  refine Ends.step (u' := (s₁.setTop (mkF m 1 #[.val (.ref a_o0), .val (.int p1), .val (.int p2), .val (.ref a_o3), .val (.int p4), .val (.int p5), .unset, .unset, .unset, .unset] [(.int p1)]))) ?_ (fun _ k => XS.iloadN X0.here hx rfl (hb hby d2_0) rfl k)
  refine Ends.step (u' := (s₁.setTop (mkF m 3 #[.val (.ref a_o0), .val (.int p1), .val (.int p2), .val (.ref a_o3), .val (.int p4), .val (.int p5), .val (.int p1), .unset, .unset, .unset] []))) ?_ (fun _ k => XS.istore X0.here hx rfl (hb hby d2_1) rfl (l' := #[.val (.ref a_o0), .val (.int p1), .val (.int p2), .val (.ref a_o3), .val (.int p4), .val (.int p5), .val (.int p1), .unset, .unset, .unset]) rfl k)
  refine Ends.step (u' := (s₁.setTop (mkF m 4 #[.val (.ref a_o0), .val (.int p1), .val (.int p2), .val (.ref a_o3), .val (.int p4), .val (.int p5), .val (.int p1), .unset, .unset, .unset] [(.ref a_o0)]))) ?_ (fun _ k => XS.aloadN X0.here hx rfl (hb hby d2_3) rfl rfl k)
  refine Ends.step (u' := (s₁.setTop (mkF m 6 #[.val (.ref a_o0), .val (.int p1), .val (.int p2), .val (.ref a_o3), .val (.int p4), .val (.int p5), .val (.int p1), .unset, .unset, .unset] [(.int p1), (.ref a_o0)]))) ?_ (fun _ k => XS.iload X0.here hx rfl (hb hby d2_4) rfl k)
  refine Ends.step (u' := (s₁.setTop (mkF m 9 #[.val (.ref a_o0), .val (.int p1), .val (.int p2), .val (.ref a_o3), .val (.int p4), .val (.int p5), .val (.int (p1 + (1 : Int32))), .unset, .unset, .unset] [(.int p1), (.ref a_o0)]))) ?_ (fun _ k => XT.iincV X0.here hx rfl (1 : Int32) (hb hby d2_6) rfl rfl (l' := #[.val (.ref a_o0), .val (.int p1), .val (.int p2), .val (.ref a_o3), .val (.int p4), .val (.int p5), .val (.int (p1 + (1 : Int32))), .unset, .unset, .unset]) rfl k)
  refine Ends.step (u' := (s₁.setTop (mkF m 11 #[.val (.ref a_o0), .val (.int p1), .val (.int p2), .val (.ref a_o3), .val (.int p4), .val (.int p5), .val (.int (p1 + (1 : Int32))), .unset, .unset, .unset] [(.int p4), (.int p1), (.ref a_o0)]))) ?_ (fun _ k => XS.iload X0.here hx rfl (hb hby d2_9) rfl k)
  refine Ends.step (u' := (s₁.setTop (mkF m 12 #[.val (.ref a_o0), .val (.int p1), .val (.int p2), .val (.ref a_o3), .val (.int p4), .val (.int p5), .val (.int (p1 + (1 : Int32))), .unset, .unset, .unset] [(.int ((p4).toInt8.toInt32)), (.int p1), (.ref a_o0)]))) ?_ (fun _ k => XT.i2b X0.here hx rfl (hb hby d2_11) rfl k)
  refine Ends.bastore X0 hx hZ e0 A_o0 o1 N0 g_o0 (g := (mkF m 12 #[.val (.ref a_o0), .val (.int p1), .val (.int p2), .val (.ref a_o3), .val (.int p4), .val (.int p5), .val (.int (p1 + (1 : Int32))), .unset, .unset, .unset] [(.int ((p4).toInt8.toInt32)), (.int p1), (.ref a_o0)])) rfl rfl (hb hby d2_12) (fun T9 h9 sl9 X9 e9 N9 W9 A9 => ?_)
  show Ends p e below s _ _ _ (T9.setTop (mkF m 13 #[.val (.ref a_o0), .val (.int p1), .val (.int p2), .val (.ref a_o3), .val (.int p4), .val (.int p5), .val (.int (p1 + (1 : Int32))), .unset, .unset, .unset] []))
  have A10 := A_o3.other W9 ne_o0_o3.symm
  have Z11 : n0 ≤ h9.size := W9.size.symm ▸ Z0
  have K12 := K0.wr W9 (Or.inl (List.mem_of_getElem? (i := 0) rfl))
  refine Ends.step (u' := (T9.setTop (mkF m 14 #[.val (.ref a_o0), .val (.int p1), .val (.int p2), .val (.ref a_o3), .val (.int p4), .val (.int p5), .val (.int (p1 + (1 : Int32))), .unset, .unset, .unset] [(.int (0 : Int32))]))) ?_ (fun _ k => XT.iconstV X9.here hx rfl (0 : Int32) (hb hby d2_13) rfl k)
  refine Ends.step (u' := (T9.setTop (mkF m 16 #[.val (.ref a_o0), .val (.int p1), .val (.int p2), .val (.ref a_o3), .val (.int p4), .val (.int p5), .val (.int (p1 + (1 : Int32))), .val (.int (0 : Int32)), .unset, .unset] []))) ?_ (fun _ k => XS.istore X9.here hx rfl (hb hby d2_14) rfl (l' := #[.val (.ref a_o0), .val (.int p1), .val (.int p2), .val (.ref a_o3), .val (.int p4), .val (.int p5), .val (.int (p1 + (1 : Int32))), .val (.int (0 : Int32)), .unset, .unset]) rfl k)
  exact b16 K T9 _ _ X9 e9 N9 Z11 K12 (upd f_o0 (p1).toNatClampNeg (nar .byte ((p4).toInt8.toInt32))) p2 p4 p5 (p1 + (1 : Int32)) (0 : Int32) (.val (.int p1)) (Or.inr ⟨_, rfl, rfl⟩) (.unset) (Or.inl rfl) (.unset) (Or.inl rfl) A9 A10 ok
theorem pn_0 : plainFor x = true := by first | exact plainFor_of_name (by first | (simp [plainName, overriddenIn]; done) | decide +kernel) | decide +kernel
theorem ef_0 (m : MethodId) (y0 : Int32) (y1 : Int32) (y2 : Int32) (y3 : Int32) : entryFrame m #[(.int y0), (.int y1), (.int y2), (.int y3)] maxLocals = mkF m 0 #[.val (.int y0), .val (.int y1), .val (.int y2), .val (.int y3), .unset, .unset, .unset, .unset, .unset, .unset, .unset, .unset] [] := by first | (simp [entryFrame, mkF, argsToLocals, Value.category, maxLocals]; done) | rfl
def Q0 (Z : State)   (h0 : Heap) (n0 : Nat) (ans : Int32) (v : Option Value) (h : Heap) (L : List Loc) : Prop := v = some (.int ans) ∧ Fr n0 L
set_option maxRecDepth 65536 in
set_option maxHeartbeats 40000000 in
theorem rm0 (l : Launch) (Z : State) (a0 : Array Value) (hw : ∀ d ∈ tables_1, d.before a0 Z = true) (K : Nat) (p0 : Int32) (p1 : Int32) (p2 : Int32) (p3 : Int32)  (h0 : Heap) (n0 : Nat) (Z0 : n0 ≤ h0.size)  (ok : O0 K p0 p1 p2 p3) :
    Meets l Z x code maxLocals ret tables_1 room_1 #[(.int p0), (.int p1), (.int p2), (.int p3)] h0 (Q0 Z  h0 n0 (F0 K p0 p1 p2 p3)) 2 84 := by
  refine Meets.of pn_0 ?_
  intro p e s m below meth c s₁ hx hby hml hZ hown hnm hret hlk X0 e0
  have hml : c.maxLocals = 12 := hml
  have hown : s.vm.findClass "com/example/numbersieve/numbersieve/EntryCodecEntryBytesPinLaw" = some m.cls := hown
  have N0 := Fr.nil n0
  have b111 : ∀ (T : State) (L : List Loc) (h : Heap) (X : Stand p l e room_1 s m #[(.int p0), (.int p1), (.int p2), (.int p3)] below meth c T L 2 84) (eT : T.heap = h) (N : Fr n0 L) (Zs : n0 ≤ h.size) (t0 : Int32) (d0 : Slot) (od0 : OneS d0) (d1 : Slot) (od1 : OneS d1) (d2 : Slot) (od2 : OneS d2) (d3 : Slot) (od3 : OneS d3) (d4 : Slot) (od4 : OneS d4) (d5 : Slot) (od5 : OneS d5) (d6 : Slot) (od6 : OneS d6) (d7 : Slot) (od7 : OneS d7) (d8 : Slot) (od8 : OneS d8) (d9 : Slot) (od9 : OneS d9) (d10 : Slot) (od10 : OneS d10) (d11 : Slot) (od11 : OneS d11), Ends p e below s 2 84 (Q0 Z  h0 n0 (F0_111 K t0)) (T.setTop (mkF m 111 #[d0, d1, d2, d3, d4, d5, d6, d7, d8, d9, d10, d11] [(.int t0)])) := by
    intro T L h X eT N Zs t0 d0 od0 d1 od1 d2 od2 d3 od3 d4 od4 d5 od5 d6 od6 d7 od7 d8 od8 d9 od9 d10 od10 d11 od11
    exact Ends.ret X (v := some (.int (nar .boolean t0))) (fun q => by rw [hret] at q; cases q) hlk (fun fs hr => retN X hx (t := .boolean) hret (by simp) (hb hby at_111) hr) (by decide) (by decide) ⟨rfl, N⟩
  have b106 : ∀ (T : State) (L : List Loc) (h : Heap) (X : Stand p l e room_1 s m #[(.int p0), (.int p1), (.int p2), (.int p3)] below meth c T L 2 84) (eT : T.heap = h) (N : Fr n0 L) (Zs : n0 ≤ h.size) (d0 : Slot) (od0 : OneS d0) (d1 : Slot) (od1 : OneS d1) (d2 : Slot) (od2 : OneS d2) (d3 : Slot) (od3 : OneS d3) (d4 : Slot) (od4 : OneS d4) (d5 : Slot) (od5 : OneS d5) (d6 : Slot) (od6 : OneS d6) (d7 : Slot) (od7 : OneS d7) (d8 : Slot) (od8 : OneS d8) (d9 : Slot) (od9 : OneS d9) (d10 : Slot) (od10 : OneS d10) (d11 : Slot) (od11 : OneS d11), Ends p e below s 2 84 (Q0 Z  h0 n0 (F0_106 K)) (T.setTop (mkF m 106 #[d0, d1, d2, d3, d4, d5, d6, d7, d8, d9, d10, d11] [])) := by
    intro T L h X eT N Zs d0 od0 d1 od1 d2 od2 d3 od3 d4 od4 d5 od5 d6 od6 d7 od7 d8 od8 d9 od9 d10 od10 d11 od11
    refine Ends.step (u' := (T.setTop (mkF m 107 #[d0, d1, d2, d3, d4, d5, d6, d7, d8, d9, d10, d11] [(.int (1 : Int32))]))) ?_ (fun _ k => XT.iconstV X.here hx rfl (1 : Int32) (hb hby at_106) rfl k)
    refine Ends.step (u' := (T.setTop (mkF m 111 #[d0, d1, d2, d3, d4, d5, d6, d7, d8, d9, d10, d11] [(.int (1 : Int32))]))) ?_ (fun _ k => XS.goto X.here hx rfl (pc0 := 107) (pc' := 111) rfl (hb hby at_107) (by decide) (by decide) k)
    exact b111 T _ _ X eT N Zs (1 : Int32) (d0) od0 (d1) od1 (d2) od2 (d3) od3 (d4) od4 (d5) od5 (d6) od6 (d7) od7 (d8) od8 (d9) od9 (d10) od10 (d11) od11
  have b110 : ∀ (T : State) (L : List Loc) (h : Heap) (X : Stand p l e room_1 s m #[(.int p0), (.int p1), (.int p2), (.int p3)] below meth c T L 2 84) (eT : T.heap = h) (N : Fr n0 L) (Zs : n0 ≤ h.size) (d0 : Slot) (od0 : OneS d0) (d1 : Slot) (od1 : OneS d1) (d2 : Slot) (od2 : OneS d2) (d3 : Slot) (od3 : OneS d3) (d4 : Slot) (od4 : OneS d4) (d5 : Slot) (od5 : OneS d5) (d6 : Slot) (od6 : OneS d6) (d7 : Slot) (od7 : OneS d7) (d8 : Slot) (od8 : OneS d8) (d9 : Slot) (od9 : OneS d9) (d10 : Slot) (od10 : OneS d10) (d11 : Slot) (od11 : OneS d11), Ends p e below s 2 84 (Q0 Z  h0 n0 (F0_110 K)) (T.setTop (mkF m 110 #[d0, d1, d2, d3, d4, d5, d6, d7, d8, d9, d10, d11] [])) := by
    intro T L h X eT N Zs d0 od0 d1 od1 d2 od2 d3 od3 d4 od4 d5 od5 d6 od6 d7 od7 d8 od8 d9 od9 d10 od10 d11 od11
    refine Ends.step (u' := (T.setTop (mkF m 111 #[d0, d1, d2, d3, d4, d5, d6, d7, d8, d9, d10, d11] [(.int (0 : Int32))]))) ?_ (fun _ k => XT.iconstV X.here hx rfl (0 : Int32) (hb hby at_110) rfl k)
    exact b111 T _ _ X eT N Zs (0 : Int32) (d0) od0 (d1) od1 (d2) od2 (d3) od3 (d4) od4 (d5) od5 (d6) od6 (d7) od7 (d8) od8 (d9) od9 (d10) od10 (d11) od11
  have b96 : ∀ (T : State) (L : List Loc) (h : Heap) (X : Stand p l e room_1 s m #[(.int p0), (.int p1), (.int p2), (.int p3)] below meth c T L 2 84) (eT : T.heap = h) (N : Fr n0 L) (Zs : n0 ≤ h.size) (x6 : Int32) (x9 : Int32) (x11 : Int32) (d0 : Slot) (od0 : OneS d0) (d1 : Slot) (od1 : OneS d1) (d2 : Slot) (od2 : OneS d2) (d3 : Slot) (od3 : OneS d3) (d4 : Slot) (od4 : OneS d4) (d5 : Slot) (od5 : OneS d5) (d7 : Slot) (od7 : OneS d7) (d8 : Slot) (od8 : OneS d8) (d10 : Slot) (od10 : OneS d10), Ends p e below s 2 84 (Q0 Z  h0 n0 (F0_96 K x6 x9 x11)) (T.setTop (mkF m 96 #[d0, d1, d2, d3, d4, d5, .val (.int x6), d7, d8, .val (.int x9), d10, .val (.int x11)] [])) := by
    intro T L h X eT N Zs x6 x9 x11 d0 od0 d1 od1 d2 od2 d3 od3 d4 od4 d5 od5 d7 od7 d8 od8 d10 od10
    refine Ends.step (u' := (T.setTop (mkF m 98 #[d0, d1, d2, d3, d4, d5, .val (.int x6), d7, d8, .val (.int x9), d10, .val (.int x11)] [(.int x11)]))) ?_ (fun _ k => XS.iload X.here hx rfl (hb hby at_96) rfl k)
    refine Ends.step (u' := (T.setTop (mkF m 100 #[d0, d1, d2, d3, d4, d5, .val (.int x6), d7, d8, .val (.int x9), d10, .val (.int x11)] [(.int x6), (.int x11)]))) ?_ (fun _ k => XS.iload X.here hx rfl (hb hby at_98) rfl k)
    refine Ends.step (u' := (T.setTop (mkF m 101 #[d0, d1, d2, d3, d4, d5, .val (.int x6), d7, d8, .val (.int x9), d10, .val (.int x11)] [(.int (x11 - x6))]))) ?_ (fun _ k => XS.isub X.here hx rfl (hb hby at_100) rfl k)
    refine Ends.step (u' := (T.setTop (mkF m 103 #[d0, d1, d2, d3, d4, d5, .val (.int x6), d7, d8, .val (.int x9), d10, .val (.int x11)] [(.int x9), (.int (x11 - x6))]))) ?_ (fun _ k => XS.iload X.here hx rfl (hb hby at_101) rfl k)
    by_cases hc103 : (x11 - x6) = x9
    · refine Eq.mp (congrArg (fun z => Ends p e below s 2 84 (Q0 Z  h0 n0 z) (T.setTop (mkF m 103 #[d0, d1, d2, d3, d4, d5, .val (.int x6), d7, d8, .val (.int x9), d10, .val (.int x11)] [(.int x9), (.int (x11 - x6))]))) (show (F0_96 K x6 x9 x11) = (F0_106 K) from (if_pos hc103)).symm) ?_
      refine Ends.step (u' := (T.setTop (mkF m 106 #[d0, d1, d2, d3, d4, d5, .val (.int x6), d7, d8, .val (.int x9), d10, .val (.int x11)] []))) ?_ (fun _ k => XS.icmpNo X.here hx rfl (hb hby at_103) rfl (XT.ii_ne_f hc103) k)
      exact b106 T _ _ X eT N Zs (d0) od0 (d1) od1 (d2) od2 (d3) od3 (d4) od4 (d5) od5 (.val (.int x6)) (Or.inr ⟨_, rfl, rfl⟩) (d7) od7 (d8) od8 (.val (.int x9)) (Or.inr ⟨_, rfl, rfl⟩) (d10) od10 (.val (.int x11)) (Or.inr ⟨_, rfl, rfl⟩)
    · refine Eq.mp (congrArg (fun z => Ends p e below s 2 84 (Q0 Z  h0 n0 z) (T.setTop (mkF m 103 #[d0, d1, d2, d3, d4, d5, .val (.int x6), d7, d8, .val (.int x9), d10, .val (.int x11)] [(.int x9), (.int (x11 - x6))]))) (show (F0_96 K x6 x9 x11) = (F0_110 K) from (if_neg hc103)).symm) ?_
      refine Ends.step (u' := (T.setTop (mkF m 110 #[d0, d1, d2, d3, d4, d5, .val (.int x6), d7, d8, .val (.int x9), d10, .val (.int x11)] []))) ?_ (fun _ k => XS.icmpYes X.here hx rfl (pc0 := 103) (pc' := 110) rfl (hb hby at_103) rfl (XT.ii_ne_t hc103) (by decide) (by decide) k)
      exact b110 T _ _ X eT N Zs (d0) od0 (d1) od1 (d2) od2 (d3) od3 (d4) od4 (d5) od5 (.val (.int x6)) (Or.inr ⟨_, rfl, rfl⟩) (d7) od7 (d8) od8 (.val (.int x9)) (Or.inr ⟨_, rfl, rfl⟩) (d10) od10 (.val (.int x11)) (Or.inr ⟨_, rfl, rfl⟩)
  have b89 : ∀ (T : State) (L : List Loc) (h : Heap) (X : Stand p l e room_1 s m #[(.int p0), (.int p1), (.int p2), (.int p3)] below meth c T L 2 84) (eT : T.heap = h) (N : Fr n0 L) (Zs : n0 ≤ h.size) (x6 : Int32) (x9 : Int32) (x10 : Int32) (x11 : Int32) (d0 : Slot) (od0 : OneS d0) (d1 : Slot) (od1 : OneS d1) (d2 : Slot) (od2 : OneS d2) (d3 : Slot) (od3 : OneS d3) (d4 : Slot) (od4 : OneS d4) (d5 : Slot) (od5 : OneS d5) (d7 : Slot) (od7 : OneS d7) (d8 : Slot) (od8 : OneS d8), Ends p e below s 2 84 (Q0 Z  h0 n0 (F0_89 K x6 x9 x10 x11)) (T.setTop (mkF m 89 #[d0, d1, d2, d3, d4, d5, .val (.int x6), d7, d8, .val (.int x9), .val (.int x10), .val (.int x11)] [])) := by
    intro T L h X eT N Zs x6 x9 x10 x11 d0 od0 d1 od1 d2 od2 d3 od3 d4 od4 d5 od5 d7 od7 d8 od8
    refine Ends.step (u' := (T.setTop (mkF m 91 #[d0, d1, d2, d3, d4, d5, .val (.int x6), d7, d8, .val (.int x9), .val (.int x10), .val (.int x11)] [(.int x9)]))) ?_ (fun _ k => XS.iload X.here hx rfl (hb hby at_89) rfl k)
    refine Ends.step (u' := (T.setTop (mkF m 93 #[d0, d1, d2, d3, d4, d5, .val (.int x6), d7, d8, .val (.int x9), .val (.int x10), .val (.int x11)] [(.int x10), (.int x9)]))) ?_ (fun _ k => XS.iload X.here hx rfl (hb hby at_91) rfl k)
    by_cases hc93 : x9 = x10
    · refine Eq.mp (congrArg (fun z => Ends p e below s 2 84 (Q0 Z  h0 n0 z) (T.setTop (mkF m 93 #[d0, d1, d2, d3, d4, d5, .val (.int x6), d7, d8, .val (.int x9), .val (.int x10), .val (.int x11)] [(.int x10), (.int x9)]))) (show (F0_89 K x6 x9 x10 x11) = (F0_96 K x6 x9 x11) from (if_pos hc93)).symm) ?_
      refine Ends.step (u' := (T.setTop (mkF m 96 #[d0, d1, d2, d3, d4, d5, .val (.int x6), d7, d8, .val (.int x9), .val (.int x10), .val (.int x11)] []))) ?_ (fun _ k => XS.icmpNo X.here hx rfl (hb hby at_93) rfl (XT.ii_ne_f hc93) k)
      exact b96 T _ _ X eT N Zs x6 x9 x11 (d0) od0 (d1) od1 (d2) od2 (d3) od3 (d4) od4 (d5) od5 (d7) od7 (d8) od8 (.val (.int x10)) (Or.inr ⟨_, rfl, rfl⟩)
    · refine Eq.mp (congrArg (fun z => Ends p e below s 2 84 (Q0 Z  h0 n0 z) (T.setTop (mkF m 93 #[d0, d1, d2, d3, d4, d5, .val (.int x6), d7, d8, .val (.int x9), .val (.int x10), .val (.int x11)] [(.int x10), (.int x9)]))) (show (F0_89 K x6 x9 x10 x11) = (F0_110 K) from (if_neg hc93)).symm) ?_
      refine Ends.step (u' := (T.setTop (mkF m 110 #[d0, d1, d2, d3, d4, d5, .val (.int x6), d7, d8, .val (.int x9), .val (.int x10), .val (.int x11)] []))) ?_ (fun _ k => XS.icmpYes X.here hx rfl (pc0 := 93) (pc' := 110) rfl (hb hby at_93) rfl (XT.ii_ne_t hc93) (by decide) (by decide) k)
      exact b110 T _ _ X eT N Zs (d0) od0 (d1) od1 (d2) od2 (d3) od3 (d4) od4 (d5) od5 (.val (.int x6)) (Or.inr ⟨_, rfl, rfl⟩) (d7) od7 (d8) od8 (.val (.int x9)) (Or.inr ⟨_, rfl, rfl⟩) (.val (.int x10)) (Or.inr ⟨_, rfl, rfl⟩) (.val (.int x11)) (Or.inr ⟨_, rfl, rfl⟩)
  have b73 : ∀ (T : State) (L : List Loc) (h : Heap) (X : Stand p l e room_1 s m #[(.int p0), (.int p1), (.int p2), (.int p3)] below meth c T L 2 84) (eT : T.heap = h) (N : Fr n0 L) (Zs : n0 ≤ h.size) (cf_q30 : Nat → Int32) (cf_q36 : Nat → Int32) (x3 : Int32) (x4 : Int32) (x5 : Int32) (x6 : Int32) (x9 : Int32) (x10 : Int32) (d0 : Slot) (od0 : OneS d0) (d1 : Slot) (od1 : OneS d1) (d2 : Slot) (od2 : OneS d2) (a_q30 : Addr) (g_q30 : n0 ≤ a_q30) (a_q36 : Addr) (g_q36 : n0 ≤ a_q36) (ne_q30_q36 : a_q30 ≠ a_q36) (A_q30 : Ar Z h a_q30 .byte 64 cf_q30) (A_q36 : Ar Z h a_q36 .byte 20 cf_q36) (ok : (O0_73 K cf_q30 cf_q36 x3 x4 x5 x6 x9 x10)), Ends p e below s 2 84 (Q0 Z  h0 n0 (F0_73 K cf_q30 cf_q36 x3 x4 x5 x6 x9 x10)) (T.setTop (mkF m 73 #[d0, d1, d2, .val (.int x3), .val (.int x4), .val (.int x5), .val (.int x6), .val (.ref a_q30), .val (.ref a_q36), .val (.int x9), .val (.int x10), .unset] [])) := by
    intro T L h X eT N Zs cf_q30 cf_q36 x3 x4 x5 x6 x9 x10 d0 od0 d1 od1 d2 od2 a_q30 g_q30 a_q36 g_q36 ne_q30_q36 A_q30 A_q36 ok
    obtain ⟨o1, ok⟩ := ok
    refine Ends.step (u' := (T.setTop (mkF m 75 #[d0, d1, d2, .val (.int x3), .val (.int x4), .val (.int x5), .val (.int x6), .val (.ref a_q30), .val (.ref a_q36), .val (.int x9), .val (.int x10), .unset] [(.ref a_q30)]))) ?_ (fun _ k => XS.aload X.here hx rfl (hb hby at_73) rfl rfl k)
    refine Ends.step (u' := (T.setTop (mkF m 77 #[d0, d1, d2, .val (.int x3), .val (.int x4), .val (.int x5), .val (.int x6), .val (.ref a_q30), .val (.ref a_q36), .val (.int x9), .val (.int x10), .unset] [(.int x6), (.ref a_q30)]))) ?_ (fun _ k => XS.iload X.here hx rfl (hb hby at_75) rfl k)
    refine Ends.step (u' := (T.setTop (mkF m 79 #[d0, d1, d2, .val (.int x3), .val (.int x4), .val (.int x5), .val (.int x6), .val (.ref a_q30), .val (.ref a_q36), .val (.int x9), .val (.int x10), .unset] [(.int x4), (.int x6), (.ref a_q30)]))) ?_ (fun _ k => XS.iload X.here hx rfl (hb hby at_77) rfl k)
    refine Ends.step (u' := (T.setTop (mkF m 81 #[d0, d1, d2, .val (.int x3), .val (.int x4), .val (.int x5), .val (.int x6), .val (.ref a_q30), .val (.ref a_q36), .val (.int x9), .val (.int x10), .unset] [(.ref a_q36), (.int x4), (.int x6), (.ref a_q30)]))) ?_ (fun _ k => XS.aload X.here hx rfl (hb hby at_79) rfl rfl k)
    refine Ends.step (u' := (T.setTop (mkF m 83 #[d0, d1, d2, .val (.int x3), .val (.int x4), .val (.int x5), .val (.int x6), .val (.ref a_q30), .val (.ref a_q36), .val (.int x9), .val (.int x10), .unset] [(.int x5), (.ref a_q36), (.int x4), (.int x6), (.ref a_q30)]))) ?_ (fun _ k => XS.iload X.here hx rfl (hb hby at_81) rfl k)
    refine Ends.step (u' := (T.setTop (mkF m 84 #[d0, d1, d2, .val (.int x3), .val (.int x4), .val (.int x5), .val (.int x6), .val (.ref a_q30), .val (.ref a_q36), .val (.int x9), .val (.int x10), .unset] [(.int x3), (.int x5), (.ref a_q36), (.int x4), (.int x6), (.ref a_q30)]))) ?_ (fun _ k => XS.iloadN X.here hx rfl (hb hby at_83) rfl k)
    refine Ends.callS X hx hZ hown (hw _ (List.mem_of_getElem? (i := 6) rfl)) (hw _ (List.mem_of_getElem? (i := 7) rfl)) (hw _ (List.mem_of_getElem? (i := 4) rfl)) (hw _ (List.mem_of_getElem? (i := 8) rfl)) (by decide) (rm2 l Z a0 hw K x6 x4 x5 x3 64 cf_q30 20 cf_q36 a_q30 a_q36 h n0 Zs A_q30 A_q36 ne_q30_q36 g_q30 o1) 0 (by decide) (by decide) eT  (g := (mkF m 84 #[d0, d1, d2, .val (.int x3), .val (.int x4), .val (.int x5), .val (.int x6), .val (.ref a_q30), .val (.ref a_q36), .val (.int x9), .val (.int x10), .unset] [(.int x3), (.int x5), (.ref a_q36), (.int x4), (.int x6), (.ref a_q30)])) rfl (by rw [hml]; rfl)  [(.ref a_q30), (.int x6), (.int x4), (.ref a_q36), (.int x5), (.int x3)] [] (lenOf pd_1 rfl) rfl (by show 2 * 0 + _ ≤ _; exact Nat.le_of_eq rfl) (hb hby at_84) rfl (by decide) (by decide) (fun v1 T1 L1 X1 hQ1 => ?_)
    obtain ⟨rfl, Nq1, Kq1, A2⟩ := hQ1
    have N1 := Fr.app N Nq1
    show Ends p e below s _ _ _ (T1.setTop (mkF m 87 #[d0, d1, d2, .val (.int x3), .val (.int x4), .val (.int x5), .val (.int x6), .val (.ref a_q30), .val (.ref a_q36), .val (.int x9), .val (.int x10), .unset] [(.int (F2 K x6 x4 x5 x3 64 cf_q30 20 cf_q36).1)]))
    have A3 := A_q36.keep Kq1 (ninS ne_q30_q36.symm nin0)
    have Z4 := Nat.le_trans Zs Kq1.1
    refine Ends.step (u' := (T1.setTop (mkF m 89 #[d0, d1, d2, .val (.int x3), .val (.int x4), .val (.int x5), .val (.int x6), .val (.ref a_q30), .val (.ref a_q36), .val (.int x9), .val (.int x10), .val (.int (F2 K x6 x4 x5 x3 64 cf_q30 20 cf_q36).1)] []))) ?_ (fun _ k => XS.istore X1.here hx rfl (hb hby at_87) rfl (l' := #[d0, d1, d2, .val (.int x3), .val (.int x4), .val (.int x5), .val (.int x6), .val (.ref a_q30), .val (.ref a_q36), .val (.int x9), .val (.int x10), .val (.int (F2 K x6 x4 x5 x3 64 cf_q30 20 cf_q36).1)]) rfl k)
    exact b89 T1 _ _ X1 rfl N1 Z4 x6 x9 x10 (F2 K x6 x4 x5 x3 64 cf_q30 20 cf_q36).1 (d0) od0 (d1) od1 (d2) od2 (.val (.int x3)) (Or.inr ⟨_, rfl, rfl⟩) (.val (.int x4)) (Or.inr ⟨_, rfl, rfl⟩) (.val (.int x5)) (Or.inr ⟨_, rfl, rfl⟩) (.val (.ref a_q30)) (Or.inr ⟨_, rfl, rfl⟩) (.val (.ref a_q36)) (Or.inr ⟨_, rfl, rfl⟩)
  have b70 : ∀ (T : State) (L : List Loc) (h : Heap) (X : Stand p l e room_1 s m #[(.int p0), (.int p1), (.int p2), (.int p3)] below meth c T L 2 84) (eT : T.heap = h) (N : Fr n0 L) (Zs : n0 ≤ h.size) (cf_q30 : Nat → Int32) (cf_q36 : Nat → Int32) (x3 : Int32) (x4 : Int32) (x5 : Int32) (x6 : Int32) (x9 : Int32) (t1 : Int32) (t0 : Int32) (d0 : Slot) (od0 : OneS d0) (d1 : Slot) (od1 : OneS d1) (d2 : Slot) (od2 : OneS d2) (a_q30 : Addr) (g_q30 : n0 ≤ a_q30) (a_q36 : Addr) (g_q36 : n0 ≤ a_q36) (ne_q30_q36 : a_q30 ≠ a_q36) (A_q30 : Ar Z h a_q30 .byte 64 cf_q30) (A_q36 : Ar Z h a_q36 .byte 20 cf_q36) (ok : (O0_70 K cf_q30 cf_q36 x3 x4 x5 x6 x9 t1 t0)), Ends p e below s 2 84 (Q0 Z  h0 n0 (F0_70 K cf_q30 cf_q36 x3 x4 x5 x6 x9 t1 t0)) (T.setTop (mkF m 70 #[d0, d1, d2, .val (.int x3), .val (.int x4), .val (.int x5), .val (.int x6), .val (.ref a_q30), .val (.ref a_q36), .val (.int x9), .unset, .unset] [(.int t1), (.int t0)])) := by
    intro T L h X eT N Zs cf_q30 cf_q36 x3 x4 x5 x6 x9 t1 t0 d0 od0 d1 od1 d2 od2 a_q30 g_q30 a_q36 g_q36 ne_q30_q36 A_q30 A_q36 ok
    refine Ends.step (u' := (T.setTop (mkF m 71 #[d0, d1, d2, .val (.int x3), .val (.int x4), .val (.int x5), .val (.int x6), .val (.ref a_q30), .val (.ref a_q36), .val (.int x9), .unset, .unset] [(.int (t0 + t1))]))) ?_ (fun _ k => XS.iadd X.here hx rfl (hb hby at_70) rfl k)
    refine Ends.step (u' := (T.setTop (mkF m 73 #[d0, d1, d2, .val (.int x3), .val (.int x4), .val (.int x5), .val (.int x6), .val (.ref a_q30), .val (.ref a_q36), .val (.int x9), .val (.int (t0 + t1)), .unset] []))) ?_ (fun _ k => XS.istore X.here hx rfl (hb hby at_71) rfl (l' := #[d0, d1, d2, .val (.int x3), .val (.int x4), .val (.int x5), .val (.int x6), .val (.ref a_q30), .val (.ref a_q36), .val (.int x9), .val (.int (t0 + t1)), .unset]) rfl k)
    exact b73 T _ _ X eT N Zs cf_q30 cf_q36 x3 x4 x5 x6 x9 (t0 + t1) (d0) od0 (d1) od1 (d2) od2 a_q30 g_q30 a_q36 g_q36 ne_q30_q36 A_q30 A_q36 ok
  have b65 : ∀ (T : State) (L : List Loc) (h : Heap) (X : Stand p l e room_1 s m #[(.int p0), (.int p1), (.int p2), (.int p3)] below meth c T L 2 84) (eT : T.heap = h) (N : Fr n0 L) (Zs : n0 ≤ h.size) (cf_q30 : Nat → Int32) (cf_q36 : Nat → Int32) (x3 : Int32) (x4 : Int32) (x5 : Int32) (x6 : Int32) (x9 : Int32) (t0 : Int32) (d0 : Slot) (od0 : OneS d0) (d1 : Slot) (od1 : OneS d1) (d2 : Slot) (od2 : OneS d2) (a_q30 : Addr) (g_q30 : n0 ≤ a_q30) (a_q36 : Addr) (g_q36 : n0 ≤ a_q36) (ne_q30_q36 : a_q30 ≠ a_q36) (A_q30 : Ar Z h a_q30 .byte 64 cf_q30) (A_q36 : Ar Z h a_q36 .byte 20 cf_q36) (ok : (O0_65 K cf_q30 cf_q36 x3 x4 x5 x6 x9 t0)), Ends p e below s 2 84 (Q0 Z  h0 n0 (F0_65 K cf_q30 cf_q36 x3 x4 x5 x6 x9 t0)) (T.setTop (mkF m 65 #[d0, d1, d2, .val (.int x3), .val (.int x4), .val (.int x5), .val (.int x6), .val (.ref a_q30), .val (.ref a_q36), .val (.int x9), .unset, .unset] [(.int t0)])) := by
    intro T L h X eT N Zs cf_q30 cf_q36 x3 x4 x5 x6 x9 t0 d0 od0 d1 od1 d2 od2 a_q30 g_q30 a_q36 g_q36 ne_q30_q36 A_q30 A_q36 ok
    refine Ends.step (u' := (T.setTop (mkF m 66 #[d0, d1, d2, .val (.int x3), .val (.int x4), .val (.int x5), .val (.int x6), .val (.ref a_q30), .val (.ref a_q36), .val (.int x9), .unset, .unset] [(.int (4 : Int32)), (.int t0)]))) ?_ (fun _ k => XT.iconstV X.here hx rfl (4 : Int32) (hb hby at_65) rfl k)
    refine Ends.step (u' := (T.setTop (mkF m 70 #[d0, d1, d2, .val (.int x3), .val (.int x4), .val (.int x5), .val (.int x6), .val (.ref a_q30), .val (.ref a_q36), .val (.int x9), .unset, .unset] [(.int (4 : Int32)), (.int t0)]))) ?_ (fun _ k => XS.goto X.here hx rfl (pc0 := 66) (pc' := 70) rfl (hb hby at_66) (by decide) (by decide) k)
    exact b70 T _ _ X eT N Zs cf_q30 cf_q36 x3 x4 x5 x6 x9 (4 : Int32) t0 (d0) od0 (d1) od1 (d2) od2 a_q30 g_q30 a_q36 g_q36 ne_q30_q36 A_q30 A_q36 ok
  have b69 : ∀ (T : State) (L : List Loc) (h : Heap) (X : Stand p l e room_1 s m #[(.int p0), (.int p1), (.int p2), (.int p3)] below meth c T L 2 84) (eT : T.heap = h) (N : Fr n0 L) (Zs : n0 ≤ h.size) (cf_q30 : Nat → Int32) (cf_q36 : Nat → Int32) (x3 : Int32) (x4 : Int32) (x5 : Int32) (x6 : Int32) (x9 : Int32) (t0 : Int32) (d0 : Slot) (od0 : OneS d0) (d1 : Slot) (od1 : OneS d1) (d2 : Slot) (od2 : OneS d2) (a_q30 : Addr) (g_q30 : n0 ≤ a_q30) (a_q36 : Addr) (g_q36 : n0 ≤ a_q36) (ne_q30_q36 : a_q30 ≠ a_q36) (A_q30 : Ar Z h a_q30 .byte 64 cf_q30) (A_q36 : Ar Z h a_q36 .byte 20 cf_q36) (ok : (O0_69 K cf_q30 cf_q36 x3 x4 x5 x6 x9 t0)), Ends p e below s 2 84 (Q0 Z  h0 n0 (F0_69 K cf_q30 cf_q36 x3 x4 x5 x6 x9 t0)) (T.setTop (mkF m 69 #[d0, d1, d2, .val (.int x3), .val (.int x4), .val (.int x5), .val (.int x6), .val (.ref a_q30), .val (.ref a_q36), .val (.int x9), .unset, .unset] [(.int t0)])) := by
    intro T L h X eT N Zs cf_q30 cf_q36 x3 x4 x5 x6 x9 t0 d0 od0 d1 od1 d2 od2 a_q30 g_q30 a_q36 g_q36 ne_q30_q36 A_q30 A_q36 ok
    refine Ends.step (u' := (T.setTop (mkF m 70 #[d0, d1, d2, .val (.int x3), .val (.int x4), .val (.int x5), .val (.int x6), .val (.ref a_q30), .val (.ref a_q36), .val (.int x9), .unset, .unset] [(.int (0 : Int32)), (.int t0)]))) ?_ (fun _ k => XT.iconstV X.here hx rfl (0 : Int32) (hb hby at_69) rfl k)
    exact b70 T _ _ X eT N Zs cf_q30 cf_q36 x3 x4 x5 x6 x9 (0 : Int32) t0 (d0) od0 (d1) od1 (d2) od2 a_q30 g_q30 a_q36 g_q36 ne_q30_q36 A_q30 A_q36 ok
  have b49 : ∀ (T : State) (L : List Loc) (h : Heap) (X : Stand p l e room_1 s m #[(.int p0), (.int p1), (.int p2), (.int p3)] below meth c T L 2 84) (eT : T.heap = h) (N : Fr n0 L) (Zs : n0 ≤ h.size) (cf_q30 : Nat → Int32) (cf_q36 : Nat → Int32) (x3 : Int32) (x4 : Int32) (x5 : Int32) (x6 : Int32) (x9 : Int32) (d0 : Slot) (od0 : OneS d0) (d1 : Slot) (od1 : OneS d1) (d2 : Slot) (od2 : OneS d2) (a_q30 : Addr) (g_q30 : n0 ≤ a_q30) (a_q36 : Addr) (g_q36 : n0 ≤ a_q36) (ne_q30_q36 : a_q30 ≠ a_q36) (A_q30 : Ar Z h a_q30 .byte 64 cf_q30) (A_q36 : Ar Z h a_q36 .byte 20 cf_q36) (ok : (O0_49 K cf_q30 cf_q36 x3 x4 x5 x6 x9)), Ends p e below s 2 84 (Q0 Z  h0 n0 (F0_49 K cf_q30 cf_q36 x3 x4 x5 x6 x9)) (T.setTop (mkF m 49 #[d0, d1, d2, .val (.int x3), .val (.int x4), .val (.int x5), .val (.int x6), .val (.ref a_q30), .val (.ref a_q36), .val (.int x9), .unset, .unset] [])) := by
    intro T L h X eT N Zs cf_q30 cf_q36 x3 x4 x5 x6 x9 d0 od0 d1 od1 d2 od2 a_q30 g_q30 a_q36 g_q36 ne_q30_q36 A_q30 A_q36 ok
    obtain ⟨okt, okf⟩ := ok
    refine Ends.step (u' := (T.setTop (mkF m 50 #[d0, d1, d2, .val (.int x3), .val (.int x4), .val (.int x5), .val (.int x6), .val (.ref a_q30), .val (.ref a_q36), .val (.int x9), .unset, .unset] [(.int (1 : Int32))]))) ?_ (fun _ k => XT.iconstV X.here hx rfl (1 : Int32) (hb hby at_49) rfl k)
    refine Ends.step (u' := (T.setTop (mkF m 52 #[d0, d1, d2, .val (.int x3), .val (.int x4), .val (.int x5), .val (.int x6), .val (.ref a_q30), .val (.ref a_q36), .val (.int x9), .unset, .unset] [(.int x5), (.int (1 : Int32))]))) ?_ (fun _ k => XS.iload X.here hx rfl (hb hby at_50) rfl k)
    refine Ends.step (u' := (T.setTop (mkF m 53 #[d0, d1, d2, .val (.int x3), .val (.int x4), .val (.int x5), .val (.int x6), .val (.ref a_q30), .val (.ref a_q36), .val (.int x9), .unset, .unset] [(.int (2 : Int32)), (.int x5), (.int (1 : Int32))]))) ?_ (fun _ k => XT.iconstV X.here hx rfl (2 : Int32) (hb hby at_52) rfl k)
    refine Ends.step (u' := (T.setTop (mkF m 54 #[d0, d1, d2, .val (.int x3), .val (.int x4), .val (.int x5), .val (.int x6), .val (.ref a_q30), .val (.ref a_q36), .val (.int x9), .unset, .unset] [(.int (x5 / (2 : Int32))), (.int (1 : Int32))]))) ?_ (fun _ k => XS.idiv X.here hx rfl (hb hby at_53) rfl (by decide) k)
    refine Ends.step (u' := (T.setTop (mkF m 55 #[d0, d1, d2, .val (.int x3), .val (.int x4), .val (.int x5), .val (.int x6), .val (.ref a_q30), .val (.ref a_q36), .val (.int x9), .unset, .unset] [(.int ((1 : Int32) + (x5 / (2 : Int32))))]))) ?_ (fun _ k => XS.iadd X.here hx rfl (hb hby at_54) rfl k)
    refine Ends.step (u' := (T.setTop (mkF m 57 #[d0, d1, d2, .val (.int x3), .val (.int x4), .val (.int x5), .val (.int x6), .val (.ref a_q30), .val (.ref a_q36), .val (.int x9), .unset, .unset] [(.int x5), (.int ((1 : Int32) + (x5 / (2 : Int32))))]))) ?_ (fun _ k => XS.iload X.here hx rfl (hb hby at_55) rfl k)
    refine Ends.step (u' := (T.setTop (mkF m 58 #[d0, d1, d2, .val (.int x3), .val (.int x4), .val (.int x5), .val (.int x6), .val (.ref a_q30), .val (.ref a_q36), .val (.int x9), .unset, .unset] [(.int (1 : Int32)), (.int x5), (.int ((1 : Int32) + (x5 / (2 : Int32))))]))) ?_ (fun _ k => XT.iconstV X.here hx rfl (1 : Int32) (hb hby at_57) rfl k)
    refine Ends.step (u' := (T.setTop (mkF m 59 #[d0, d1, d2, .val (.int x3), .val (.int x4), .val (.int x5), .val (.int x6), .val (.ref a_q30), .val (.ref a_q36), .val (.int x9), .unset, .unset] [(.int (x5 &&& (1 : Int32))), (.int ((1 : Int32) + (x5 / (2 : Int32))))]))) ?_ (fun _ k => XS.iand X.here hx rfl (hb hby at_58) rfl k)
    refine Ends.step (u' := (T.setTop (mkF m 60 #[d0, d1, d2, .val (.int x3), .val (.int x4), .val (.int x5), .val (.int x6), .val (.ref a_q30), .val (.ref a_q36), .val (.int x9), .unset, .unset] [(.int (((1 : Int32) + (x5 / (2 : Int32))) + (x5 &&& (1 : Int32))))]))) ?_ (fun _ k => XS.iadd X.here hx rfl (hb hby at_59) rfl k)
    refine Ends.step (u' := (T.setTop (mkF m 62 #[d0, d1, d2, .val (.int x3), .val (.int x4), .val (.int x5), .val (.int x6), .val (.ref a_q30), .val (.ref a_q36), .val (.int x9), .unset, .unset] [(.int x4), (.int (((1 : Int32) + (x5 / (2 : Int32))) + (x5 &&& (1 : Int32))))]))) ?_ (fun _ k => XS.iload X.here hx rfl (hb hby at_60) rfl k)
    by_cases hc62 : x4 = 0
    · refine Eq.mp (congrArg (fun z => Ends p e below s 2 84 (Q0 Z  h0 n0 z) (T.setTop (mkF m 62 #[d0, d1, d2, .val (.int x3), .val (.int x4), .val (.int x5), .val (.int x6), .val (.ref a_q30), .val (.ref a_q36), .val (.int x9), .unset, .unset] [(.int x4), (.int (((1 : Int32) + (x5 / (2 : Int32))) + (x5 &&& (1 : Int32))))]))) (show (F0_49 K cf_q30 cf_q36 x3 x4 x5 x6 x9) = (F0_69 K cf_q30 cf_q36 x3 x4 x5 x6 x9 (((1 : Int32) + (x5 / (2 : Int32))) + (x5 &&& (1 : Int32)))) from (if_pos hc62)).symm) ?_
      refine Ends.step (u' := (T.setTop (mkF m 69 #[d0, d1, d2, .val (.int x3), .val (.int x4), .val (.int x5), .val (.int x6), .val (.ref a_q30), .val (.ref a_q36), .val (.int x9), .unset, .unset] [(.int (((1 : Int32) + (x5 / (2 : Int32))) + (x5 &&& (1 : Int32))))]))) ?_ (fun _ k => XS.ifYes X.here hx rfl (pc0 := 62) (pc' := 69) rfl (hb hby at_62) rfl (XT.i0_eq_t hc62) (by decide) (by decide) k)
      exact b69 T _ _ X eT N Zs cf_q30 cf_q36 x3 x4 x5 x6 x9 (((1 : Int32) + (x5 / (2 : Int32))) + (x5 &&& (1 : Int32))) (d0) od0 (d1) od1 (d2) od2 a_q30 g_q30 a_q36 g_q36 ne_q30_q36 A_q30 A_q36 (okt hc62)
    · refine Eq.mp (congrArg (fun z => Ends p e below s 2 84 (Q0 Z  h0 n0 z) (T.setTop (mkF m 62 #[d0, d1, d2, .val (.int x3), .val (.int x4), .val (.int x5), .val (.int x6), .val (.ref a_q30), .val (.ref a_q36), .val (.int x9), .unset, .unset] [(.int x4), (.int (((1 : Int32) + (x5 / (2 : Int32))) + (x5 &&& (1 : Int32))))]))) (show (F0_49 K cf_q30 cf_q36 x3 x4 x5 x6 x9) = (F0_65 K cf_q30 cf_q36 x3 x4 x5 x6 x9 (((1 : Int32) + (x5 / (2 : Int32))) + (x5 &&& (1 : Int32)))) from (if_neg hc62)).symm) ?_
      refine Ends.step (u' := (T.setTop (mkF m 65 #[d0, d1, d2, .val (.int x3), .val (.int x4), .val (.int x5), .val (.int x6), .val (.ref a_q30), .val (.ref a_q36), .val (.int x9), .unset, .unset] [(.int (((1 : Int32) + (x5 / (2 : Int32))) + (x5 &&& (1 : Int32))))]))) ?_ (fun _ k => XS.ifNo X.here hx rfl (hb hby at_62) rfl (XT.i0_eq_f hc62) k)
      exact b65 T _ _ X eT N Zs cf_q30 cf_q36 x3 x4 x5 x6 x9 (((1 : Int32) + (x5 / (2 : Int32))) + (x5 &&& (1 : Int32))) (d0) od0 (d1) od1 (d2) od2 a_q30 g_q30 a_q36 g_q36 ne_q30_q36 A_q30 A_q36 (okf hc62)
  have b28 : ∀ (T : State) (L : List Loc) (h : Heap) (X : Stand p l e room_1 s m #[(.int p0), (.int p1), (.int p2), (.int p3)] below meth c T L 0 0) (eT : T.heap = h) (N : Fr n0 L) (Zs : n0 ≤ h.size) (x3 : Int32) (x4 : Int32) (x5 : Int32) (x6 : Int32) (d0 : Slot) (od0 : OneS d0) (d1 : Slot) (od1 : OneS d1) (d2 : Slot) (od2 : OneS d2) (ok : (O0_28 K x3 x4 x5 x6)), Ends p e below s 2 84 (Q0 Z  h0 n0 (F0_28 K x3 x4 x5 x6)) (T.setTop (mkF m 28 #[d0, d1, d2, .val (.int x3), .val (.int x4), .val (.int x5), .val (.int x6), .unset, .unset, .unset, .unset, .unset] [])) := by
    intro T L h X eT N Zs x3 x4 x5 x6 d0 od0 d1 od1 d2 od2 ok
    refine Ends.step (u' := (T.setTop (mkF m 30 #[d0, d1, d2, .val (.int x3), .val (.int x4), .val (.int x5), .val (.int x6), .unset, .unset, .unset, .unset, .unset] [(.int (64 : Int32))]))) ?_ (fun _ k => XT.bipushV X.here hx rfl (64 : Int32) (hb hby at_28) rfl k)
    refine Ends.newA X hx hZ (hw _ (List.mem_of_getElem? (i := 1) rfl)) eT (g := (mkF m 30 #[d0, d1, d2, .val (.int x3), .val (.int x4), .val (.int x5), .val (.int x6), .unset, .unset, .unset, .unset, .unset] [(.int (64 : Int32))])) rfl (hb hby at_30) rfl rfl (by decide) 64 (by decide) (by decide) (by decide) (by decide) (fun T5 h5 a5 X5 e5 E5 q5 A5 => ?_)
    have g6 : n0 ≤ a5 := q5 ▸ Zs
    have Z7 := Nat.le_trans Zs E5.1
    show Ends p e below s _ _ _ (T5.setTop (mkF m 32 #[d0, d1, d2, .val (.int x3), .val (.int x4), .val (.int x5), .val (.int x6), .unset, .unset, .unset, .unset, .unset] [(.ref a5)]))
    refine Ends.step (u' := (T5.setTop (mkF m 34 #[d0, d1, d2, .val (.int x3), .val (.int x4), .val (.int x5), .val (.int x6), .val (.ref a5), .unset, .unset, .unset, .unset] []))) ?_ (fun _ k => XS.astore X5.here hx rfl (hb hby at_32) rfl rfl (l' := #[d0, d1, d2, .val (.int x3), .val (.int x4), .val (.int x5), .val (.int x6), .val (.ref a5), .unset, .unset, .unset, .unset]) rfl k)
    refine Ends.step (u' := (T5.setTop (mkF m 36 #[d0, d1, d2, .val (.int x3), .val (.int x4), .val (.int x5), .val (.int x6), .val (.ref a5), .unset, .unset, .unset, .unset] [(.int (20 : Int32))]))) ?_ (fun _ k => XT.bipushV X5.here hx rfl (20 : Int32) (hb hby at_34) rfl k)
    refine Ends.newA X5 hx hZ (hw _ (List.mem_of_getElem? (i := 1) rfl)) e5 (g := (mkF m 36 #[d0, d1, d2, .val (.int x3), .val (.int x4), .val (.int x5), .val (.int x6), .val (.ref a5), .unset, .unset, .unset, .unset] [(.int (20 : Int32))])) rfl (hb hby at_36) rfl rfl (by decide) 20 (by decide) (by decide) (by decide) (by decide) (fun T8 h8 a8 X8 e8 E8 q8 A8 => ?_)
    have ne9 : a5 ≠ a8 := q8 ▸ Nat.ne_of_lt A5.lt
    have A10 := A5.ext E8
    have g11 : n0 ≤ a8 := q8 ▸ Z7
    have Z12 := Nat.le_trans Z7 E8.1
    show Ends p e below s _ _ _ (T8.setTop (mkF m 38 #[d0, d1, d2, .val (.int x3), .val (.int x4), .val (.int x5), .val (.int x6), .val (.ref a5), .unset, .unset, .unset, .unset] [(.ref a8)]))
    refine Ends.step (u' := (T8.setTop (mkF m 40 #[d0, d1, d2, .val (.int x3), .val (.int x4), .val (.int x5), .val (.int x6), .val (.ref a5), .val (.ref a8), .unset, .unset, .unset] []))) ?_ (fun _ k => XS.astore X8.here hx rfl (hb hby at_38) rfl rfl (l' := #[d0, d1, d2, .val (.int x3), .val (.int x4), .val (.int x5), .val (.int x6), .val (.ref a5), .val (.ref a8), .unset, .unset, .unset]) rfl k)
    refine Ends.step (u' := (T8.setTop (mkF m 42 #[d0, d1, d2, .val (.int x3), .val (.int x4), .val (.int x5), .val (.int x6), .val (.ref a5), .val (.ref a8), .unset, .unset, .unset] [(.int x4)]))) ?_ (fun _ k => XS.iload X8.here hx rfl (hb hby at_40) rfl k)
    refine Ends.step (u' := (T8.setTop (mkF m 44 #[d0, d1, d2, .val (.int x3), .val (.int x4), .val (.int x5), .val (.int x6), .val (.ref a5), .val (.ref a8), .unset, .unset, .unset] [(.int x5), (.int x4)]))) ?_ (fun _ k => XS.iload X8.here hx rfl (hb hby at_42) rfl k)
    refine Ends.callS X8 hx hZ hown (hw _ (List.mem_of_getElem? (i := 2) rfl)) (hw _ (List.mem_of_getElem? (i := 3) rfl)) (hw _ (List.mem_of_getElem? (i := 4) rfl)) (hw _ (List.mem_of_getElem? (i := 5) rfl)) (by decide) (rm1 l Z a0 hw x4 x5 h8 n0 Z12) 0 (by decide) (by decide) e8  (g := (mkF m 44 #[d0, d1, d2, .val (.int x3), .val (.int x4), .val (.int x5), .val (.int x6), .val (.ref a5), .val (.ref a8), .unset, .unset, .unset] [(.int x5), (.int x4)])) rfl (by rw [hml]; rfl)  [(.int x4), (.int x5)] [] (lenOf pd_0 rfl) rfl (by show 2 * 0 + _ ≤ _; exact Nat.le_of_eq rfl) (hb hby at_44) rfl (by decide) (by decide) (fun v13 T13 L13 X13 hQ13 => ?_)
    obtain ⟨rfl, Nq13, e13⟩ := hQ13
    have N13 := Fr.app N Nq13
    show Ends p e below s _ _ _ (T13.setTop (mkF m 47 #[d0, d1, d2, .val (.int x3), .val (.int x4), .val (.int x5), .val (.int x6), .val (.ref a5), .val (.ref a8), .unset, .unset, .unset] [(.int (F1 x4 x5))]))
    refine Ends.step (u' := (T13.setTop (mkF m 49 #[d0, d1, d2, .val (.int x3), .val (.int x4), .val (.int x5), .val (.int x6), .val (.ref a5), .val (.ref a8), .val (.int (F1 x4 x5)), .unset, .unset] []))) ?_ (fun _ k => XS.istore X13.here hx rfl (hb hby at_47) rfl (l' := #[d0, d1, d2, .val (.int x3), .val (.int x4), .val (.int x5), .val (.int x6), .val (.ref a5), .val (.ref a8), .val (.int (F1 x4 x5)), .unset, .unset]) rfl k)
    exact b49 T13 _ _ X13 e13 N13 Z12 (fun _ => 0) (fun _ => 0) x3 x4 x5 x6 (F1 x4 x5) (d0) od0 (d1) od1 (d2) od2 a5 g6 a8 g11 ne9 A10 A8 ok
  have b22 : ∀ (T : State) (L : List Loc) (h : Heap) (X : Stand p l e room_1 s m #[(.int p0), (.int p1), (.int p2), (.int p3)] below meth c T L 0 0) (eT : T.heap = h) (N : Fr n0 L) (Zs : n0 ≤ h.size) (x2 : Int32) (x3 : Int32) (x4 : Int32) (x5 : Int32) (d0 : Slot) (od0 : OneS d0) (d1 : Slot) (od1 : OneS d1) (ok : (O0_22 K x2 x3 x4 x5)), Ends p e below s 2 84 (Q0 Z  h0 n0 (F0_22 K x2 x3 x4 x5)) (T.setTop (mkF m 22 #[d0, d1, .val (.int x2), .val (.int x3), .val (.int x4), .val (.int x5), .unset, .unset, .unset, .unset, .unset, .unset] [])) := by
    intro T L h X eT N Zs x2 x3 x4 x5 d0 od0 d1 od1 ok
    refine Ends.step (u' := (T.setTop (mkF m 23 #[d0, d1, .val (.int x2), .val (.int x3), .val (.int x4), .val (.int x5), .unset, .unset, .unset, .unset, .unset, .unset] [(.int x2)]))) ?_ (fun _ k => XS.iloadN X.here hx rfl (hb hby at_22) rfl k)
    refine Ends.step (u' := (T.setTop (mkF m 25 #[d0, d1, .val (.int x2), .val (.int x3), .val (.int x4), .val (.int x5), .unset, .unset, .unset, .unset, .unset, .unset] [(.int (31 : Int32)), (.int x2)]))) ?_ (fun _ k => XT.bipushV X.here hx rfl (31 : Int32) (hb hby at_23) rfl k)
    refine Ends.step (u' := (T.setTop (mkF m 26 #[d0, d1, .val (.int x2), .val (.int x3), .val (.int x4), .val (.int x5), .unset, .unset, .unset, .unset, .unset, .unset] [(.int (x2 &&& (31 : Int32)))]))) ?_ (fun _ k => XS.iand X.here hx rfl (hb hby at_25) rfl k)
    refine Ends.step (u' := (T.setTop (mkF m 28 #[d0, d1, .val (.int x2), .val (.int x3), .val (.int x4), .val (.int x5), .val (.int (x2 &&& (31 : Int32))), .unset, .unset, .unset, .unset, .unset] []))) ?_ (fun _ k => XS.istore X.here hx rfl (hb hby at_26) rfl (l' := #[d0, d1, .val (.int x2), .val (.int x3), .val (.int x4), .val (.int x5), .val (.int (x2 &&& (31 : Int32))), .unset, .unset, .unset, .unset, .unset]) rfl k)
    exact b28 T _ _ X eT N Zs x3 x4 x5 (x2 &&& (31 : Int32)) (d0) od0 (d1) od1 (.val (.int x2)) (Or.inr ⟨_, rfl, rfl⟩) ok
  have b11 : ∀ (T : State) (L : List Loc) (h : Heap) (X : Stand p l e room_1 s m #[(.int p0), (.int p1), (.int p2), (.int p3)] below meth c T L 0 0) (eT : T.heap = h) (N : Fr n0 L) (Zs : n0 ≤ h.size) (x1 : Int32) (x2 : Int32) (x3 : Int32) (t0 : Int32) (d0 : Slot) (od0 : OneS d0) (ok : (O0_11 K x1 x2 x3 t0)), Ends p e below s 2 84 (Q0 Z  h0 n0 (F0_11 K x1 x2 x3 t0)) (T.setTop (mkF m 11 #[d0, .val (.int x1), .val (.int x2), .val (.int x3), .unset, .unset, .unset, .unset, .unset, .unset, .unset, .unset] [(.int t0)])) := by
    intro T L h X eT N Zs x1 x2 x3 t0 d0 od0 ok
    refine Ends.step (u' := (T.setTop (mkF m 13 #[d0, .val (.int x1), .val (.int x2), .val (.int x3), .val (.int t0), .unset, .unset, .unset, .unset, .unset, .unset, .unset] []))) ?_ (fun _ k => XS.istore X.here hx rfl (hb hby at_11) rfl (l' := #[d0, .val (.int x1), .val (.int x2), .val (.int x3), .val (.int t0), .unset, .unset, .unset, .unset, .unset, .unset, .unset]) rfl k)
    refine Ends.step (u' := (T.setTop (mkF m 14 #[d0, .val (.int x1), .val (.int x2), .val (.int x3), .val (.int t0), .unset, .unset, .unset, .unset, .unset, .unset, .unset] [(.int x1)]))) ?_ (fun _ k => XS.iloadN X.here hx rfl (hb hby at_13) rfl k)
    refine Ends.step (u' := (T.setTop (mkF m 16 #[d0, .val (.int x1), .val (.int x2), .val (.int x3), .val (.int t0), .unset, .unset, .unset, .unset, .unset, .unset, .unset] [(.int (2147483647 : Int32)), (.int x1)]))) ?_ (fun _ k => X.ldcI hx hown (mvT hZ (hw _ (List.mem_of_getElem? (i := 0) rfl))) rfl (hb hby at_14) k)
    refine Ends.step (u' := (T.setTop (mkF m 17 #[d0, .val (.int x1), .val (.int x2), .val (.int x3), .val (.int t0), .unset, .unset, .unset, .unset, .unset, .unset, .unset] [(.int (x1 &&& (2147483647 : Int32)))]))) ?_ (fun _ k => XS.iand X.here hx rfl (hb hby at_16) rfl k)
    refine Ends.step (u' := (T.setTop (mkF m 19 #[d0, .val (.int x1), .val (.int x2), .val (.int x3), .val (.int t0), .unset, .unset, .unset, .unset, .unset, .unset, .unset] [(.int (21 : Int32)), (.int (x1 &&& (2147483647 : Int32)))]))) ?_ (fun _ k => XT.bipushV X.here hx rfl (21 : Int32) (hb hby at_17) rfl k)
    refine Ends.step (u' := (T.setTop (mkF m 20 #[d0, .val (.int x1), .val (.int x2), .val (.int x3), .val (.int t0), .unset, .unset, .unset, .unset, .unset, .unset, .unset] [(.int ((x1 &&& (2147483647 : Int32)) % (21 : Int32)))]))) ?_ (fun _ k => iremM X hx rfl (hb hby at_19) rfl (by decide) k)
    refine Ends.step (u' := (T.setTop (mkF m 22 #[d0, .val (.int x1), .val (.int x2), .val (.int x3), .val (.int t0), .val (.int ((x1 &&& (2147483647 : Int32)) % (21 : Int32))), .unset, .unset, .unset, .unset, .unset, .unset] []))) ?_ (fun _ k => XS.istore X.here hx rfl (hb hby at_20) rfl (l' := #[d0, .val (.int x1), .val (.int x2), .val (.int x3), .val (.int t0), .val (.int ((x1 &&& (2147483647 : Int32)) % (21 : Int32))), .unset, .unset, .unset, .unset, .unset, .unset]) rfl k)
    exact b22 T _ _ X eT N Zs x2 x3 t0 ((x1 &&& (2147483647 : Int32)) % (21 : Int32)) (d0) od0 (.val (.int x1)) (Or.inr ⟨_, rfl, rfl⟩) ok
  have b6 : ∀ (T : State) (L : List Loc) (h : Heap) (X : Stand p l e room_1 s m #[(.int p0), (.int p1), (.int p2), (.int p3)] below meth c T L 0 0) (eT : T.heap = h) (N : Fr n0 L) (Zs : n0 ≤ h.size) (x1 : Int32) (x2 : Int32) (x3 : Int32) (d0 : Slot) (od0 : OneS d0) (ok : (O0_6 K x1 x2 x3)), Ends p e below s 2 84 (Q0 Z  h0 n0 (F0_6 K x1 x2 x3)) (T.setTop (mkF m 6 #[d0, .val (.int x1), .val (.int x2), .val (.int x3), .unset, .unset, .unset, .unset, .unset, .unset, .unset, .unset] [])) := by
    intro T L h X eT N Zs x1 x2 x3 d0 od0 ok
    refine Ends.step (u' := (T.setTop (mkF m 7 #[d0, .val (.int x1), .val (.int x2), .val (.int x3), .unset, .unset, .unset, .unset, .unset, .unset, .unset, .unset] [(.int (1 : Int32))]))) ?_ (fun _ k => XT.iconstV X.here hx rfl (1 : Int32) (hb hby at_6) rfl k)
    refine Ends.step (u' := (T.setTop (mkF m 11 #[d0, .val (.int x1), .val (.int x2), .val (.int x3), .unset, .unset, .unset, .unset, .unset, .unset, .unset, .unset] [(.int (1 : Int32))]))) ?_ (fun _ k => XS.goto X.here hx rfl (pc0 := 7) (pc' := 11) rfl (hb hby at_7) (by decide) (by decide) k)
    exact b11 T _ _ X eT N Zs x1 x2 x3 (1 : Int32) (d0) od0 ok
  have b10 : ∀ (T : State) (L : List Loc) (h : Heap) (X : Stand p l e room_1 s m #[(.int p0), (.int p1), (.int p2), (.int p3)] below meth c T L 0 0) (eT : T.heap = h) (N : Fr n0 L) (Zs : n0 ≤ h.size) (x1 : Int32) (x2 : Int32) (x3 : Int32) (d0 : Slot) (od0 : OneS d0) (ok : (O0_10 K x1 x2 x3)), Ends p e below s 2 84 (Q0 Z  h0 n0 (F0_10 K x1 x2 x3)) (T.setTop (mkF m 10 #[d0, .val (.int x1), .val (.int x2), .val (.int x3), .unset, .unset, .unset, .unset, .unset, .unset, .unset, .unset] [])) := by
    intro T L h X eT N Zs x1 x2 x3 d0 od0 ok
    refine Ends.step (u' := (T.setTop (mkF m 11 #[d0, .val (.int x1), .val (.int x2), .val (.int x3), .unset, .unset, .unset, .unset, .unset, .unset, .unset, .unset] [(.int (0 : Int32))]))) ?_ (fun _ k => XT.iconstV X.here hx rfl (0 : Int32) (hb hby at_10) rfl k)
    exact b11 T _ _ X eT N Zs x1 x2 x3 (0 : Int32) (d0) od0 ok
  refine Ends.step (u' := (s₁.setTop (mkF m 0 #[.val (.int p0), .val (.int p1), .val (.int p2), .val (.int p3), .unset, .unset, .unset, .unset, .unset, .unset, .unset, .unset] []))) ?_ (fun _ k => castTop (ef_0 m p0 p1 p2 p3) k)
  obtain ⟨okt, okf⟩ := ok
  refine Ends.step (u' := (s₁.setTop (mkF m 1 #[.val (.int p0), .val (.int p1), .val (.int p2), .val (.int p3), .unset, .unset, .unset, .unset, .unset, .unset, .unset, .unset] [(.int p0)]))) ?_ (fun _ k => XS.iloadN X0.here hx rfl (hb hby at_0) rfl k)
  refine Ends.step (u' := (s₁.setTop (mkF m 2 #[.val (.int p0), .val (.int p1), .val (.int p2), .val (.int p3), .unset, .unset, .unset, .unset, .unset, .unset, .unset, .unset] [(.int (1 : Int32)), (.int p0)]))) ?_ (fun _ k => XT.iconstV X0.here hx rfl (1 : Int32) (hb hby at_1) rfl k)
  refine Ends.step (u' := (s₁.setTop (mkF m 3 #[.val (.int p0), .val (.int p1), .val (.int p2), .val (.int p3), .unset, .unset, .unset, .unset, .unset, .unset, .unset, .unset] [(.int (p0 &&& (1 : Int32)))]))) ?_ (fun _ k => XS.iand X0.here hx rfl (hb hby at_2) rfl k)
  by_cases hc3 : (p0 &&& (1 : Int32)) = 0
  · refine Eq.mp (congrArg (fun z => Ends p e below s 2 84 (Q0 Z  h0 n0 z) (s₁.setTop (mkF m 3 #[.val (.int p0), .val (.int p1), .val (.int p2), .val (.int p3), .unset, .unset, .unset, .unset, .unset, .unset, .unset, .unset] [(.int (p0 &&& (1 : Int32)))]))) (show (F0 K p0 p1 p2 p3) = (F0_10 K p1 p2 p3) from (if_pos hc3)).symm) ?_
    refine Ends.step (u' := (s₁.setTop (mkF m 10 #[.val (.int p0), .val (.int p1), .val (.int p2), .val (.int p3), .unset, .unset, .unset, .unset, .unset, .unset, .unset, .unset] []))) ?_ (fun _ k => XS.ifYes X0.here hx rfl (pc0 := 3) (pc' := 10) rfl (hb hby at_3) rfl (XT.i0_eq_t hc3) (by decide) (by decide) k)
    exact b10 s₁ _ _ X0 e0 N0 Z0 p1 p2 p3 (.val (.int p0)) (Or.inr ⟨_, rfl, rfl⟩) (okt hc3)
  · refine Eq.mp (congrArg (fun z => Ends p e below s 2 84 (Q0 Z  h0 n0 z) (s₁.setTop (mkF m 3 #[.val (.int p0), .val (.int p1), .val (.int p2), .val (.int p3), .unset, .unset, .unset, .unset, .unset, .unset, .unset, .unset] [(.int (p0 &&& (1 : Int32)))]))) (show (F0 K p0 p1 p2 p3) = (F0_6 K p1 p2 p3) from (if_neg hc3)).symm) ?_
    refine Ends.step (u' := (s₁.setTop (mkF m 6 #[.val (.int p0), .val (.int p1), .val (.int p2), .val (.int p3), .unset, .unset, .unset, .unset, .unset, .unset, .unset, .unset] []))) ?_ (fun _ k => XS.ifNo X0.here hx rfl (hb hby at_3) rfl (XT.i0_eq_f hc3) k)
    exact b6 s₁ _ _ X0 e0 N0 Z0 p1 p2 p3 (.val (.int p0)) (Or.inr ⟨_, rfl, rfl⟩) (okf hc3)
theorem own_toInt (x : Int32) (h : x.toBitVec.toNat < 2 ^ 31) : x.toInt = x.toBitVec.toNat := by
  show x.toBitVec.toInt = _
  rw [BitVec.toInt_eq_toNat_cond, if_pos (by omega)]
theorem own_nonneg (x : Int32) (h : 0 ≤ x.toInt) : x.toBitVec.toNat < 2 ^ 31 := by
  have h' : 0 ≤ x.toBitVec.toInt := h
  rw [BitVec.toInt_eq_toNat_cond] at h'
  split at h' <;> omega
theorem own_band (x c : Int32) (hc : 0 ≤ c.toInt) : 0 ≤ (x &&& c).toInt ∧ (x &&& c).toInt ≤ c.toInt := by
  have hb := own_nonneg c hc
  have e : (x &&& c).toBitVec.toNat = x.toBitVec.toNat &&& c.toBitVec.toNat := by rw [Int32.toBitVec_and, BitVec.toNat_and]
  have l : x.toBitVec.toNat &&& c.toBitVec.toNat ≤ c.toBitVec.toNat := Nat.and_le_right
  rw [own_toInt (x &&& c) (by omega), own_toInt c hb, e]
  omega
theorem own_inb (j : Int32) (n : Nat) (h0 : 0 ≤ j.toInt) (h1 : j.toInt < n) : inb j n := by
  intro h
  rcases h with h | h
  · rw [Int32.lt_iff_toInt_lt] at h
    have : (0 : Int32).toInt = 0 := rfl
    omega
  · simp only [Int32.toNatClampNeg] at h
    omega
theorem own_n_toInt (i : Nat) (h : i < 2 ^ 31) : (Int32.ofNat i).toInt = i := Int32.toInt_ofNat_of_lt h
theorem own_n_lt (i j : Nat) (hi : i < 2 ^ 31) (hj : j < 2 ^ 31) : Int32.ofNat i < Int32.ofNat j ↔ i < j := by
  rw [Int32.lt_iff_toInt_lt, own_n_toInt i hi, own_n_toInt j hj]; omega
theorem own_n_add (i j : Nat) : Int32.ofNat i + Int32.ofNat j = Int32.ofNat (i + j) := (Int32.ofNat_add i j).symm
theorem own_n_ix (i : Nat) (h : i < 2 ^ 31) : (Int32.ofNat i).toNatClampNeg = i := by
  simp only [Int32.toNatClampNeg, own_n_toInt i h]; omega
theorem own_n_inb (i n : Nat) (h : i < n) (hn : n < 2 ^ 31) : inb (Int32.ofNat i) n :=
  own_inb _ _ (by rw [own_n_toInt i (by omega)]; omega) (by rw [own_n_toInt i (by omega)]; omega)
theorem own_n_ex (x : Int32) (h : 0 ≤ x.toInt) : ∃ n : Nat, n < 2 ^ 31 ∧ x = Int32.ofNat n ∧ x.toInt = n := by
  have := Int32.toInt_lt x
  refine ⟨x.toInt.toNat, by omega, ?_, by omega⟩
  apply Int32.toInt_inj.mp
  rw [own_n_toInt _ (by omega)]
  omega
theorem own_pos_mod (x c : Int32) (hc : 0 < c.toInt) : 0 ≤ ((x &&& (2147483647 : Int32)) % c).toInt ∧ ((x &&& (2147483647 : Int32)) % c).toInt < c.toInt := by
  have h := own_band x 2147483647 (by decide)
  rw [Int32.toInt_mod, Int.tmod_eq_emod_of_nonneg h.1]
  exact ⟨Int.emod_nonneg _ (by omega), Int.emod_lt_of_pos _ hc⟩
def own_P (f : Nat → Int32) (base : Nat) (v : Nat → Int32) : Nat → (Nat → Int32)
  | 0 => f
  | q + 1 => upd (own_P f base v q) (base + q) (v q)
theorem own_P_at (f : Nat → Int32) (base : Nat) (v : Nat → Int32) : ∀ q i, own_P f base v q i = if base ≤ i ∧ i < base + q then v (i - base) else f i
  | 0, i => by rw [if_neg (by omega)]; rfl
  | q + 1, i => by
    show (if i = base + q then v q else own_P f base v q i) = _
    rw [own_P_at f base v q i]
    by_cases h : i = base + q
    · rw [if_pos h, if_pos (by omega), show i - base = q by omega]
    · rw [if_neg h]
      by_cases h2 : base ≤ i ∧ i < base + q
      · rw [if_pos h2, if_pos (by omega)]
      · rw [if_neg h2, if_neg (by omega)]
def own_pair (g : Nat → Int32) (len q : Nat) : Int32 := nar .byte (((((g (2 * q)) - (48 : Int32)) <<< ((4 : Int32) &&& 31)) ||| (if 2 * q + 1 < len then (g (2 * q + 1)) - (48 : Int32) else (0 : Int32))).toInt8.toInt32)
theorem own_loop1 (K N : Nat) (hN : N < 1000) (f g : Nat → Int32) (x2 x5 : Int32) (len base : Nat) (hl : len ≤ 20) (hb : base + (len + 1) / 2 ≤ N) : ∀ (r j q : Nat), q + r = (len + 1) / 2 → r < j →
    (O2_77 K N (own_P f base (own_pair g len) ((len + 1) / 2)) 20 g x2 x5 (Int32.ofNat (base + (len + 1) / 2)) → O2_16 K j N (own_P f base (own_pair g len) q) 20 g x2 (Int32.ofNat len) x5 (Int32.ofNat (base + q)) (Int32.ofNat (2 * q))) ∧
    F2_16 K j N (own_P f base (own_pair g len) q) 20 g x2 (Int32.ofNat len) x5 (Int32.ofNat (base + q)) (Int32.ofNat (2 * q)) = F2_77 K N (own_P f base (own_pair g len) ((len + 1) / 2)) 20 g x2 x5 (Int32.ofNat (base + (len + 1) / 2))
  | r, 0, _, _, z => absurd z (Nat.not_lt_zero r)
  | 0, j + 1, q, e, _ => by
    have e' : q = (len + 1) / 2 := by omega
    have c : ¬ Int32.ofNat (2 * q) < Int32.ofNat len := by rw [own_n_lt _ _ (by omega) (by omega)]; omega
    rw [← e']
    exact ⟨fun ok => ⟨fun z => absurd z c, fun _ => ok⟩, if_neg c⟩
  | r + 1, j + 1, q, e, z => by
    have c : Int32.ofNat (2 * q) < Int32.ofNat len := by rw [own_n_lt _ _ (by omega) (by omega)]; omega
    have ih := own_loop1 K N hN f g x2 x5 len base hl hb r j (q + 1) (by omega) (by omega)
    have e1 : (Int32.ofNat (2 * q)).toNatClampNeg = 2 * q := own_n_ix _ (by omega)
    have e2 : Int32.ofNat (2 * q) + 1 = Int32.ofNat (2 * q + 1) := own_n_add _ 1
    have e3 : (Int32.ofNat (2 * q + 1)).toNatClampNeg = 2 * q + 1 := own_n_ix _ (by omega)
    have e4 : (Int32.ofNat (base + q)).toNatClampNeg = base + q := own_n_ix _ (by omega)
    have e5 : Int32.ofNat (base + q) + 1 = Int32.ofNat (base + (q + 1)) := own_n_add _ 1
    have e6 : Int32.ofNat (2 * q) + 2 = Int32.ofNat (2 * (q + 1)) := own_n_add _ 2
    have hd : inb (Int32.ofNat (2 * q)) 20 := own_n_inb _ _ (by omega) (by decide)
    have ho : inb (Int32.ofNat (base + q)) N := own_n_inb _ _ (by omega) (by omega)
    by_cases c2 : Int32.ofNat (2 * q) + 1 < Int32.ofNat len
    · have c2' : 2 * q + 1 < len := by rw [e2, own_n_lt _ _ (by omega) (by omega)] at c2; exact c2
      have hd2 : inb (Int32.ofNat (2 * q) + 1) 20 := by rw [e2]; exact own_n_inb _ _ (by omega) (by decide)
      have v : own_pair g len q = nar .byte (((((g (2 * q)) - (48 : Int32)) <<< ((4 : Int32) &&& 31)) ||| ((g (2 * q + 1)) - (48 : Int32))).toInt8.toInt32) := by
        unfold own_pair; rw [if_pos c2']
      have u : own_P f base (own_pair g len) (q + 1) = upd (own_P f base (own_pair g len) q) (base + q) (nar .byte (((((g (2 * q)) - (48 : Int32)) <<< ((4 : Int32) &&& 31)) ||| ((g (2 * q + 1)) - (48 : Int32))).toInt8.toInt32)) := by rw [← v]; rfl
      refine ⟨fun ok => ⟨fun _ => ⟨hd, fun _ => ⟨hd2, ho, ?_⟩, fun w => absurd c2 w⟩, fun w => absurd c w⟩, (if_pos c).trans ((if_pos c2).trans ?_)⟩
      · rw [e1, e2, e3, e4, e5, e6, ← u]; exact ih.1 ok
      · simp only [F2_41, F2_54]
        rw [e1, e2, e3, e4, e5, e6, ← u]; exact ih.2
    · have c2' : ¬ 2 * q + 1 < len := by rw [e2, own_n_lt _ _ (by omega) (by omega)] at c2; exact c2
      have v : own_pair g len q = nar .byte (((((g (2 * q)) - (48 : Int32)) <<< ((4 : Int32) &&& 31)) ||| (0 : Int32)).toInt8.toInt32) := by
        unfold own_pair; rw [if_neg c2']
      have u : own_P f base (own_pair g len) (q + 1) = upd (own_P f base (own_pair g len) q) (base + q) (nar .byte (((((g (2 * q)) - (48 : Int32)) <<< ((4 : Int32) &&& 31)) ||| (0 : Int32)).toInt8.toInt32)) := by rw [← v]; rfl
      refine ⟨fun ok => ⟨fun _ => ⟨hd, fun w => absurd w c2, fun _ => ⟨ho, ?_⟩⟩, fun w => absurd c w⟩, (if_pos c).trans ((if_neg c2).trans ?_)⟩
      · rw [e1, e4, e5, e6, ← u]; exact ih.1 ok
      · simp only [F2_53, F2_54]
        rw [e1, e4, e5, e6, ← u]; exact ih.2
def own_db (day k : Int32) : Int32 := nar .byte ((XT.ushr day k).toInt8.toInt32)
def own_D (f : Nat → Int32) (b : Nat) (day : Int32) : Nat → Int32 := upd (upd (upd (upd f b (own_db day 24)) (b + 1) (own_db day 16)) (b + 2) (own_db day 8)) (b + 3) (own_db day 0)
theorem own_step2 (K N j : Nat) (f g : Nat → Int32) (day : Int32) (b : Nat) (k k' : Int32) (hN : N < 1000) (hb : b < N) (c : ¬ k < 0) (ek : k + (-8 : Int32) = k')
    (ih : O2_85 K j N (upd f b (own_db day k)) 20 g day (Int32.ofNat (b + 1)) k') : O2_85 K (j + 1) N f 20 g day (Int32.ofNat b) k ∧ F2_85 K (j + 1) N f 20 g day (Int32.ofNat b) k = F2_85 K j N (upd f b (own_db day k)) 20 g day (Int32.ofNat (b + 1)) k' := by
  have e4 : (Int32.ofNat b).toNatClampNeg = b := own_n_ix _ (by omega)
  have e5 : Int32.ofNat b + 1 = Int32.ofNat (b + 1) := own_n_add _ 1
  refine ⟨⟨fun w => absurd w c, fun _ => ⟨own_n_inb _ _ hb (by omega), ?_⟩⟩, (if_neg c).trans ?_⟩
  · rw [e4, e5, ek]; exact ih
  · simp only [F2_90]; rw [e4, e5, ek]; rfl
theorem own_loop2 (K N : Nat) (hN : N < 1000) (f g : Nat → Int32) (day : Int32) (b : Nat) (hb : b + 4 ≤ N) (j : Nat) : O2_85 K (j + 5) N f 20 g day (Int32.ofNat b) 24 ∧ F2_85 K (j + 5) N f 20 g day (Int32.ofNat b) 24 = (Int32.ofNat (b + 4), own_D f b day) := by
  have o5 : O2_85 K (j + 1) N (own_D f b day) 20 g day (Int32.ofNat (b + 4)) (-8) := ⟨fun _ => trivial, fun w => absurd (by decide) w⟩
  have f5 : F2_85 K (j + 1) N (own_D f b day) 20 g day (Int32.ofNat (b + 4)) (-8) = (Int32.ofNat (b + 4), own_D f b day) := if_pos (by decide)
  have s4 := own_step2 K N (j + 1) (upd (upd (upd f b (own_db day 24)) (b + 1) (own_db day 16)) (b + 2) (own_db day 8)) g day (b + 3) 0 (-8) hN (by omega) (by decide) (by decide) o5
  have s3 := own_step2 K N (j + 2) (upd (upd f b (own_db day 24)) (b + 1) (own_db day 16)) g day (b + 2) 8 0 hN (by omega) (by decide) (by decide) s4.1
  have s2 := own_step2 K N (j + 3) (upd f b (own_db day 24)) g day (b + 1) 16 8 hN (by omega) (by decide) (by decide) s3.1
  have s1 := own_step2 K N (j + 4) f g day b 24 16 hN (by omega) (by decide) (by decide) s2.1
  exact ⟨s1.1, s1.2.trans (s2.2.trans (s3.2.trans (s4.2.trans f5)))⟩
def own_W (f g : Nat → Int32) (a len : Nat) : Nat → Int32 := own_P (upd f a (nar .byte ((Int32.ofNat len).toInt8.toInt32))) (a + 1) (own_pair g len) ((len + 1) / 2)
theorem own_encode (N a len : Nat) (f g : Nat → Int32) (dated day : Int32) (hN : N < 1000) (hl : len ≤ 20) (hb : a + 1 + (len + 1) / 2 + 4 ≤ N) :
    O2 16 (Int32.ofNat a) dated (Int32.ofNat len) day N f 20 g ∧
    F2 16 (Int32.ofNat a) dated (Int32.ofNat len) day N f 20 g = if dated = 0 then (Int32.ofNat (a + 1 + (len + 1) / 2), own_W f g a len) else (Int32.ofNat (a + 1 + (len + 1) / 2 + 4), own_D (own_W f g a len) (a + 1 + (len + 1) / 2) day) := by
  have e1 : (Int32.ofNat a).toNatClampNeg = a := own_n_ix _ (by omega)
  have e2 : Int32.ofNat a + 1 = Int32.ofNat (a + 1 + 0) := own_n_add _ 1
  have l1 := own_loop1 16 N hN (upd f a (nar .byte ((Int32.ofNat len).toInt8.toInt32))) g dated day len (a + 1) hl (by omega) ((len + 1) / 2) 16 0 (by omega) (by omega)
  have l2 := own_loop2 16 N hN (own_W f g a len) g day (a + 1 + (len + 1) / 2) (by omega) 11
  have ok : O2_77 16 N (own_W f g a len) 20 g dated day (Int32.ofNat (a + 1 + (len + 1) / 2)) := ⟨fun _ => trivial, fun _ => l2.1⟩
  refine ⟨⟨own_n_inb _ _ (by omega) (by omega), ?_⟩, ?_⟩
  · rw [e1, e2]; exact l1.1 ok
  · simp only [F2]
    rw [e1, e2]
    refine l1.2.trans ?_
    by_cases c : dated = 0
    · rw [if_pos c]; exact if_pos c
    · rw [if_neg c]; exact (if_neg c).trans l2.2
theorem own_nums : ∀ m : Fin 21, ((1 : Int32) + ((Int32.ofNat m.val + (1 : Int32)) / (2 : Int32))) = Int32.ofNat (1 + (m.val + 1) / 2) ∧ (((1 : Int32) + (Int32.ofNat m.val / (2 : Int32))) + (Int32.ofNat m.val &&& (1 : Int32))) = Int32.ofNat (1 + (m.val + 1) / 2) := by decide +kernel
theorem own_28 (a m : Nat) (day dated : Int32) (ha : a ≤ 31) (hm : m ≤ 20) : O0_28 16 day dated (Int32.ofNat m) (Int32.ofNat a) ∧ F0_28 16 day dated (Int32.ofNat m) (Int32.ofNat a) = 1 := by
  obtain ⟨n1, n2⟩ := own_nums ⟨m, by omega⟩
  simp only at n1 n2
  obtain ⟨o, v⟩ := own_encode 64 a m (fun _ => 0) (fun _ => 0) dated day (by decide) hm (by omega)
  have e1 : Int32.ofNat (a + 1 + (m + 1) / 2) - Int32.ofNat a = Int32.ofNat (1 + (m + 1) / 2) := by
    rw [show a + 1 + (m + 1) / 2 = (1 + (m + 1) / 2) + a by omega, ← own_n_add]; exact Int32.add_sub_cancel _ _
  have e2 : Int32.ofNat (a + 1 + (m + 1) / 2 + 4) - Int32.ofNat a = Int32.ofNat (1 + (m + 1) / 2 + 4) := by
    rw [show a + 1 + (m + 1) / 2 + 4 = (1 + (m + 1) / 2 + 4) + a by omega, ← own_n_add]; exact Int32.add_sub_cancel _ _
  refine ⟨⟨fun _ => ⟨o, trivial⟩, fun _ => ⟨o, trivial⟩⟩, ?_⟩
  by_cases c : dated = 0
  · rw [if_pos c] at v
    have g : F1 dated (Int32.ofNat m) = Int32.ofNat (1 + (m + 1) / 2) := by
      refine (if_pos c).trans ?_
      simp only [F1_15, F1_16, n1]; exact own_n_add _ 0
    have r : F0_49 16 (fun _ => 0) (fun _ => 0) day dated (Int32.ofNat m) (Int32.ofNat a) (F1 dated (Int32.ofNat m)) = F0_73 16 (fun _ => 0) (fun _ => 0) day dated (Int32.ofNat m) (Int32.ofNat a) (F1 dated (Int32.ofNat m)) (Int32.ofNat (1 + (m + 1) / 2)) := by
      refine (if_pos c).trans ?_
      simp only [F0_69, F0_70, n2]
      rw [show Int32.ofNat (1 + (m + 1) / 2) + (0 : Int32) = Int32.ofNat (1 + (m + 1) / 2) from own_n_add _ 0]
    show F0_49 16 (fun _ => 0) (fun _ => 0) day dated (Int32.ofNat m) (Int32.ofNat a) (F1 dated (Int32.ofNat m)) = 1
    rw [r, g]
    simp only [F0_73, v, F0_89, if_true, F0_96, e1]
    rfl
  · rw [if_neg c] at v
    have g : F1 dated (Int32.ofNat m) = Int32.ofNat (1 + (m + 1) / 2 + 4) := by
      refine (if_neg c).trans ?_
      simp only [F1_11, F1_16, n1]; exact own_n_add _ 4
    have r : F0_49 16 (fun _ => 0) (fun _ => 0) day dated (Int32.ofNat m) (Int32.ofNat a) (F1 dated (Int32.ofNat m)) = F0_73 16 (fun _ => 0) (fun _ => 0) day dated (Int32.ofNat m) (Int32.ofNat a) (F1 dated (Int32.ofNat m)) (Int32.ofNat (1 + (m + 1) / 2 + 4)) := by
      refine (if_neg c).trans ?_
      simp only [F0_65, F0_70, n2]
      rw [show Int32.ofNat (1 + (m + 1) / 2) + (4 : Int32) = Int32.ofNat (1 + (m + 1) / 2 + 4) from own_n_add _ 4]
    show F0_49 16 (fun _ => 0) (fun _ => 0) day dated (Int32.ofNat m) (Int32.ofNat a) (F1 dated (Int32.ofNat m)) = 1
    rw [r, g]
    simp only [F0_73, v, F0_89, if_true, F0_96, e2]
    rfl
theorem own_law (i0 : Int32) (i1 : Int32) (i2 : Int32) (i3 : Int32) : ∃ K, O0 K i0 i1 i2 i3 ∧ F0 K i0 i1 i2 i3 = 1 := by
  refine ⟨16, ?_⟩
  have key : ∀ d : Int32, O0_11 16 i1 i2 i3 d ∧ F0_11 16 i1 i2 i3 d = 1 := by
    intro d
    have e31 : (31 : Int32).toInt = 31 := rfl
    have e21 : (21 : Int32).toInt = 21 := rfl
    have ha := own_band i2 31 (by decide)
    have hm := own_pos_mod i1 21 (by decide)
    obtain ⟨a, a1, ea, a2⟩ := own_n_ex _ ha.1
    obtain ⟨m, m1, em, m2⟩ := own_n_ex _ hm.1
    simp only [O0_11, F0_11, O0_22, F0_22, ea, em]
    exact own_28 a m i3 d (by omega) (by omega)
  refine ⟨⟨fun _ => (key 0).1, fun _ => (key 1).1⟩, ?_⟩
  have k1 : F0_10 16 i1 i2 i3 = 1 := (key 0).2
  have k2 : F0_6 16 i1 i2 i3 = 1 := (key 1).2
  simp only [F0, k1, k2, ite_self]
set_option maxRecDepth 65536 in
set_option maxHeartbeats 40000000 in
theorem comes_1 {Post : Tables → Env → Array Value → State → Outcome → State → Prop} (hpost : ∀ tb e args s v u, (limb_1_1.after args s (.returned v) u = true ∧ limb_1_2.after args s (.returned v) u = true ∧ True) → FrameEnd s (.returned v) u (Jvm.fieldLocs frame_1_writes args s ++ Jvm.arrayLocs frame_1_arrays args s ++ Jvm.staticLocs frame_1_statics s) 16 256 → Post tb e args s (.returned v) u) :
    ArmFor flags0 classFile x code maxLocals ret World_1 tables_1 room_1 Calls_1 rest_1 Pre_1 Post := by
  intro l hfl _ _ p e ha hc hk s m args below hf hA hF happ hP
  obtain ⟨hcalls, hrest, hpre⟩ := hP
  obtain ⟨-, -, -, hnamed, -, -, -, hat⟩ := (Spec.applies_iff hf).mp happ
  obtain ⟨hg, hn⟩ := and_e (Cond.before_iff.mp (show (Jvm.Cond.and given_1 narrow_1).before args s = true from hpre))
  obtain ⟨h1, r0⟩ := and_e hg
  obtain ⟨k0, r1⟩ := and_e r0
  obtain ⟨k1, r2⟩ := and_e r1
  obtain ⟨k2, r3⟩ := and_e r2
  obtain ⟨w0, w1, w2, w3, rfl⟩ : ∃ w0 w1 w2 w3 : Value, args = #[w0, w1, w2, w3] := by
    have hs : args.size = 4 := by simpa [Cond.value, given_1] using h1
    obtain ⟨L⟩ := args
    match L, hs with
    | [w0, w1, w2, w3], _ => exact ⟨w0, w1, w2, w3, rfl⟩
  have hw := fun d (hd : d ∈ tables_1) => atoms_spec (ws := Jvm.Cond.code x code maxLocals ret :: tables_1) hat d (List.mem_cons_of_mem _ hd)
  obtain ⟨i0, e0⟩ := is_v k0
  obtain rfl : w0 = (.int i0) := Option.some.inj e0
  obtain ⟨i1, e1⟩ := is_v k1
  obtain rfl : w1 = (.int i1) := Option.some.inj e1
  obtain ⟨i2, e2⟩ := is_v k2
  obtain rfl : w2 = (.int i2) := Option.some.inj e2
  obtain ⟨i3, e3⟩ := is_v r3
  obtain rfl : w3 = (.int i3) := Option.some.inj e3
  obtain ⟨K, ok, val⟩ := own_law i0 i1 i2 i3
  obtain ⟨n, o, h1, h2, h3, _, L, rfl, ⟨rfl, N⟩, hq⟩ := rm0 l s _ hw K i0 i1 i2 i3 s.heap s.heap.size (Nat.le_refl _) ok p e ha hc hk s m _ below hf ((Spec.applies_iff_loose hf).mp happ).1 ⟨rfl, State.Warmed39.refl s, rfl⟩ trivial
  refine ⟨n, _, h1, h2, h3, hpost _ _ _ _ _ _ ⟨Cond.after_iff.mpr rfl, Cond.after_iff.mpr (eq_i res_at (Term.int_eval (1)) (by rw [val])), trivial⟩ ⟨hq.1, hq.2.1, (hq.2.2.sift fun y hy => Or.inr (N y hy)).mono (by decide) (by decide)⟩⟩
theorem main_1_1 : Claimed_1_1 := comes_1 fun _ _ _ _ _ _ h hF => ⟨h.1, hF⟩
theorem main_1_2 : Claimed_1_2 := comes_1 fun _ _ _ _ _ _ h hF => ⟨h.2.1, hF⟩
end Jvm.Pilot.@@N@@
namespace Jvm.Pilot.@@N@@
open Jvm Jvm.ClassFile Sem Op Lib Jvm.Free Jvm.Stand Jvm.Pilot.@@N@@.Jvm.D
/-! MADE BY PROGRAM (witnessworld.py) out of the Statement's table words and the real class files: 9 classes; the members and pool entries that the words name. The judged class is class 1, her method 1. -/
namespace start1
open Jvm.ClassFile
def u (s : String) : CpInfo := .utf8 (stringToUtf16 s)
/-- a pool by its gaps: so many unusable entries, then the entry; so many at the end -/
def gap : Nat → List CpInfo → List CpInfo
  | 0, r => r
  | n + 1, r => .unusable :: gap n r
def poolList (es : List (Nat × CpInfo)) (last : Nat) : List CpInfo := es.foldr (fun e r => gap e.1 (e.2 :: r)) (gap last [])
def pool (es : List (Nat × CpInfo)) (last : Nat) : Array CpInfo := ⟨poolList es last⟩
def fileOf (pool : Array CpInfo) (this : Nat) (attrs : Array Attribute := #[]) (ms : Array MethodInfo := #[]) (fl : Nat := 33) (sup : Nat := 0) (ifs : Array Nat := #[]) (fds : Array FieldInfo := #[]) : ClassFile where
  minorVersion := 0
  majorVersion := 65
  constantPool := pool
  accessFlags := fl
  thisClass := this
  superClass := sup
  interfaces := ifs
  fields := fds
  methods := ms
  attributes := attrs
def plain (name : String) (sup : Option ClassId) : Class where
  name := name
  kind := .ordinary
  loader := none
  accessFlags := 33
  super := sup
  interfaces := #[]
  cf := none
  fields := #[]
  methods := #[]
  instanceTypes := #[]
  staticTypes := #[]
  resolved := #[]
  callSites := []
  init := .initialized
  statics := none
  mirror := none

def pool0 : Array CpInfo := pool [(5, u "<init>"), (0, u "()V"), (1, .class_ 10), (1, u "java/lang/Object")] 113

def k0m0 : Method := { name := "<init>", desc := "()V", sig := { parameters := [], returnType := none }, accessFlags := 1, code := none }
/-- java/lang/Object -/
def k0 : Class := { plain "java/lang/Object" none with
  accessFlags := 33
  interfaces := #[]
  cf := some (fileOf pool0 8 #[] #[{ accessFlags := 1, nameIndex := 5, descriptorIndex := 6, attributes := #[] }] 33 0 #[] #[])
  fields := #[]
  methods := #[k0m0]
  instanceTypes := #[]
  staticTypes := #[]
  resolved := Array.replicate 124 none
  statics := none }

def pool1 : Array CpInfo := pool [(2, .class_ 4), (1, u "java/lang/Object"), (0, u "<init>"), (0, u "()V"), (0, .integer 2147483647), (0, .methodref 9 10), (0, .class_ 11), (0, .nameAndType 12 13), (0, u "com/example/numbersieve/numbersieve/EntryCodec"), (0, u "entryBytes"), (0, u "(ZI)I"), (0, .methodref 9 15), (0, .nameAndType 16 17), (0, u "encode"), (0, u "([BIZ[BII)I"), (0, .class_ 19), (0, u "com/example/numbersieve/numbersieve/EntryCodecEntryBytesPinLaw"), (2, u "law"), (0, u "(IIII)Z")] 5

def k1m0 : Method := { name := "<init>", desc := "()V", sig := { parameters := [], returnType := none }, accessFlags := 2, code := none }
def k1c1 : Code := { maxStack := 6, maxLocals := 12, code := code, exceptionTable := #[], attributes := #[] }
def k1m1 : Method := { name := "law", desc := "(IIII)Z", sig := { parameters := [.int, .int, .int, .int], returnType := some .boolean }, accessFlags := 9, code := some k1c1 }
/-- com/example/numbersieve/numbersieve/EntryCodecEntryBytesPinLaw -/
def k1 : Class := { plain "com/example/numbersieve/numbersieve/EntryCodecEntryBytesPinLaw" (some 0) with
  accessFlags := 49
  interfaces := #[]
  cf := some (fileOf pool1 18 #[] #[{ accessFlags := 2, nameIndex := 5, descriptorIndex := 6, attributes := #[] }, { accessFlags := 9, nameIndex := 22, descriptorIndex := 23, attributes := #[] }] 49 2 #[] #[])
  fields := #[]
  methods := #[k1m0, k1m1]
  instanceTypes := #[]
  staticTypes := #[]
  resolved := Array.replicate 29 none
  statics := none }

def pool2 : Array CpInfo := pool [(2, .class_ 4), (1, u "java/lang/Object"), (0, u "<init>"), (0, u "()V"), (0, .class_ 8), (0, u "com/example/numbersieve/numbersieve/EntryCodec"), (20, u "entryBytes"), (0, u "(ZI)I"), (2, u "MAX_ENTRY_BYTES"), (0, u "I"), (0, u "DATE_BYTES"), (2, u "CHUNK_BYTES"), (1, u "FIRST_CHUNK_BYTES"), (4, u "encode"), (0, u "([BIZ[BII)I"), (11, .class_ 59), (0, u "com/example/numbersieve/numbersieve/EntryCodec$Packer"), (0, .class_ 61), (0, u "com/example/numbersieve/numbersieve/EntryCodec$ChunkSink")] 3

def k2m0 : Method := { name := "<init>", desc := "()V", sig := { parameters := [], returnType := none }, accessFlags := 2, code := none }
def k2c1 : Code := { maxStack := 3, maxLocals := 2, code := prog_16_method_2_code, exceptionTable := #[], attributes := #[] }
def k2m1 : Method := { name := "entryBytes", desc := "(ZI)I", sig := { parameters := [.boolean, .int], returnType := some .int }, accessFlags := 8, code := some k2c1 }
def k2c2 : Code := { maxStack := 4, maxLocals := 10, code := prog_16_method_3_code, exceptionTable := #[], attributes := #[] }
def k2m2 : Method := { name := "encode", desc := "([BIZ[BII)I", sig := { parameters := [(.array .byte), .int, .boolean, (.array .byte), .int, .int], returnType := some .int }, accessFlags := 8, code := some k2c2 }
/-- com/example/numbersieve/numbersieve/EntryCodec -/
def k2 : Class := { plain "com/example/numbersieve/numbersieve/EntryCodec" (some 0) with
  accessFlags := 48
  interfaces := #[]
  cf := some (fileOf pool2 7 #[.nestMembers #[58, 60]] #[{ accessFlags := 2, nameIndex := 5, descriptorIndex := 6, attributes := #[] }, { accessFlags := 8, nameIndex := 29, descriptorIndex := 30, attributes := #[] }, { accessFlags := 8, nameIndex := 45, descriptorIndex := 46, attributes := #[] }] 48 2 #[] #[{ accessFlags := 26, nameIndex := 35, descriptorIndex := 34, attributes := #[] }, { accessFlags := 24, nameIndex := 33, descriptorIndex := 34, attributes := #[] }, { accessFlags := 24, nameIndex := 38, descriptorIndex := 34, attributes := #[] }, { accessFlags := 26, nameIndex := 40, descriptorIndex := 34, attributes := #[] }])
  fields := #[{ name := "DATE_BYTES", type := .int, accessFlags := 26, slot := 0, constantValue := 0 }, { name := "MAX_ENTRY_BYTES", type := .int, accessFlags := 24, slot := 1, constantValue := 0 }, { name := "CHUNK_BYTES", type := .int, accessFlags := 24, slot := 2, constantValue := 0 }, { name := "FIRST_CHUNK_BYTES", type := .int, accessFlags := 26, slot := 3, constantValue := 0 }]
  methods := #[k2m0, k2m1, k2m2]
  instanceTypes := #[]
  staticTypes := #[.int, .int, .int, .int]
  resolved := Array.replicate 65 none
  statics := none }

def pool3 : Array CpInfo := pool [(1, u "java/lang/Cloneable"), (0, .class_ 1), (0, u "java/lang/Object"), (0, .class_ 3)] 3

/-- java/lang/Cloneable -/
def k3 : Class := { plain "java/lang/Cloneable" (some 0) with
  accessFlags := 1537
  interfaces := #[]
  cf := some (fileOf pool3 2 #[] #[] 1537 4 #[] #[])
  fields := #[]
  methods := #[]
  instanceTypes := #[]
  staticTypes := #[]
  resolved := Array.replicate 8 none
  statics := none }

def pool4 : Array CpInfo := pool [(1, u "java/io/Serializable"), (0, .class_ 1), (0, u "java/lang/Object"), (0, .class_ 3)] 3

/-- java/io/Serializable -/
def k4 : Class := { plain "java/io/Serializable" (some 0) with
  accessFlags := 1537
  interfaces := #[]
  cf := some (fileOf pool4 2 #[] #[] 1537 4 #[] #[])
  fields := #[]
  methods := #[]
  instanceTypes := #[]
  staticTypes := #[]
  resolved := Array.replicate 8 none
  statics := none }

/-- the primitive byte -/
def k5 : Class := { plain "byte" none with kind := .primitive 'B', accessFlags := 0x411 }
/-- [B -/
def k6 : Class := { plain "[B" (some 0) with kind := .array 5 .byte, interfaces := #[3, 4], accessFlags := 1041 }

/-- the primitive int -/
def k7 : Class := { plain "int" none with kind := .primitive 'I', accessFlags := 0x411 }
/-- [I -/
def k8 : Class := { plain "[I" (some 0) with kind := .array 7 .int, interfaces := #[3, 4], accessFlags := 1041 }

def heap : Heap := #[]
def classes : Array Class := #[k0, k1, k2, k3, k4, k5, k6, k7, k8]
def interned : List (Array UInt16 × Addr) := []
def slotsUsed : Nat := 0
def theMethod : MethodId := ⟨1, 1⟩
def args0 : Array Value := #[.int 5, .int 7, .int 3, .int 2]
def aboutOver (below : List Frame) : State where
  vm := { classes := classes, interned := interned.toArray }
  heap := heap
  slotsUsed := slotsUsed
  threads := #[{ frames := .invoking theMethod args0 :: below }]
def below0 : List Frame := [.native { method := ⟨0, 0⟩, args := #[] }]
def about1 : State := aboutOver below0
def p0 : Program := .bare "" "" ""
def e0 : Env := launch0.env 0 0 0
theorem w_frames : about1.frames = Frame.invoking theMethod args0 :: below0 := rfl
set_option maxRecDepth 65536 in
theorem w_args : argsFit about1.vm theMethod args0 = true := by decide +kernel
set_option maxRecDepth 65536 in
theorem w_heap : heapFits about1 = true := by decide +kernel
set_option maxRecDepth 65536 in
theorem w_runnable : about1.curStatus? = some .runnable := by decide +kernel
set_option maxRecDepth 65536 in
theorem w_alone : about1.alone = true := by decide +kernel
set_option maxRecDepth 65536 in
theorem w_named : about1.methodNamed? x = some theMethod := by decide +kernel
set_option maxRecDepth 65536 in
theorem w_hears : about1.hears theMethod below0 = true := by decide +kernel
set_option maxRecDepth 65536 in
theorem w_ripe : about1.ripe theMethod args0 below0 = true := by decide +kernel
theorem w_running : about1.status = .running := rfl
set_option maxRecDepth 65536 in
theorem w_room : about1.hasRoom e0.platform room_1 = true :=
  launch0.hasRoom_least _ room_1 (by decide +kernel) (by decide +kernel) (by decide +kernel) (by decide +kernel) (by decide +kernel) (by decide +kernel)
theorem allAtoms_all (ts : List Jvm.Cond) (a : Array Jvm.Value) (st : Jvm.State) : (allAtoms ts).before a st = ts.all (fun c => c.before a st) := by
  induction ts with
  | nil => rfl
  | cons c t ih =>
    show (Jvm.Cond.and c (allAtoms t)).before a st = _
    rw [Jvm.Cond.before_and, ih, List.all_cons]
def words1 : List Jvm.Cond := Jvm.Cond.code x code maxLocals ret :: tables_1
/-- a 'code' word, met by the world's own term for the bytes: nothing is compared byte by byte -/
theorem code_word {y : MethodName} {bytes : ByteArray} {mx : Nat} {rt : Option FieldType} {a : Array Value} {s : State} {m : MethodId} {meth : Method} {c : Code} (h1 : s.methodNamed? y = some m) (h2 : s.vm.method? m = some meth) (h3 : meth.code = some c) (h4 : c.code = bytes)
    (h5 : (c.maxLocals == mx && c.exceptionTable.isEmpty && decide (c.maxStack ≤ mostOperands) && decide (meth.sig.returnType = rt) && !meth.locks && decide (parseMethodDescriptor y.desc = some meth.sig)) = true) : (Jvm.Cond.code y bytes mx rt).before a s = true := by
  simp only [Bool.and_eq_true, beq_iff_eq, Bool.not_eq_true', decide_eq_true_eq] at h5
  obtain ⟨⟨⟨⟨⟨g1, g2⟩, g3⟩, g4⟩, g5⟩, g6⟩ := h5
  simp [Cond.before, Cond.holds, Cond.value, h1, h2, h3, h4, g1, g2, g3, g4, g5, g6]
def isCode : Jvm.Cond → Bool
  | .code _ _ _ _ => true
  | _ => false
theorem all_split {L : List Jvm.Cond} {P : Jvm.Cond → Bool} (h1 : L.all (fun c => isCode c || P c) = true) (h2 : ∀ c ∈ L.filter isCode, P c = true) : L.all P = true := by
  refine List.all_eq_true.mpr fun c hc => ?_
  have h := List.all_eq_true.mp h1 c hc
  rcases Bool.eq_false_or_eq_true (isCode c) with hi | hi
  · exact h2 c (List.mem_filter.mpr ⟨hc, hi⟩)
  · simpa [hi] using h
set_option maxRecDepth 65536 in
theorem w_c0 : (Jvm.Cond.code x code maxLocals ret).before args0 about1 = true := code_word (m := ⟨1, 1⟩) (meth := k1m1) (c := k1c1) (by decide +kernel) rfl rfl rfl (by decide +kernel)
set_option maxRecDepth 65536 in
theorem w_c1 : (Jvm.Cond.code ({ cls := "com/example/numbersieve/numbersieve/EntryCodec", name := "entryBytes", desc := "(ZI)I" } : Jvm.MethodName) prog_16_method_2_code (2 : Nat) (Option.some Jvm.ClassFile.FieldType.int)).before args0 about1 = true := code_word (m := ⟨2, 1⟩) (meth := k2m1) (c := k2c1) (by decide +kernel) rfl rfl rfl (by decide +kernel)
set_option maxRecDepth 65536 in
theorem w_c2 : (Jvm.Cond.code ({ cls := "com/example/numbersieve/numbersieve/EntryCodec", name := "encode", desc := "([BIZ[BII)I" } : Jvm.MethodName) prog_16_method_3_code (10 : Nat) (Option.some Jvm.ClassFile.FieldType.int)).before args0 about1 = true := code_word (m := ⟨2, 2⟩) (meth := k2m2) (c := k2c2) (by decide +kernel) rfl rfl rfl (by decide +kernel)
def codes1 : List Jvm.Cond := [Jvm.Cond.code x code maxLocals ret, Jvm.Cond.code ({ cls := "com/example/numbersieve/numbersieve/EntryCodec", name := "entryBytes", desc := "(ZI)I" } : Jvm.MethodName) prog_16_method_2_code (2 : Nat) (Option.some Jvm.ClassFile.FieldType.int), Jvm.Cond.code ({ cls := "com/example/numbersieve/numbersieve/EntryCodec", name := "encode", desc := "([BIZ[BII)I" } : Jvm.MethodName) prog_16_method_3_code (10 : Nat) (Option.some Jvm.ClassFile.FieldType.int)]
set_option maxRecDepth 65536 in
theorem codes_eq : words1.filter isCode = codes1 := rfl
theorem w_codes : ∀ c ∈ words1.filter isCode, c.before args0 about1 = true := by
  rw [codes_eq]
  intro c hc
  simp only [codes1, List.mem_cons, List.not_mem_nil, or_false] at hc
  rcases hc with rfl | rfl | rfl
  · exact w_c0
  · exact w_c1
  · exact w_c2
set_option maxRecDepth 65536 in
theorem w_t1 : words1.all (fun c => isCode c || c.before args0 about1) = true := by decide +kernel
theorem w_tables : (allAtoms (Jvm.Cond.code x code maxLocals ret :: tables_1)).before args0 about1 = true := by
  rw [allAtoms_all]
  show words1.all (fun c => c.before args0 about1) = true
  refine all_split ?_ w_codes
  rw [w_t1]
set_option maxRecDepth 65536 in
theorem w_case : (Jvm.Cond.and given_1 narrow_1).before args0 about1 = true := by decide +kernel
theorem w_applies : (headSpec (Jvm.Cond.code x code maxLocals ret :: tables_1) room_1).applies x e0.platform about1 = true :=
  (Spec.applies_iff w_frames).mpr ⟨w_running, w_runnable, w_alone, w_named, w_hears, w_ripe, w_room, w_tables⟩
theorem atStart : AtStart classFile x code maxLocals ret World_1 tables_1 room_1 Calls_1 rest_1 Pre_1 launch0 p0 e0 about1 theMethod args0 below0 :=
  ⟨lists_1, trivial, launch0.admits_env _ _ _, launch0.least_env, fairChoices_fair.cas, fairChoices_fair.clock, w_frames, w_args, w_heap, w_applies, trivial, trivial, w_case⟩
end start1
theorem witness_1 : WitnessClaimed_1 := ⟨start1.p0, start1.e0, start1.about1, start1.theMethod, start1.args0, start1.below0, start1.atStart⟩
end Jvm.Pilot.@@N@@
