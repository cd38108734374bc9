import JvmDerived
import JvmDerived.Pilot.@@N@@Statement
import JvmDerived.Pilot.@@N@@Code
set_option linter.unusedVariables false
set_option linter.unusedSimpArgs false
namespace Jvm.RoadKit
open Sem ClassFile Op Lib Jvm.Stand Jvm.Free Jvm.LawKit
section New
variable {p : Program} {l : Launch} {e : Env} {R : Room} {s : State} {m : MethodId} {args : Array Value} {below : List Frame} {meth : Method} {c : Code} {T : State} {locs : List Loc} {cells slots : Nat}
theorem retI (X : Stand p l e R s m args below meth c T locs cells slots) (hx : p.tables.exec = Jvm.exec) {pc : Nat} {Ls : Array Slot} {z : Int32} {rest : List Value} (hret : meth.sig.returnType = some .int) (hd : decode c.code pc = .ok (.ireturn, 1)) {fs : List Frame}
    (hl : ∀ (f : JFrame) (acts : List Action), f.method = m → f.locked = none → f.entered = [] → (doReturn e (T.setTop f) acts (some (.int z))).1 = T.setFrames fs) : Steps p.tables e below (T.setTop (mkF m pc Ls (.int z :: rest))) (T.setFrames fs) := by
  have hm' : T.vm.method? m = some meth := X.method'
  have hn : narrow .int (.int z) = .int z := rfl
  show Steps p.tables e below (T.setTop { method := m, pc := pc, locals := Ls, stack := _ :: rest, locked := none }) _
  jvm_step X.here [X.here.top, hx, hd, hm', hret, hn]
  first | (intro acts; rw [hl _ acts rfl rfl rfl]) | rw [hl _ _ rfl rfl rfl]
  exact Steps.refl _
end New
end Jvm.RoadKit
namespace Jvm.Pilot.@@N@@
open Jvm Jvm.ClassFile Sem Op Lib Jvm.Free Jvm.Stand Jvm.LawKit Jvm.RoadKit Bundle Jvm.Pilot.@@N@@.Jvm.D
/-! ### the frame of this text: 'Ends': the run from u ends in a return that Q says -/
section OwnFrame
variable {p : Program} {l : Launch} {e : Env} {R : Room} {s : State} {m : MethodId} {args : Array Value} {below : List Frame} {meth : Method} {c : Code} {T : State} {locs : List Loc} {cells slots cs ss : Nat} {Z : State} {a0 : Array Value} {h h' : Heap} {Q : Option Value → Heap → List Loc → Prop} {u u' : State}
def Ends (p : Program) (e : Env) (below : List Frame) (s : State) (cs ss : Nat) (Q : Option Value → Heap → List Loc → Prop) (u : State) : Prop :=
  ∃ t v L, Steps p.tables e below u t ∧ t.status = .running ∧ Ended t below (.returned v) ∧ Q v t.heap L ∧ s.WarmedH t.vm ∧ s.sameButNew ({ t with vm := s.vm } : State) L cs ss
theorem Ends.step (h : Ends p e below s cs ss Q u') (k : ∀ t, Steps p.tables e below u' t → Steps p.tables e below u t) : Ends p e below s cs ss Q u := by
  obtain ⟨t, v, L, h1, r⟩ := h; exact ⟨t, v, L, k t h1, r⟩
theorem Ends.ret (X : Stand p l e R s m args below meth c T locs cells slots) {v : Option Value} (hv : meth.sig.returnType = none → v = none) (hlk : meth.locks = false)
    (k : ∀ fs, (∀ (f : JFrame) (acts : List Action), f.method = m → f.locked = none → f.entered = [] → (doReturn e (T.setTop f) acts v).1 = T.setFrames fs) → Steps p.tables e below u (T.setFrames fs))
    (hc : cells ≤ cs) (hs : slots ≤ ss) (hq : Q v T.heap locs) : Ends p e below s cs ss Q u := by
  obtain ⟨fs, hr, hrun, hended, hW, hsame⟩ := X.leave (v := v) hv hlk
  exact ⟨T.setFrames fs, v, locs, k fs hr, hrun, hended, hq, hW, hsame.mono hc hs⟩
/-- what a body promises -/
abbrev Meets (l : Launch) (Z : State) (y : MethodName) (bytes : ByteArray) (maxL : Nat) (ret : Option FieldType) (ws : List Jvm.Cond) (rm : Room) (as' : Array Value) (h : Heap) (Q : Option Value → Heap → List Loc → Prop) (cs ss : Nat) : Prop :=
  MetFree l y (head1 (Jvm.Cond.code y bytes maxL ret :: ws) rm) (fun a U => a = as' ∧ Z.Warmed39 U.vm ∧ U.heap = h) (fun _ _ _ _ _ => True) (fun _ U o U' => ∃ v L, o = .returned v ∧ Q v U'.heap L ∧ FrameEnd U o U' L cs ss)
theorem Meets.of {y : MethodName} {bytes : ByteArray} {maxL : Nat} {ret : Option FieldType} {ws : List Jvm.Cond} {rm : Room} {as' : Array Value} (pn : plainFor y = true)
    (k : ∀ (p : Program) (e : Env) (s : State) (m : MethodId) (below : List Frame) (meth : Method) (c : Code) (s₁ : State), p.tables.exec = Jvm.exec → c.code = bytes → c.maxLocals = maxL → Z.Warmed39 s.vm → s.vm.findClass y.cls = some m.cls → meth.name = y.name → meth.sig.returnType = ret → meth.locks = false →
      Stand p l e rm s m as' below meth c s₁ [] 0 0 → s₁.heap = h → Ends p e below s cs ss Q (s₁.setTop (entryFrame m as' maxL))) : Meets l Z y bytes maxL ret ws rm as' h Q cs ss := by
  refine MetFree.of_bodySF pn hisR ?_
  intro p e s m args below meth c s₁ Bd hml0 hP hK
  obtain ⟨rfl, hZ, hh⟩ := hP
  obtain ⟨t, v, L, h1, h2, h3, h4, h5, h6⟩ := k p e s m below meth c s₁ Bd.exec Bd.bytes hml0 hZ (findClass_of_methodNamed Bd.named) (name_of_methodNamed Bd.named Bd.method).1 Bd.returns (BodyLoose.notSynchronized Bd) (Stand.of_body Bd) (by rw [← hh, Bd.state]; rfl)
  exact ⟨t, .returned v, h1, h2, h3, v, L, rfl, h4, ⟨_, rfl⟩, h5, h6⟩
theorem Ends.callS (X : Stand p l e R s m args below meth c T locs cells slots) (hx : p.tables.exec = Jvm.exec) (hZ : Z.Warmed39 s.vm) {own : String} {index : Nat} {y : MethodName} {bytes : ByteArray} {maxL : Nat} {ret : Option FieldType}
    (hown : s.vm.findClass own = some m.cls) (w1 : (Jvm.Cond.methodLink own index y).before a0 Z = true) (w2 : (Jvm.Cond.static y).before a0 Z = true) (w3 : (Jvm.Cond.initialized y.cls).before a0 Z = true) (w4 : (Jvm.Cond.code y bytes maxL ret).before a0 Z = true)
    (hy : y.cls ≠ "java/lang/invoke/MethodHandle" ∧ y.cls ≠ "java/lang/invoke/VarHandle") {rm : Room} {as' : Array Value} {Q' : Option Value → Heap → List Loc → Prop} (hM : Meets l Z y bytes maxL ret [] rm as' h Q' rm.cells rm.slots)
    (W : Nat) (hf : rm.frames + 1 ≤ R.frames) (hl : W + (maxL + 11) + rm.locals ≤ R.locals) (eT : T.heap = h) {g : JFrame} (hg : g.method = m) (hsize : g.locals.size = c.maxLocals) (argsL rest : List Value)
    (hlen : ∀ sig, parseMethodDescriptor y.desc = some sig → argsL.length = sig.parameters.length) (hstack : g.stack = argsL.reverse ++ rest) (hW : 2 * g.monitorRoom + (rest.map fun v => v.category).sum ≤ W) (hdg : decode c.code g.pc = .ok (.invokestatic index, 3))
    (ha : argsL.toArray = as') (hc : cells + rm.cells ≤ R.cells) (hs : slots + rm.slots ≤ R.slots)
    (k : ∀ v T' L, Stand p l e R s m args below meth c T' (locs ++ L) (cells + rm.cells) (slots + rm.slots) → Q' v T'.heap L → Ends p e below s cs ss Q (T'.setTop { g with pc := g.pc + 3, stack := v.toList ++ rest })) : Ends p e below s cs ss Q (T.setTop g) := by
  obtain ⟨v, _, ⟨T', L', k', n'⟩, -, X', ⟨Lc, hQ, rfl, rfl, rfl⟩, st⟩ := Jvm.LawKit.callS X hx (y := y) hown (mvT hZ w1) (mvT hZ w2) (mvT hZ w3) (mvT hZ w4) hy (backOf (W := W) hM hZ w4 w3 hf hl) hg hsize (argsL := argsL) (rest := rest) hlen hstack hW hdg (fun _ _ => ⟨ha, eT, hc, hs⟩)
  exact (k v T' Lc X' hQ).step st
theorem Ends.callC (X : Stand p l e R s m args below meth c T locs cells slots) (hx : p.tables.exec = Jvm.exec) (hZ : Z.Warmed39 s.vm) {own : String} {index : Nat} {y : MethodName} {bytes : ByteArray} {maxL : Nat} (hy1 : y.name = "<init>")
    (hown : s.vm.findClass own = some m.cls) (w1 : (Jvm.Cond.methodLink own index y).before a0 Z = true) (w2 : (Jvm.Cond.instanceMethod y).before a0 Z = true) (w3 : (Jvm.Cond.initialized y.cls).before a0 Z = true) (w4 : (Jvm.Cond.code y bytes maxL none).before a0 Z = true)
    (hy : y.cls ≠ "java/lang/invoke/MethodHandle" ∧ y.cls ≠ "java/lang/invoke/VarHandle") {rm : Room} {as' : Array Value} {Q' : Option Value → Heap → List Loc → Prop} (hM : Meets l Z y bytes maxL none [] rm as' h Q' rm.cells rm.slots)
    (W : Nat) (hf : rm.frames + 1 ≤ R.frames) (hl : W + (maxL + 11) + rm.locals ≤ R.locals) (eT : T.heap = h) {g : JFrame} (hg : g.method = m) (hsize : g.locals.size = c.maxLocals) (a : Addr) (argsL rest : List Value)
    (hlen : ∀ sig, parseMethodDescriptor y.desc = some sig → argsL.length = sig.parameters.length) (hstack : g.stack = argsL.reverse ++ .ref a :: rest) (hW : 2 * g.monitorRoom + (rest.map fun v => v.category).sum ≤ W) (hdg : decode c.code g.pc = .ok (.invokespecial index, 3))
    (ha : (.ref a :: argsL).toArray = as') (hc : cells + rm.cells ≤ R.cells) (hs : slots + rm.slots ≤ R.slots)
    (k : ∀ v T' L, Stand p l e R s m args below meth c T' (locs ++ L) (cells + rm.cells) (slots + rm.slots) → Q' v T'.heap L → Ends p e below s cs ss Q (T'.setTop { g with pc := g.pc + 3, stack := v.toList ++ rest })) : Ends p e below s cs ss Q (T.setTop g) := by
  obtain ⟨v, _, ⟨T', L', k', n'⟩, -, X', ⟨Lc, hQ, rfl, rfl, rfl⟩, st⟩ := X.specialBack hx (y := y) hy1 hown (mvT hZ w1) (mvT hZ w2) (mvT hZ w4) hy (backOf (W := W) hM hZ w4 w3 hf hl) hg hsize (Steps.refl _) (a := a) (argsL := argsL) (rest := rest) hlen hstack hW hdg (fun _ _ => ⟨ha, eT, hc, hs⟩)
  exact (k v T' Lc X' hQ).step (fun _ q => st.trans q)
theorem Ends.callV (X : Stand p l e R s m args below meth c T locs cells slots) (hx : p.tables.exec = Jvm.exec) (hZ : Z.Warmed39 s.vm) {own C : String} {index : Nat} {y : MethodName} {bytes : ByteArray} {maxL : Nat} {ret : Option FieldType}
    (hown : s.vm.findClass own = some m.cls) (w1 : (Jvm.Cond.methodLink own index y).before a0 Z = true) (wd : (Jvm.Cond.declares y).before a0 Z = true) (wsel : (Jvm.Cond.selects C y y).before a0 Z = true) (w2 : (Jvm.Cond.instanceMethod y).before a0 Z = true) (w3 : (Jvm.Cond.initialized y.cls).before a0 Z = true) (w4 : (Jvm.Cond.code y bytes maxL ret).before a0 Z = true)
    (hy : y.cls ≠ "java/lang/invoke/MethodHandle" ∧ y.cls ≠ "java/lang/invoke/VarHandle") {rm : Room} {as' : Array Value} {Q' : Option Value → Heap → List Loc → Prop} (hM : Meets l Z y bytes maxL ret [] rm as' h Q' rm.cells rm.slots)
    (W : Nat) (hf : rm.frames + 1 ≤ R.frames) (hl : W + (maxL + 11) + rm.locals ≤ R.locals) (eT : T.heap = h) (a : Addr) (E : Exa Z h a C) {g : JFrame} (hg : g.method = m) (hsize : g.locals.size = c.maxLocals) (argsL rest : List Value)
    (hlen : ∀ sig, parseMethodDescriptor y.desc = some sig → argsL.length = sig.parameters.length) (hstack : g.stack = argsL.reverse ++ .ref a :: rest) (hW : 2 * g.monitorRoom + (rest.map fun v => v.category).sum ≤ W) (hdg : decode c.code g.pc = .ok (.invokevirtual index, 3))
    (ha : (.ref a :: argsL).toArray = as') (hc : cells + rm.cells ≤ R.cells) (hs : slots + rm.slots ≤ R.slots)
    (k : ∀ v T' L, Stand p l e R s m args below meth c T' (locs ++ L) (cells + rm.cells) (slots + rm.slots) → Q' v T'.heap L → Ends p e below s cs ss Q (T'.setTop { g with pc := g.pc + 3, stack := v.toList ++ rest })) : Ends p e below s cs ss Q (T.setTop g) := by
  obtain ⟨cq, kq, q1, q2, q3⟩ := isOf (T := T) hZ eT E
  obtain ⟨v, _, ⟨T', L', k', n'⟩, -, X', ⟨Lc, hQ, rfl, rfl, rfl⟩, st⟩ := X.virtualBack hx (y := y) (z := y) hown (mvT hZ w1) (mvT hZ wd) (notFace_of_selects (args := #[]) (mvT hZ wsel)) (mvT hZ wsel) (mvT hZ w2) hy (backOf (W := W) hM hZ w4 w3 hf hl) q1 q3 hg hsize (Steps.refl _) (argsL := argsL) (rest := rest) hlen hstack hW hdg (fun _ _ => ⟨ha, eT, hc, hs⟩)
  exact (k v T' Lc X' hQ).step (fun _ q => st.trans q)
/-! ### arrays of small numbers: what each place holds, as a function -/
def Ar (Z : State) (h : Heap) (a : Addr) (ty : FieldType) (n : Nat) (f : Nat → Int32) : Prop := ∃ cl : Cell, Arr Z h a cl ty ∧ cl.slots.size = n ∧ n < 2 ^ 31 ∧ ∀ i, i < n → cl.slots[i]? = some (.int (f i))
def upd (f : Nat → Int32) (j : Nat) (v : Int32) : Nat → Int32 := fun i => if i = j then v else f i
def inb (j : Int32) (n : Nat) : Prop := ¬ (j < 0 ∨ n ≤ j.toNatClampNeg)
variable {a b : Addr} {ty : FieldType} {n sl : Nat} {f : Nat → Int32} {v : Value} {wsA : List Addr}
theorem Ar.lt (A : Ar Z h a ty n f) : a < h.size := by obtain ⟨cl, A1, -⟩ := A; exact A1.lt
theorem Ar.ext (A : Ar Z h a ty n f) (E : Ext h h') : Ar Z h' a ty n f := by obtain ⟨cl, A1, r⟩ := A; exact ⟨cl, A1.ext E, r⟩
theorem Ar.other (A : Ar Z h b ty n f) (W : Wr h h' a sl v) (q : b ≠ a) : Ar Z h' b ty n f := by obtain ⟨cl, A1, r⟩ := A; exact ⟨cl, A1.other W q, r⟩
theorem Ar.keep (A : Ar Z h a ty n f) (K : Keep h h' wsA) (q : a ∉ wsA) : Ar Z h' a ty n f := by obtain ⟨cl, A1, r⟩ := A; exact ⟨cl, ⟨K.2.1 a cl A1.1 q, A1.2⟩, r⟩
theorem Ar.small (A : Ar Z h a ty n f) : n < 2 ^ 31 := by obtain ⟨cl, A1, -, r, -⟩ := A; exact r
theorem Ar.set {j : Int32} {x : Int32} (A : Ar Z h a ty n f) (W : Wr h h' a j.toNatClampNeg (.int x)) : Ar Z h' a ty n (upd f j.toNatClampNeg x) := by
  obtain ⟨cl, A1, r1, r2, r3⟩ := A
  refine ⟨_, A1.same W, by rw [sz_set]; exact r1, r2, fun i hi => ?_⟩
  by_cases q : i = j.toNatClampNeg
  · subst q; simp [Cell.setSlot, upd, r1, hi]
  · simp only [Cell.setSlot, upd, if_neg q]; rw [Array.getElem?_setIfInBounds_ne (fun z => q z.symm)]; exact r3 i hi
theorem Ar.new {cA : ClassId} {k : Int32} (A : Arr Z h a (newA cA ty k) ty) (q : ¬ k < 0) (hd : defaultValue ty = .int 0) : Ar Z h a ty k.toNatClampNeg (fun _ => 0) :=
  ⟨_, A, sz_new _ _ _, (back32 q).2, fun i hi => by simp [newA, hi, hd]⟩
theorem Ends.newA (X : Stand p l e R s m args below meth c T locs cells slots) (hx : p.tables.exec = Jvm.exec) (hZ : Z.Warmed39 s.vm) {aty : ArrayType} (w : (Jvm.Cond.arrayClass (newarray.typeOf aty)).before a0 Z = true) (eT : T.heap = h) {g : JFrame} (hg : g.method = m) (hd : decode c.code g.pc = .ok (.newarray aty, 2)) {k : Int32} {rest : List Value} (hs : g.stack = .int k :: rest)
    (hdf : defaultValue (newarray.typeOf aty) = .int 0) (hn : ¬ k < 0) (cap : Nat) (hcap : k.toNatClampNeg ≤ cap) (hb : cap * 8 ≤ 536870912) (hc : cells + 1 ≤ R.cells) (hl : slots + cap ≤ R.slots)
    (kk : ∀ T' h' a, Stand p l e R s m args below meth c T' locs (cells + 1) (slots + cap) → T'.heap = h' → Ext h h' → h.size = a → Ar Z h' a (newarray.typeOf aty) k.toNatClampNeg (fun _ => 0) → Ends p e below s cs ss Q (T'.setTop { g with pc := g.pc + 2, stack := .ref a :: rest })) : Ends p e below s cs ss Q (T.setTop g) := by
  obtain ⟨T', h', cA, X', e', E, A, st⟩ := newP X hx hZ w eT hg hd hs hn hcap hb hc hl
  exact (kk T' h' h.size X' e' E rfl (Ar.new A hn hdf)).step st
theorem Ends.iaload (X : Stand p l e R s m args below meth c T locs cells slots) (hx : p.tables.exec = Jvm.exec) (hZ : Z.Warmed39 s.vm) (eT : T.heap = h) (A : Ar Z h a .int n f) {j : Int32} (hj : inb j n) {g : JFrame} (hg : g.method = m) {rest : List Value} (hs : g.stack = .int j :: .ref a :: rest) (hd : decode c.code g.pc = .ok (.iaload, 1))
    (k : Ends p e below s cs ss Q (T.setTop { g with pc := g.pc + 1, stack := .int (f j.toNatClampNeg) :: rest })) : Ends p e below s cs ss Q (T.setTop g) := by
  obtain ⟨cl, A1, r1, -, r3⟩ := A
  subst r1
  exact k.step (X.iaload hx (by rw [eT]; exact A1.1) (State.isArrayOf_alike hZ.alike A1.2.1) A1.2.2 hj (r3 _ (Nat.lt_of_not_le fun q => hj (Or.inr q))) hg hs hd)
theorem Ends.baload (X : Stand p l e R s m args below meth c T locs cells slots) (hx : p.tables.exec = Jvm.exec) (hZ : Z.Warmed39 s.vm) (eT : T.heap = h) (A : Ar Z h a .byte n f) {j : Int32} (hj : inb j n) {g : JFrame} (hg : g.method = m) {rest : List Value} (hs : g.stack = .int j :: .ref a :: rest) (hd : decode c.code g.pc = .ok (.baload, 1))
    (k : Ends p e below s cs ss Q (T.setTop { g with pc := g.pc + 1, stack := .int (f j.toNatClampNeg) :: rest })) : Ends p e below s cs ss Q (T.setTop g) := by
  obtain ⟨cl, A1, r1, -, r3⟩ := A
  subst r1
  exact k.step (X.baloadBytes hx (by rw [eT]; exact A1.1) (State.isArrayOf_alike hZ.alike A1.2.1) A1.2.2 hj (r3 _ (Nat.lt_of_not_le fun q => hj (Or.inr q))) hg hs hd)
theorem Ends.arrlen (X : Stand p l e R s m args below meth c T locs cells slots) (hx : p.tables.exec = Jvm.exec) (hZ : Z.Warmed39 s.vm) (eT : T.heap = h) (A : Ar Z h a ty n f) {g : JFrame} (hg : g.method = m) {rest : List Value} (hs : g.stack = .ref a :: rest) (hd : decode c.code g.pc = .ok (.arraylength, 1))
    (k : Ends p e below s cs ss Q (T.setTop { g with pc := g.pc + 1, stack := .int (Nat.toInt32 n) :: rest })) : Ends p e below s cs ss Q (T.setTop g) := by
  obtain ⟨cl, A1, r1, -, r3⟩ := A
  subst r1
  exact k.step (X.arraylength hx (by rw [eT]; exact A1.1) (State.isArrayOf_alike hZ.alike A1.2.1) hg hs hd)
theorem Ends.iastore (X : Stand p l e R s m args below meth c T locs cells slots) (hx : p.tables.exec = Jvm.exec) (hZ : Z.Warmed39 s.vm) (eT : T.heap = h) (A : Ar Z h a .int n f) {j x : Int32} (hj : inb j n) {n0 : Nat} (N : Fr n0 locs) (ge : n0 ≤ a) {g : JFrame} (hg : g.method = m) {rest : List Value} (hs : g.stack = .int x :: .int j :: .ref a :: rest) (hd : decode c.code g.pc = .ok (.iastore, 1))
    (k : ∀ T' h' sl, Stand p l e R s m args below meth c T' (locs ++ [⟨a, sl⟩]) cells slots → T'.heap = h' → Fr n0 (locs ++ [⟨a, sl⟩]) → Wr h h' a sl (.int x) → Ar Z h' a .int n (upd f j.toNatClampNeg x) → Ends p e below s cs ss Q (T'.setTop { g with pc := g.pc + 1, stack := rest })) : Ends p e below s cs ss Q (T.setTop g) := by
  obtain ⟨cl, A1, r1, r2, r3⟩ := A
  obtain ⟨T', h', X', e', W, st⟩ := stI X hx hZ eT A1 (by rw [r1]; exact hj) hg hs hd
  exact (k T' h' _ X' e' (Fr.snoc X' N ge) W (Ar.set ⟨cl, A1, r1, r2, r3⟩ W)).step st
theorem Ends.bastore (X : Stand p l e R s m args below meth c T locs cells slots) (hx : p.tables.exec = Jvm.exec) (hZ : Z.Warmed39 s.vm) (eT : T.heap = h) (A : Ar Z h a .byte n f) {j x : Int32} (hj : inb j n) {n0 : Nat} (N : Fr n0 locs) (ge : n0 ≤ a) {g : JFrame} (hg : g.method = m) {rest : List Value} (hs : g.stack = .int x :: .int j :: .ref a :: rest) (hd : decode c.code g.pc = .ok (.bastore, 1))
    (k : ∀ T' h' sl, Stand p l e R s m args below meth c T' (locs ++ [⟨a, sl⟩]) cells slots → T'.heap = h' → Fr n0 (locs ++ [⟨a, sl⟩]) → Wr h h' a sl (.int (nar .byte x)) → Ar Z h' a .byte n (upd f j.toNatClampNeg (nar .byte x)) → Ends p e below s cs ss Q (T'.setTop { g with pc := g.pc + 1, stack := rest })) : Ends p e below s cs ss Q (T.setTop g) := by
  obtain ⟨cl, A1, r1, r2, r3⟩ := A
  obtain ⟨T', h', X', e', W, st⟩ := stB X hx hZ eT A1 (by rw [r1]; exact hj) hg hs hd
  exact (k T' h' _ X' e' (Fr.snoc X' N ge) W (Ar.set ⟨cl, A1, r1, r2, r3⟩ W)).step st
theorem Ends.getF (X : Stand p l e R s m args below meth c T locs cells slots) (hx : p.tables.exec = Jvm.exec) (hZ : Z.Warmed39 s.vm) {own O fn d : String} {index : Nat} (hown : s.vm.findClass own = some m.cls) (w : (Jvm.Cond.fieldLink own index O fn d).before a0 Z = true) (eT : T.heap = h) (F : Fld Z h a O fn d v) {g : JFrame} (hg : g.method = m) {rest : List Value} (hs : g.stack = .ref a :: rest) (hd : decode c.code g.pc = .ok (.getfield index, 3))
    (k : ∀ T', Stand p l e R s m args below meth c T' locs cells slots → T'.heap = h → Ends p e below s cs ss Q (T'.setTop { g with pc := g.pc + 3, stack := v :: rest })) : Ends p e below s cs ss Q (T.setTop g) := by
  obtain ⟨T', X', e', st⟩ := Jvm.RoadKit.getF X hx hZ hown (host := "") (Or.inl w) Via.refl eT F hg hs hd
  exact (k T' X' e').step st
theorem Ends.putF (X : Stand p l e R s m args below meth c T locs cells slots) (hx : p.tables.exec = Jvm.exec) (hZ : Z.Warmed39 s.vm) {own O fn d : String} {index kk : Nat} {tf : FieldType} {old : Value} (hown : s.vm.findClass own = some m.cls) (w : (Jvm.Cond.fieldLink own index O fn d).before a0 Z = true) (eT : T.heap = h) (F : Fld Z h a O fn d old) (E : Exa Z h a O) (L : (Jvm.Cond.lays O O fn d).before a0 Z = true ∨ ((Jvm.Cond.laysFinal O O fn d).before a0 Z = true ∧ own = O ∧ meth.name = "<init>")) (wi : (Jvm.Cond.instantiable O kk).before a0 Z = true)
    (hty : parseFieldDescriptor d = some tf) (hn : narrow tf v = v) (hf : fits tf v = true) {n0 : Nat} (N : Fr n0 locs) (ge : n0 ≤ a) {g : JFrame} (hg : g.method = m) {rest : List Value} (hs : g.stack = v :: .ref a :: rest) (hd : decode c.code g.pc = .ok (.putfield index, 3))
    (k : ∀ T' h', Stand p l e R s m args below meth c T' (locs ++ [⟨a, Jvm.RoadKit.slotOf Z O fn d⟩]) cells slots → T'.heap = h' → Fr n0 (locs ++ [⟨a, Jvm.RoadKit.slotOf Z O fn d⟩]) → Wr h h' a (Jvm.RoadKit.slotOf Z O fn d) v → Ends p e below s cs ss Q (T'.setTop { g with pc := g.pc + 3, stack := rest })) : Ends p e below s cs ss Q (T.setTop g) := by
  obtain ⟨T', h', X', e', W, st⟩ := Jvm.RoadKit.putF X hx hZ hown (host := "") (Or.inl w) Via.refl eT F E L wi hty hn hf hg hs hd
  exact (k T' h' X' e' (Fr.snoc X' N ge) W).step st
theorem Ends.newO (X : Stand p l e R s m args below meth c T locs cells slots) (hx : p.tables.exec = Jvm.exec) (hZ : Z.Warmed39 s.vm) {own C : String} {index k : Nat} (hown : s.vm.findClass own = some m.cls) (w : (Jvm.Cond.classLink own index C).before a0 Z = true) (wi : (Jvm.Cond.instantiable C k).before a0 Z = true) (wz : (Jvm.Cond.initialized C).before a0 Z = true) (eT : T.heap = h)
    {g : JFrame} (hg : g.method = m) (hd : decode c.code g.pc = .ok (.new index, 3)) (hc : cells + 1 ≤ R.cells) (hl : slots + k ≤ R.slots)
    (kk : ∀ T' h' a, Stand p l e R s m args below meth c T' locs (cells + 1) (slots + k) → T'.heap = h' → Ext h h' → h.size = a → Exa Z h' a C → (∀ {O nm d : String} {ty : FieldType}, Laid Z a0 C O nm d → parseFieldDescriptor d = some ty → Fld Z h' a O nm d (defaultValue ty)) → Ends p e below s cs ss Q (T'.setTop { g with pc := g.pc + 3, stack := .ref a :: g.stack })) : Ends p e below s cs ss Q (T.setTop g) := by
  obtain ⟨T', h', X', e', E, A, D, -, st⟩ := Jvm.RoadKit.newO X hx hZ hown w wi wz eT hg hd hc hl
  exact (kk T' h' _ X' e' E rfl A D).step st
theorem Ends.initO (X : Stand p l e R s m args below meth c T locs cells slots) (hx : p.tables.exec = Jvm.exec) (hZ : Z.Warmed39 s.vm) {own : String} {idx : Nat} (hown : s.vm.findClass own = some m.cls) (w1 : (Jvm.Cond.methodLink own idx Lib.objectInit).before a0 Z = true) (w2 : (Jvm.Cond.instanceMethod Lib.objectInit).before a0 Z = true)
    (w3 : (Jvm.Cond.code Lib.objectInit ⟨#[0xb1]⟩ 1 none).before a0 Z = true) (eT : T.heap = h) {g : JFrame} (hg : g.method = m) (hsize : g.locals.size = c.maxLocals) {rest : List Value} (hs : g.stack = .ref a :: rest) (hd : decode c.code g.pc = .ok (.invokespecial idx, 3))
    (hf : 1 ≤ R.frames) (W : Nat) (hW : 2 * g.monitorRoom + (rest.map fun v => v.category).sum ≤ W) (hl : W + 12 ≤ R.locals)
    (k : ∀ T', Stand p l e R s m args below meth c T' locs cells slots → T'.heap = h → Ends p e below s cs ss Q (T'.setTop { g with pc := g.pc + 3, stack := rest })) : Ends p e below s cs ss Q (T.setTop g) := by
  obtain ⟨T', X', e', st⟩ := Jvm.RoadKit.initO X hx hZ hown w1 w2 w3 eT hg hsize hs hd hf hW hl
  exact (k T' X' e').step st
def OneS (o : Slot) : Prop := o = .unset ∨ ∃ w, o = .val w ∧ w.category = 1
theorem storeL {ls : Array Slot} {i : Nat} {x : Int64} {o o' : Slot} (h1 : ls[i]? = some o) (h2 : ls[i + 1]? = some o') (p1 : OneS o) (p2 : OneS o') : storeLocals ls i (.long x) = some ((ls.setIfInBounds i (.val (.long x))).setIfInBounds (i + 1) .second) := by
  have l1 : i < ls.size := (Array.getElem?_eq_some_iff.mp h1).1
  have l2 : i + 1 < ls.size := (Array.getElem?_eq_some_iff.mp h2).1
  have e2 : (ls.setIfInBounds i (.val (.long x)))[i + 1]? = some o' := by rw [Array.getElem?_setIfInBounds_ne (by omega)]; exact h2
  have q : storeSelf ls i (.long x) = some ((ls.setIfInBounds i (.val (.long x))).setIfInBounds (i + 1) .second) := by
    have cat : (Value.long x).category = 2 := rfl
    simp only [storeSelf, setAt, if_pos l1, cat, if_true, Option.bind_eq_bind, Option.bind_some, e2]
    rcases p2 with rfl | ⟨w, rfl, hw⟩
    · simp [l2]
    · simp [l2, hw]
  simp only [storeLocals, h1, Option.bind_eq_bind, Option.bind_some]
  rcases p1 with rfl | ⟨w, rfl, hw⟩
  · exact q
  · simp only [hw]; exact q
end OwnFrame
-- body 1
def F1 (p1 : Int64) (o0_state : Int64) : Int64 := p1
-- body 3
def F3_40 (co0_state : Int64) (x1 : Int64) : Int64 × Int64 := ((x1 ^^^ (XT.ushrL x1 (31 : Int32))), co0_state)
def F3_29 (co0_state : Int64) (x1 : Int64) : Int64 × Int64 := (F3_40 co0_state ((x1 ^^^ (XT.ushrL x1 (27 : Int32))) * (-7723592293110705685 : Int64)))
def F3 (o0_state : Int64) : Int64 × Int64 := (F3_29 (o0_state + (-7046029254386353131 : Int64)) (((o0_state + (-7046029254386353131 : Int64)) ^^^ (XT.ushrL (o0_state + (-7046029254386353131 : Int64)) (30 : Int32))) * (-4658895280553007687 : Int64)))
-- body 0
def F0_57  : Int32 := (nar .boolean (0 : Int32))
def F0_110  : Int32 := (nar .boolean (0 : Int32))
def F0_139 (t0 : Int32) : Int32 := (nar .boolean t0)
def F0_134  : Int32 := (F0_139 (1 : Int32))
def F0_138  : Int32 := (F0_139 (0 : Int32))
def F0_112  : Int32 := if (F3 (F1 (0 : Int64) (0 : Int64))).1 = (-2152535657050944081 : Int64) then F0_134 else F0_138
def F0_107 (t1 : Int32) (t0 : Int32) : Int32 := if t0 = t1 then F0_112 else F0_110
def F0_102 (t0 : Int32) : Int32 := (F0_107 (1 : Int32) t0)
def F0_106 (t0 : Int32) : Int32 := (F0_107 (0 : Int32) t0)
def F0_95 (x0 : Int64) (x14 : Int64) (t0 : Int32) : Int32 := if x14 = x0 then (F0_102 t0) else (F0_106 t0)
def F0_90 (x0 : Int64) (x14 : Int64) : Int32 := (F0_95 x0 x14 (1 : Int32))
def F0_94 (x0 : Int64) (x14 : Int64) : Int32 := (F0_95 x0 x14 (0 : Int32))
def F0_82 (x0 : Int64) (x7 : Int64) (x14 : Int64) (x17 : Int64) : Int32 := if x17 = x7 then (F0_90 x0 x14) else (F0_94 x0 x14)
def F0_64 (x0 : Int64) (x7 : Int64) (x14 : Int64) : Int32 := (F0_82 x0 x7 x14 (F3 (F1 x14 (0 : Int64))).1)
def F0_59 (x0 : Int64) (x2 : Int64) (x7 : Int64) : Int32 := (F0_64 x0 x7 (x0 ^^^ x2))
def F0_49 (x0 : Int64) (x2 : Int64) (x7 : Int64) (x9 : Int64) (x12 : Int64) : Int32 := if x9 = x12 then (F0_59 x0 x2 x7) else F0_57
def F0_29 (x0 : Int64) (x2 : Int64) (x4 : Int64) (x7 : Int64) (x9 : Int64) : Int32 := (F0_49 x0 x2 x7 x9 (F3 (F1 (x0 + x4) (0 : Int64))).1)
def F0_22 (cq5_state : Int64) (x0 : Int64) (x2 : Int64) (x4 : Int64) (x7 : Int64) : Int32 := (F0_29 x0 x2 x4 x7 (F3 cq5_state).1)
def F0 (p0 : Int64) (p1 : Int64) : Int32 := (F0_22 (F3 (F1 p0 (0 : Int64))).2 p0 p1 (-7046029254386353131 : Int64) (F3 (F1 p0 (0 : Int64))).1)
theorem pd_0 : parseMethodDescriptor "(J)V" = some ⟨[.long], none⟩ := by decide +kernel
theorem pd_1 : parseMethodDescriptor "()J" = some ⟨[], (some .long)⟩ := by decide +kernel
theorem d1_0 : decode prog_41_method_1_code 0 = .ok (.aload_n 0, 1) := by decide +kernel
theorem d1_1 : decode prog_41_method_1_code 1 = .ok (.invokespecial 1, 3) := by decide +kernel
theorem d1_4 : decode prog_41_method_1_code 4 = .ok (.aload_n 0, 1) := by decide +kernel
theorem d1_5 : decode prog_41_method_1_code 5 = .ok (.lload_n 1, 1) := by decide +kernel
theorem d1_6 : decode prog_41_method_1_code 6 = .ok (.putfield 7, 3) := by decide +kernel
theorem d1_9 : decode prog_41_method_1_code 9 = .ok (.return_, 1) := by decide +kernel
theorem pn_1 : plainFor (⟨"com/example/holywell/holywell/generate/Draws", "<init>", "(J)V"⟩ : MethodName) = true := by first | exact plainFor_of_name (by first | (simp [plainName, overriddenIn]; done) | decide +kernel) | decide +kernel
theorem ef_1 (m : MethodId) (y0 : Addr) (y1 : Int64) : entryFrame m #[(.ref y0), (.long y1)] 3 = mkF m 0 #[.val (.ref y0), .val (.long y1), .second] [] := by first | (simp [entryFrame, mkF, argsToLocals, Value.category]; done) | rfl
def Q1 (Z : State) (a_o0 : Addr) (o0_state : Int64) (h0 : Heap) (n0 : Nat) (ans : Int64) (v : Option Value) (h : Heap) (L : List Loc) : Prop := v = none ∧ Fr n0 L ∧ Keep h0 h [a_o0] ∧ Fld Z h a_o0 "com/example/holywell/holywell/generate/Draws" "state" "J" (.long ans)
set_option maxRecDepth 65536 in
set_option maxHeartbeats 40000000 in
theorem rm1 (l : Launch) (Z : State) (a0 : Array Value) (hw : ∀ d ∈ tables_1, d.before a0 Z = true) (p1 : Int64) (o0_state : Int64) (a_o0 : Addr) (h0 : Heap) (n0 : Nat) (Z0 : n0 ≤ h0.size) (E_o0 : Exa Z h0 a_o0 "com/example/holywell/holywell/generate/Draws") (F_o0_state : Fld Z h0 a_o0 "com/example/holywell/holywell/generate/Draws" "state" "J" (.long o0_state)) (g_o0 : n0 ≤ a_o0) :
    Meets l Z (⟨"com/example/holywell/holywell/generate/Draws", "<init>", "(J)V"⟩ : MethodName) prog_41_method_1_code 3 none [] ({ frames := 1, cells := 0, slots := 0, locals := 12 } : Room) #[(.ref a_o0), (.long p1)] h0 (Q1 Z a_o0 o0_state h0 n0 (F1 p1 o0_state)) 0 0 := by
  refine Meets.of pn_1 ?_
  intro p e s m below meth c s₁ hx hby hml hZ hown hnm hret hlk X0 e0
  have hml : c.maxLocals = 3 := hml
  have hown : s.vm.findClass "com/example/holywell/holywell/generate/Draws" = some m.cls := hown
  have N0 := Fr.nil n0
  have K0 := Keep.refl h0 [a_o0]
  refine Ends.step (u' := (s₁.setTop (mkF m 0 #[.val (.ref a_o0), .val (.long p1), .second] []))) ?_ (fun _ k => castTop (ef_1 m a_o0 p1) k)
  refine Ends.step (u' := (s₁.setTop (mkF m 1 #[.val (.ref a_o0), .val (.long p1), .second] [(.ref a_o0)]))) ?_ (fun _ k => XS.aloadN X0.here hx rfl (hb hby d1_0) rfl rfl k)
  refine Ends.initO X0 hx hZ hown (hw _ (List.mem_of_getElem? (i := 7) rfl)) (hw _ (List.mem_of_getElem? (i := 8) rfl)) (hw _ (List.mem_of_getElem? (i := 9) rfl)) e0 (g := (mkF m 1 #[.val (.ref a_o0), .val (.long p1), .second] [(.ref a_o0)])) rfl (by rw [hml]; rfl) rfl (hb hby d1_1) (by decide) 0 (by show 2 * 0 + _ ≤ _; exact Nat.le_of_eq rfl) (by decide) (fun T1 X1 e1 => ?_)
  show Ends p e below s _ _ _ (T1.setTop (mkF m 4 #[.val (.ref a_o0), .val (.long p1), .second] []))
  refine Ends.step (u' := (T1.setTop (mkF m 5 #[.val (.ref a_o0), .val (.long p1), .second] [(.ref a_o0)]))) ?_ (fun _ k => XS.aloadN X1.here hx rfl (hb hby d1_4) rfl rfl k)
  refine Ends.step (u' := (T1.setTop (mkF m 6 #[.val (.ref a_o0), .val (.long p1), .second] [(.long p1), (.ref a_o0)]))) ?_ (fun _ k => XT.lloadN X1.here hx rfl (hb hby d1_5) rfl k)
  refine Ends.putF X1 hx hZ hown (hw _ (List.mem_of_getElem? (i := 10) rfl)) e1 F_o0_state E_o0 (Or.inl (hw _ (List.mem_of_getElem? (i := 11) rfl))) (hw _ (List.mem_of_getElem? (i := 2) rfl)) (tf := .long) (by decide) rfl rfl N0 g_o0 (g := (mkF m 6 #[.val (.ref a_o0), .val (.long p1), .second] [(.long p1), (.ref a_o0)])) rfl rfl (hb hby d1_6) (fun T2 h2 X2 e2 N2 W2 => ?_)
  have Fd3 := F_o0_state.same W2
  have E4 := E_o0.wr W2
  show Ends p e below s _ _ _ (T2.setTop (mkF m 9 #[.val (.ref a_o0), .val (.long p1), .second] []))
  have Z5 : n0 ≤ h2.size := W2.size.symm ▸ Z0
  have K6 := K0.wr W2 (Or.inl (List.mem_of_getElem? (i := 0) rfl))
  exact Ends.ret X2 (v := none) (fun _ => rfl) hlk (fun fs hr => X2.returnOut hx hret (hb hby d1_9) hr) (by decide) (by decide) (by rw [e2]; exact ⟨rfl, N2, K6, Fd3⟩)
theorem d3_0 : decode prog_41_method_2_code 0 = .ok (.aload_n 0, 1) := by decide +kernel
theorem d3_1 : decode prog_41_method_2_code 1 = .ok (.dup, 1) := by decide +kernel
theorem d3_2 : decode prog_41_method_2_code 2 = .ok (.getfield 7, 3) := by decide +kernel
theorem d3_5 : decode prog_41_method_2_code 5 = .ok (.ldc2_w 13, 3) := by decide +kernel
theorem d3_8 : decode prog_41_method_2_code 8 = .ok (.ladd, 1) := by decide +kernel
theorem d3_9 : decode prog_41_method_2_code 9 = .ok (.putfield 7, 3) := by decide +kernel
theorem d3_12 : decode prog_41_method_2_code 12 = .ok (.aload_n 0, 1) := by decide +kernel
theorem d3_13 : decode prog_41_method_2_code 13 = .ok (.getfield 7, 3) := by decide +kernel
theorem d3_16 : decode prog_41_method_2_code 16 = .ok (.aload_n 0, 1) := by decide +kernel
theorem d3_17 : decode prog_41_method_2_code 17 = .ok (.getfield 7, 3) := by decide +kernel
theorem d3_20 : decode prog_41_method_2_code 20 = .ok (.bipush 30, 2) := by decide +kernel
theorem d3_22 : decode prog_41_method_2_code 22 = .ok (.lushr, 1) := by decide +kernel
theorem d3_23 : decode prog_41_method_2_code 23 = .ok (.lxor, 1) := by decide +kernel
theorem d3_24 : decode prog_41_method_2_code 24 = .ok (.ldc2_w 15, 3) := by decide +kernel
theorem d3_27 : decode prog_41_method_2_code 27 = .ok (.lmul, 1) := by decide +kernel
theorem d3_28 : decode prog_41_method_2_code 28 = .ok (.lstore_n 1, 1) := by decide +kernel
theorem d3_29 : decode prog_41_method_2_code 29 = .ok (.lload_n 1, 1) := by decide +kernel
theorem d3_30 : decode prog_41_method_2_code 30 = .ok (.lload_n 1, 1) := by decide +kernel
theorem d3_31 : decode prog_41_method_2_code 31 = .ok (.bipush 27, 2) := by decide +kernel
theorem d3_33 : decode prog_41_method_2_code 33 = .ok (.lushr, 1) := by decide +kernel
theorem d3_34 : decode prog_41_method_2_code 34 = .ok (.lxor, 1) := by decide +kernel
theorem d3_35 : decode prog_41_method_2_code 35 = .ok (.ldc2_w 17, 3) := by decide +kernel
theorem d3_38 : decode prog_41_method_2_code 38 = .ok (.lmul, 1) := by decide +kernel
theorem d3_39 : decode prog_41_method_2_code 39 = .ok (.lstore_n 1, 1) := by decide +kernel
theorem d3_40 : decode prog_41_method_2_code 40 = .ok (.lload_n 1, 1) := by decide +kernel
theorem d3_41 : decode prog_41_method_2_code 41 = .ok (.lload_n 1, 1) := by decide +kernel
theorem d3_42 : decode prog_41_method_2_code 42 = .ok (.bipush 31, 2) := by decide +kernel
theorem d3_44 : decode prog_41_method_2_code 44 = .ok (.lushr, 1) := by decide +kernel
theorem d3_45 : decode prog_41_method_2_code 45 = .ok (.lxor, 1) := by decide +kernel
theorem d3_46 : decode prog_41_method_2_code 46 = .ok (.lreturn, 1) := by decide +kernel
theorem pn_3 : plainFor (⟨"com/example/holywell/holywell/generate/Draws", "bits", "()J"⟩ : MethodName) = true := by first | exact plainFor_of_name (by first | (simp [plainName, overriddenIn]; done) | decide +kernel) | decide +kernel
theorem ef_3 (m : MethodId) (y0 : Addr) : entryFrame m #[(.ref y0)] 3 = mkF m 0 #[.val (.ref y0), .unset, .unset] [] := by first | (simp [entryFrame, mkF, argsToLocals, Value.category]; done) | rfl
def Q3 (Z : State) (a_o0 : Addr) (o0_state : Int64) (h0 : Heap) (n0 : Nat) (ans : Int64 × Int64) (v : Option Value) (h : Heap) (L : List Loc) : Prop := v = some (.long ans.1) ∧ Fr n0 L ∧ Keep h0 h [a_o0] ∧ Fld Z h a_o0 "com/example/holywell/holywell/generate/Draws" "state" "J" (.long ans.2)
set_option maxRecDepth 65536 in
set_option maxHeartbeats 40000000 in
theorem rm3 (l : Launch) (Z : State) (a0 : Array Value) (hw : ∀ d ∈ tables_1, d.before a0 Z = true) (o0_state : Int64) (a_o0 : Addr) (h0 : Heap) (n0 : Nat) (Z0 : n0 ≤ h0.size) (E_o0 : Exa Z h0 a_o0 "com/example/holywell/holywell/generate/Draws") (F_o0_state : Fld Z h0 a_o0 "com/example/holywell/holywell/generate/Draws" "state" "J" (.long o0_state)) (g_o0 : n0 ≤ a_o0) :
    Meets l Z (⟨"com/example/holywell/holywell/generate/Draws", "bits", "()J"⟩ : MethodName) prog_41_method_2_code 3 (some .long) [] ({ frames := 0, cells := 0, slots := 0, locals := 0 } : Room) #[(.ref a_o0)] h0 (Q3 Z a_o0 o0_state h0 n0 (F3 o0_state)) 0 0 := by
  refine Meets.of pn_3 ?_
  intro p e s m below meth c s₁ hx hby hml hZ hown hnm hret hlk X0 e0
  have hml : c.maxLocals = 3 := hml
  have hown : s.vm.findClass "com/example/holywell/holywell/generate/Draws" = some m.cls := hown
  have N0 := Fr.nil n0
  have K0 := Keep.refl h0 [a_o0]
  have b40 : ∀ (T : State) (L : List Loc) (h : Heap) (X : Stand p l e ({ frames := 0, cells := 0, slots := 0, locals := 0 } : Room) s m #[(.ref a_o0)] below meth c T L 0 0) (eT : T.heap = h) (N : Fr n0 L) (Zs : n0 ≤ h.size) (Kp : Keep h0 h [a_o0]) (co0_state : Int64) (x1 : Int64) (d0 : Slot) (od0 : OneS d0) (E_o0 : Exa Z h a_o0 "com/example/holywell/holywell/generate/Draws") (F_o0_state : Fld Z h a_o0 "com/example/holywell/holywell/generate/Draws" "state" "J" (.long co0_state)), Ends p e below s 0 0 (Q3 Z a_o0 o0_state h0 n0 (F3_40 co0_state x1)) (T.setTop (mkF m 40 #[d0, .val (.long x1), .second] [])) := by
    intro T L h X eT N Zs Kp co0_state x1 d0 od0 E_o0 F_o0_state
    refine Ends.step (u' := (T.setTop (mkF m 41 #[d0, .val (.long x1), .second] [(.long x1)]))) ?_ (fun _ k => XT.lloadN X.here hx rfl (hb hby d3_40) rfl k)
    refine Ends.step (u' := (T.setTop (mkF m 42 #[d0, .val (.long x1), .second] [(.long x1), (.long x1)]))) ?_ (fun _ k => XT.lloadN X.here hx rfl (hb hby d3_41) rfl k)
    refine Ends.step (u' := (T.setTop (mkF m 44 #[d0, .val (.long x1), .second] [(.int (31 : Int32)), (.long x1), (.long x1)]))) ?_ (fun _ k => XT.bipushV X.here hx rfl (31 : Int32) (hb hby d3_42) rfl k)
    refine Ends.step (u' := (T.setTop (mkF m 45 #[d0, .val (.long x1), .second] [(.long (XT.ushrL x1 (31 : Int32))), (.long x1)]))) ?_ (fun _ k => XT.lushr X.here hx rfl (hb hby d3_44) rfl k)
    refine Ends.step (u' := (T.setTop (mkF m 46 #[d0, .val (.long x1), .second] [(.long (x1 ^^^ (XT.ushrL x1 (31 : Int32))))]))) ?_ (fun _ k => XT.lxor X.here hx rfl (hb hby d3_45) rfl k)
    exact Ends.ret X (v := some (.long (x1 ^^^ (XT.ushrL x1 (31 : Int32))))) (fun q => by rw [hret] at q; cases q) hlk (fun fs hr => X.lreturnOut hx hret (hb hby d3_46) hr) (by decide) (by decide) (by rw [eT]; exact ⟨rfl, N, Kp, F_o0_state⟩)
  have b29 : ∀ (T : State) (L : List Loc) (h : Heap) (X : Stand p l e ({ frames := 0, cells := 0, slots := 0, locals := 0 } : Room) s m #[(.ref a_o0)] below meth c T L 0 0) (eT : T.heap = h) (N : Fr n0 L) (Zs : n0 ≤ h.size) (Kp : Keep h0 h [a_o0]) (co0_state : Int64) (x1 : Int64) (d0 : Slot) (od0 : OneS d0) (E_o0 : Exa Z h a_o0 "com/example/holywell/holywell/generate/Draws") (F_o0_state : Fld Z h a_o0 "com/example/holywell/holywell/generate/Draws" "state" "J" (.long co0_state)), Ends p e below s 0 0 (Q3 Z a_o0 o0_state h0 n0 (F3_29 co0_state x1)) (T.setTop (mkF m 29 #[d0, .val (.long x1), .second] [])) := by
    intro T L h X eT N Zs Kp co0_state x1 d0 od0 E_o0 F_o0_state
    refine Ends.step (u' := (T.setTop (mkF m 30 #[d0, .val (.long x1), .second] [(.long x1)]))) ?_ (fun _ k => XT.lloadN X.here hx rfl (hb hby d3_29) rfl k)
    refine Ends.step (u' := (T.setTop (mkF m 31 #[d0, .val (.long x1), .second] [(.long x1), (.long x1)]))) ?_ (fun _ k => XT.lloadN X.here hx rfl (hb hby d3_30) rfl k)
    refine Ends.step (u' := (T.setTop (mkF m 33 #[d0, .val (.long x1), .second] [(.int (27 : Int32)), (.long x1), (.long x1)]))) ?_ (fun _ k => XT.bipushV X.here hx rfl (27 : Int32) (hb hby d3_31) rfl k)
    refine Ends.step (u' := (T.setTop (mkF m 34 #[d0, .val (.long x1), .second] [(.long (XT.ushrL x1 (27 : Int32))), (.long x1)]))) ?_ (fun _ k => XT.lushr X.here hx rfl (hb hby d3_33) rfl k)
    refine Ends.step (u' := (T.setTop (mkF m 35 #[d0, .val (.long x1), .second] [(.long (x1 ^^^ (XT.ushrL x1 (27 : Int32))))]))) ?_ (fun _ k => XT.lxor X.here hx rfl (hb hby d3_34) rfl k)
    refine Ends.step (u' := (T.setTop (mkF m 38 #[d0, .val (.long x1), .second] [(.long (-7723592293110705685 : Int64)), (.long (x1 ^^^ (XT.ushrL x1 (27 : Int32))))]))) ?_ (fun _ k => X.ldc2J hx hown (mvT hZ (hw _ (List.mem_of_getElem? (i := 19) rfl))) rfl (hb hby d3_35) k)
    refine Ends.step (u' := (T.setTop (mkF m 39 #[d0, .val (.long x1), .second] [(.long ((x1 ^^^ (XT.ushrL x1 (27 : Int32))) * (-7723592293110705685 : Int64)))]))) ?_ (fun _ k => XT.lmul X.here hx rfl (hb hby d3_38) rfl k)
    refine Ends.step (u' := (T.setTop (mkF m 40 #[d0, .val (.long ((x1 ^^^ (XT.ushrL x1 (27 : Int32))) * (-7723592293110705685 : Int64))), .second] []))) ?_ (fun _ k => XT.lstoreN X.here hx rfl (hb hby d3_39) rfl (l' := #[d0, .val (.long ((x1 ^^^ (XT.ushrL x1 (27 : Int32))) * (-7723592293110705685 : Int64))), .second]) rfl k)
    exact b40 T _ _ X eT N Zs Kp co0_state ((x1 ^^^ (XT.ushrL x1 (27 : Int32))) * (-7723592293110705685 : Int64)) (d0) od0 E_o0 F_o0_state
  refine Ends.step (u' := (s₁.setTop (mkF m 0 #[.val (.ref a_o0), .unset, .unset] []))) ?_ (fun _ k => castTop (ef_3 m a_o0) k)
  refine Ends.step (u' := (s₁.setTop (mkF m 1 #[.val (.ref a_o0), .unset, .unset] [(.ref a_o0)]))) ?_ (fun _ k => XS.aloadN X0.here hx rfl (hb hby d3_0) rfl rfl k)
  refine Ends.step (u' := (s₁.setTop (mkF m 2 #[.val (.ref a_o0), .unset, .unset] [(.ref a_o0), (.ref a_o0)]))) ?_ (fun _ k => XS.dup X0.here hx rfl (hb hby d3_1) rfl rfl k)
  refine Ends.getF X0 hx hZ hown (hw _ (List.mem_of_getElem? (i := 10) rfl)) e0 F_o0_state (g := (mkF m 2 #[.val (.ref a_o0), .unset, .unset] [(.ref a_o0), (.ref a_o0)])) rfl rfl (hb hby d3_2) (fun T1 X1 e1 => ?_)
  show Ends p e below s _ _ _ (T1.setTop (mkF m 5 #[.val (.ref a_o0), .unset, .unset] [(.long o0_state), (.ref a_o0)]))
  refine Ends.step (u' := (T1.setTop (mkF m 8 #[.val (.ref a_o0), .unset, .unset] [(.long (-7046029254386353131 : Int64)), (.long o0_state), (.ref a_o0)]))) ?_ (fun _ k => X1.ldc2J hx hown (mvT hZ (hw _ (List.mem_of_getElem? (i := 17) rfl))) rfl (hb hby d3_5) k)
  refine Ends.step (u' := (T1.setTop (mkF m 9 #[.val (.ref a_o0), .unset, .unset] [(.long (o0_state + (-7046029254386353131 : Int64))), (.ref a_o0)]))) ?_ (fun _ k => XT.ladd X1.here hx rfl (hb hby d3_8) rfl k)
  refine Ends.putF X1 hx hZ hown (hw _ (List.mem_of_getElem? (i := 10) rfl)) e1 F_o0_state E_o0 (Or.inl (hw _ (List.mem_of_getElem? (i := 11) rfl))) (hw _ (List.mem_of_getElem? (i := 2) rfl)) (tf := .long) (by decide) rfl rfl N0 g_o0 (g := (mkF m 9 #[.val (.ref a_o0), .unset, .unset] [(.long (o0_state + (-7046029254386353131 : Int64))), (.ref a_o0)])) rfl rfl (hb hby d3_9) (fun T2 h2 X2 e2 N2 W2 => ?_)
  have Fd3 := F_o0_state.same W2
  have E4 := E_o0.wr W2
  show Ends p e below s _ _ _ (T2.setTop (mkF m 12 #[.val (.ref a_o0), .unset, .unset] []))
  have Z5 : n0 ≤ h2.size := W2.size.symm ▸ Z0
  have K6 := K0.wr W2 (Or.inl (List.mem_of_getElem? (i := 0) rfl))
  refine Ends.step (u' := (T2.setTop (mkF m 13 #[.val (.ref a_o0), .unset, .unset] [(.ref a_o0)]))) ?_ (fun _ k => XS.aloadN X2.here hx rfl (hb hby d3_12) rfl rfl k)
  refine Ends.getF X2 hx hZ hown (hw _ (List.mem_of_getElem? (i := 10) rfl)) e2 Fd3 (g := (mkF m 13 #[.val (.ref a_o0), .unset, .unset] [(.ref a_o0)])) rfl rfl (hb hby d3_13) (fun T7 X7 e7 => ?_)
  show Ends p e below s _ _ _ (T7.setTop (mkF m 16 #[.val (.ref a_o0), .unset, .unset] [(.long (o0_state + (-7046029254386353131 : Int64)))]))
  refine Ends.step (u' := (T7.setTop (mkF m 17 #[.val (.ref a_o0), .unset, .unset] [(.ref a_o0), (.long (o0_state + (-7046029254386353131 : Int64)))]))) ?_ (fun _ k => XS.aloadN X7.here hx rfl (hb hby d3_16) rfl rfl k)
  refine Ends.getF X7 hx hZ hown (hw _ (List.mem_of_getElem? (i := 10) rfl)) e7 Fd3 (g := (mkF m 17 #[.val (.ref a_o0), .unset, .unset] [(.ref a_o0), (.long (o0_state + (-7046029254386353131 : Int64)))])) rfl rfl (hb hby d3_17) (fun T8 X8 e8 => ?_)
  show Ends p e below s _ _ _ (T8.setTop (mkF m 20 #[.val (.ref a_o0), .unset, .unset] [(.long (o0_state + (-7046029254386353131 : Int64))), (.long (o0_state + (-7046029254386353131 : Int64)))]))
  refine Ends.step (u' := (T8.setTop (mkF m 22 #[.val (.ref a_o0), .unset, .unset] [(.int (30 : Int32)), (.long (o0_state + (-7046029254386353131 : Int64))), (.long (o0_state + (-7046029254386353131 : Int64)))]))) ?_ (fun _ k => XT.bipushV X8.here hx rfl (30 : Int32) (hb hby d3_20) rfl k)
  refine Ends.step (u' := (T8.setTop (mkF m 23 #[.val (.ref a_o0), .unset, .unset] [(.long (XT.ushrL (o0_state + (-7046029254386353131 : Int64)) (30 : Int32))), (.long (o0_state + (-7046029254386353131 : Int64)))]))) ?_ (fun _ k => XT.lushr X8.here hx rfl (hb hby d3_22) rfl k)
  refine Ends.step (u' := (T8.setTop (mkF m 24 #[.val (.ref a_o0), .unset, .unset] [(.long ((o0_state + (-7046029254386353131 : Int64)) ^^^ (XT.ushrL (o0_state + (-7046029254386353131 : Int64)) (30 : Int32))))]))) ?_ (fun _ k => XT.lxor X8.here hx rfl (hb hby d3_23) rfl k)
  refine Ends.step (u' := (T8.setTop (mkF m 27 #[.val (.ref a_o0), .unset, .unset] [(.long (-4658895280553007687 : Int64)), (.long ((o0_state + (-7046029254386353131 : Int64)) ^^^ (XT.ushrL (o0_state + (-7046029254386353131 : Int64)) (30 : Int32))))]))) ?_ (fun _ k => X8.ldc2J hx hown (mvT hZ (hw _ (List.mem_of_getElem? (i := 18) rfl))) rfl (hb hby d3_24) k)
  refine Ends.step (u' := (T8.setTop (mkF m 28 #[.val (.ref a_o0), .unset, .unset] [(.long (((o0_state + (-7046029254386353131 : Int64)) ^^^ (XT.ushrL (o0_state + (-7046029254386353131 : Int64)) (30 : Int32))) * (-4658895280553007687 : Int64)))]))) ?_ (fun _ k => XT.lmul X8.here hx rfl (hb hby d3_27) rfl k)
  refine Ends.step (u' := (T8.setTop (mkF m 29 #[.val (.ref a_o0), .val (.long (((o0_state + (-7046029254386353131 : Int64)) ^^^ (XT.ushrL (o0_state + (-7046029254386353131 : Int64)) (30 : Int32))) * (-4658895280553007687 : Int64))), .second] []))) ?_ (fun _ k => XT.lstoreN X8.here hx rfl (hb hby d3_28) rfl (l' := #[.val (.ref a_o0), .val (.long (((o0_state + (-7046029254386353131 : Int64)) ^^^ (XT.ushrL (o0_state + (-7046029254386353131 : Int64)) (30 : Int32))) * (-4658895280553007687 : Int64))), .second]) rfl k)
  exact b29 T8 _ _ X8 e8 N2 Z5 K6 (o0_state + (-7046029254386353131 : Int64)) (((o0_state + (-7046029254386353131 : Int64)) ^^^ (XT.ushrL (o0_state + (-7046029254386353131 : Int64)) (30 : Int32))) * (-4658895280553007687 : Int64)) (.val (.ref a_o0)) (Or.inr ⟨_, rfl, rfl⟩) E4 Fd3
theorem pn_0 : plainFor x = true := by first | exact plainFor_of_name (by first | (simp [plainName, overriddenIn]; done) | decide +kernel) | decide +kernel
theorem ef_0 (m : MethodId) (y0 : Int64) (y1 : Int64) : entryFrame m #[(.long y0), (.long y1)] maxLocals = mkF m 0 #[.val (.long y0), .second, .val (.long y1), .second, .unset, .unset, .unset, .unset, .unset, .unset, .unset, .unset, .unset, .unset, .unset, .unset, .unset, .unset, .unset, .unset] [] := by first | (simp [entryFrame, mkF, argsToLocals, Value.category, maxLocals]; done) | rfl
def Q0 (Z : State)   (h0 : Heap) (n0 : Nat) (ans : Int32) (v : Option Value) (h : Heap) (L : List Loc) : Prop := v = some (.int ans) ∧ Fr n0 L
set_option maxRecDepth 65536 in
set_option maxHeartbeats 40000000 in
theorem rm0 (l : Launch) (Z : State) (a0 : Array Value) (hw : ∀ d ∈ tables_1, d.before a0 Z = true) (p0 : Int64) (p1 : Int64)  (h0 : Heap) (n0 : Nat) (Z0 : n0 ≤ h0.size)  :
    Meets l Z x code maxLocals ret tables_1 room_1 #[(.long p0), (.long p1)] h0 (Q0 Z  h0 n0 (F0 p0 p1)) 4 4 := by
  refine Meets.of pn_0 ?_
  intro p e s m below meth c s₁ hx hby hml hZ hown hnm hret hlk X0 e0
  have hml : c.maxLocals = 20 := hml
  have hown : s.vm.findClass "com/example/holywell/holywell/generate/DrawsBitsPinLaw" = some m.cls := hown
  have N0 := Fr.nil n0
  have b57 : ∀ (T : State) (L : List Loc) (h : Heap) (X : Stand p l e room_1 s m #[(.long p0), (.long p1)] below meth c T L 2 2) (eT : T.heap = h) (N : Fr n0 L) (Zs : n0 ≤ h.size) (z0 : Int64) (z2 : Int64) (z4 : Int64) (d6 : Slot) (od6 : OneS d6) (z7 : Int64) (z9 : Int64) (d11 : Slot) (od11 : OneS d11) (z12 : Int64), Ends p e below s 4 4 (Q0 Z  h0 n0 F0_57) (T.setTop (mkF m 57 #[.val (.long z0), .second, .val (.long z2), .second, .val (.long z4), .second, d6, .val (.long z7), .second, .val (.long z9), .second, d11, .val (.long z12), .second, .unset, .unset, .unset, .unset, .unset, .unset] [])) := by
    intro T L h X eT N Zs z0 z2 z4 d6 od6 z7 z9 d11 od11 z12
    refine Ends.step (u' := (T.setTop (mkF m 58 #[.val (.long z0), .second, .val (.long z2), .second, .val (.long z4), .second, d6, .val (.long z7), .second, .val (.long z9), .second, d11, .val (.long z12), .second, .unset, .unset, .unset, .unset, .unset, .unset] [(.int (0 : Int32))]))) ?_ (fun _ k => XT.iconstV X.here hx rfl (0 : Int32) (hb hby at_57) rfl k)
    exact Ends.ret X (v := some (.int (nar .boolean (0 : Int32)))) (fun q => by rw [hret] at q; cases q) hlk (fun fs hr => retN X hx (t := .boolean) hret (by simp) (hb hby at_58) hr) (by decide) (by decide) ⟨rfl, N⟩
  have b110 : ∀ (T : State) (L : List Loc) (h : Heap) (X : Stand p l e room_1 s m #[(.long p0), (.long p1)] below meth c T L 3 3) (eT : T.heap = h) (N : Fr n0 L) (Zs : n0 ≤ h.size) (z0 : Int64) (z2 : Int64) (z4 : Int64) (d6 : Slot) (od6 : OneS d6) (z7 : Int64) (z9 : Int64) (d11 : Slot) (od11 : OneS d11) (z12 : Int64) (z14 : Int64) (d16 : Slot) (od16 : OneS d16) (z17 : Int64), Ends p e below s 4 4 (Q0 Z  h0 n0 F0_110) (T.setTop (mkF m 110 #[.val (.long z0), .second, .val (.long z2), .second, .val (.long z4), .second, d6, .val (.long z7), .second, .val (.long z9), .second, d11, .val (.long z12), .second, .val (.long z14), .second, d16, .val (.long z17), .second, .unset] [])) := by
    intro T L h X eT N Zs z0 z2 z4 d6 od6 z7 z9 d11 od11 z12 z14 d16 od16 z17
    refine Ends.step (u' := (T.setTop (mkF m 111 #[.val (.long z0), .second, .val (.long z2), .second, .val (.long z4), .second, d6, .val (.long z7), .second, .val (.long z9), .second, d11, .val (.long z12), .second, .val (.long z14), .second, d16, .val (.long z17), .second, .unset] [(.int (0 : Int32))]))) ?_ (fun _ k => XT.iconstV X.here hx rfl (0 : Int32) (hb hby at_110) rfl k)
    exact Ends.ret X (v := some (.int (nar .boolean (0 : Int32)))) (fun q => by rw [hret] at q; cases q) hlk (fun fs hr => retN X hx (t := .boolean) hret (by simp) (hb hby at_111) hr) (by decide) (by decide) ⟨rfl, N⟩
  have b139 : ∀ (T : State) (L : List Loc) (h : Heap) (X : Stand p l e room_1 s m #[(.long p0), (.long p1)] below meth c T L 4 4) (eT : T.heap = h) (N : Fr n0 L) (Zs : n0 ≤ h.size) (t0 : Int32) (z0 : Int64) (z2 : Int64) (z4 : Int64) (d6 : Slot) (od6 : OneS d6) (z7 : Int64) (z9 : Int64) (d11 : Slot) (od11 : OneS d11) (z12 : Int64) (z14 : Int64) (d16 : Slot) (od16 : OneS d16) (z17 : Int64) (d19 : Slot) (od19 : OneS d19), Ends p e below s 4 4 (Q0 Z  h0 n0 (F0_139 t0)) (T.setTop (mkF m 139 #[.val (.long z0), .second, .val (.long z2), .second, .val (.long z4), .second, d6, .val (.long z7), .second, .val (.long z9), .second, d11, .val (.long z12), .second, .val (.long z14), .second, d16, .val (.long z17), .second, d19] [(.int t0)])) := by
    intro T L h X eT N Zs t0 z0 z2 z4 d6 od6 z7 z9 d11 od11 z12 z14 d16 od16 z17 d19 od19
    exact Ends.ret X (v := some (.int (nar .boolean t0))) (fun q => by rw [hret] at q; cases q) hlk (fun fs hr => retN X hx (t := .boolean) hret (by simp) (hb hby at_139) hr) (by decide) (by decide) ⟨rfl, N⟩
  have b134 : ∀ (T : State) (L : List Loc) (h : Heap) (X : Stand p l e room_1 s m #[(.long p0), (.long p1)] below meth c T L 4 4) (eT : T.heap = h) (N : Fr n0 L) (Zs : n0 ≤ h.size) (z0 : Int64) (z2 : Int64) (z4 : Int64) (d6 : Slot) (od6 : OneS d6) (z7 : Int64) (z9 : Int64) (d11 : Slot) (od11 : OneS d11) (z12 : Int64) (z14 : Int64) (d16 : Slot) (od16 : OneS d16) (z17 : Int64) (d19 : Slot) (od19 : OneS d19), Ends p e below s 4 4 (Q0 Z  h0 n0 F0_134) (T.setTop (mkF m 134 #[.val (.long z0), .second, .val (.long z2), .second, .val (.long z4), .second, d6, .val (.long z7), .second, .val (.long z9), .second, d11, .val (.long z12), .second, .val (.long z14), .second, d16, .val (.long z17), .second, d19] [])) := by
    intro T L h X eT N Zs z0 z2 z4 d6 od6 z7 z9 d11 od11 z12 z14 d16 od16 z17 d19 od19
    refine Ends.step (u' := (T.setTop (mkF m 135 #[.val (.long z0), .second, .val (.long z2), .second, .val (.long z4), .second, d6, .val (.long z7), .second, .val (.long z9), .second, d11, .val (.long z12), .second, .val (.long z14), .second, d16, .val (.long z17), .second, d19] [(.int (1 : Int32))]))) ?_ (fun _ k => XT.iconstV X.here hx rfl (1 : Int32) (hb hby at_134) rfl k)
    refine Ends.step (u' := (T.setTop (mkF m 139 #[.val (.long z0), .second, .val (.long z2), .second, .val (.long z4), .second, d6, .val (.long z7), .second, .val (.long z9), .second, d11, .val (.long z12), .second, .val (.long z14), .second, d16, .val (.long z17), .second, d19] [(.int (1 : Int32))]))) ?_ (fun _ k => XS.goto X.here hx rfl (pc0 := 135) (pc' := 139) rfl (hb hby at_135) (by decide) (by decide) k)
    exact b139 T _ _ X eT N Zs (1 : Int32) z0 z2 z4 (d6) od6 z7 z9 (d11) od11 z12 z14 (d16) od16 z17 (d19) od19
  have b138 : ∀ (T : State) (L : List Loc) (h : Heap) (X : Stand p l e room_1 s m #[(.long p0), (.long p1)] below meth c T L 4 4) (eT : T.heap = h) (N : Fr n0 L) (Zs : n0 ≤ h.size) (z0 : Int64) (z2 : Int64) (z4 : Int64) (d6 : Slot) (od6 : OneS d6) (z7 : Int64) (z9 : Int64) (d11 : Slot) (od11 : OneS d11) (z12 : Int64) (z14 : Int64) (d16 : Slot) (od16 : OneS d16) (z17 : Int64) (d19 : Slot) (od19 : OneS d19), Ends p e below s 4 4 (Q0 Z  h0 n0 F0_138) (T.setTop (mkF m 138 #[.val (.long z0), .second, .val (.long z2), .second, .val (.long z4), .second, d6, .val (.long z7), .second, .val (.long z9), .second, d11, .val (.long z12), .second, .val (.long z14), .second, d16, .val (.long z17), .second, d19] [])) := by
    intro T L h X eT N Zs z0 z2 z4 d6 od6 z7 z9 d11 od11 z12 z14 d16 od16 z17 d19 od19
    refine Ends.step (u' := (T.setTop (mkF m 139 #[.val (.long z0), .second, .val (.long z2), .second, .val (.long z4), .second, d6, .val (.long z7), .second, .val (.long z9), .second, d11, .val (.long z12), .second, .val (.long z14), .second, d16, .val (.long z17), .second, d19] [(.int (0 : Int32))]))) ?_ (fun _ k => XT.iconstV X.here hx rfl (0 : Int32) (hb hby at_138) rfl k)
    exact b139 T _ _ X eT N Zs (0 : Int32) z0 z2 z4 (d6) od6 z7 z9 (d11) od11 z12 z14 (d16) od16 z17 (d19) od19
  have b112 : ∀ (T : State) (L : List Loc) (h : Heap) (X : Stand p l e room_1 s m #[(.long p0), (.long p1)] below meth c T L 3 3) (eT : T.heap = h) (N : Fr n0 L) (Zs : n0 ≤ h.size) (z0 : Int64) (z2 : Int64) (z4 : Int64) (d6 : Slot) (od6 : OneS d6) (z7 : Int64) (z9 : Int64) (d11 : Slot) (od11 : OneS d11) (z12 : Int64) (z14 : Int64) (d16 : Slot) (od16 : OneS d16) (z17 : Int64), Ends p e below s 4 4 (Q0 Z  h0 n0 F0_112) (T.setTop (mkF m 112 #[.val (.long z0), .second, .val (.long z2), .second, .val (.long z4), .second, d6, .val (.long z7), .second, .val (.long z9), .second, d11, .val (.long z12), .second, .val (.long z14), .second, d16, .val (.long z17), .second, .unset] [])) := by
    intro T L h X eT N Zs z0 z2 z4 d6 od6 z7 z9 d11 od11 z12 z14 d16 od16 z17
    refine Ends.newO X hx hZ hown (hw _ (List.mem_of_getElem? (i := 1) rfl)) (hw _ (List.mem_of_getElem? (i := 2) rfl)) (hw _ (List.mem_of_getElem? (i := 3) rfl)) eT (g := (mkF m 112 #[.val (.long z0), .second, .val (.long z2), .second, .val (.long z4), .second, d6, .val (.long z7), .second, .val (.long z9), .second, d11, .val (.long z12), .second, .val (.long z14), .second, d16, .val (.long z17), .second, .unset] [])) rfl (hb hby at_112) (by decide) (by decide) (fun T1 h1 a1 X1 e1 E1 q1 Y1 D1 => ?_)
    have Fd2 : Fld Z h1 a1 "com/example/holywell/holywell/generate/Draws" "state" "J" (.long (0 : Int64)) := D1 (Or.inl (hw _ (List.mem_of_getElem? (i := 11) rfl))) (ty := .long) (by decide)
    have g3 : n0 ≤ a1 := q1 ▸ Zs
    have Z4 := Nat.le_trans Zs E1.1
    show Ends p e below s _ _ _ (T1.setTop (mkF m 115 #[.val (.long z0), .second, .val (.long z2), .second, .val (.long z4), .second, d6, .val (.long z7), .second, .val (.long z9), .second, d11, .val (.long z12), .second, .val (.long z14), .second, d16, .val (.long z17), .second, .unset] [(.ref a1)]))
    refine Ends.step (u' := (T1.setTop (mkF m 116 #[.val (.long z0), .second, .val (.long z2), .second, .val (.long z4), .second, d6, .val (.long z7), .second, .val (.long z9), .second, d11, .val (.long z12), .second, .val (.long z14), .second, d16, .val (.long z17), .second, .unset] [(.ref a1), (.ref a1)]))) ?_ (fun _ k => XS.dup X1.here hx rfl (hb hby at_115) rfl rfl k)
    refine Ends.step (u' := (T1.setTop (mkF m 117 #[.val (.long z0), .second, .val (.long z2), .second, .val (.long z4), .second, d6, .val (.long z7), .second, .val (.long z9), .second, d11, .val (.long z12), .second, .val (.long z14), .second, d16, .val (.long z17), .second, .unset] [(.long (0 : Int64)), (.ref a1), (.ref a1)]))) ?_ (fun _ k => XT.lconstV X1.here hx rfl (0 : Int64) (hb hby at_116) rfl k)
    refine Ends.callC X1 hx hZ (y := (⟨"com/example/holywell/holywell/generate/Draws", "<init>", "(J)V"⟩ : MethodName)) rfl hown (hw _ (List.mem_of_getElem? (i := 4) rfl)) (hw _ (List.mem_of_getElem? (i := 5) rfl)) (hw _ (List.mem_of_getElem? (i := 3) rfl)) (hw _ (List.mem_of_getElem? (i := 6) rfl)) (by decide) (rm1 l Z a0 hw (0 : Int64) (0 : Int64) a1 h1 n0 Z4 Y1 Fd2 g3) 1 (by decide) (by decide) e1  (g := (mkF m 117 #[.val (.long z0), .second, .val (.long z2), .second, .val (.long z4), .second, d6, .val (.long z7), .second, .val (.long z9), .second, d11, .val (.long z12), .second, .val (.long z14), .second, d16, .val (.long z17), .second, .unset] [(.long (0 : Int64)), (.ref a1), (.ref a1)])) rfl (by rw [hml]; rfl) a1 [(.long (0 : Int64))] [(.ref a1)] (lenOf pd_0 rfl) rfl (by show 2 * 0 + _ ≤ _; exact Nat.le_of_eq rfl) (hb hby at_117) rfl (by decide) (by decide) (fun v5 T5 L5 X5 hQ5 => ?_)
    obtain ⟨rfl, Nq5, Kq5, Fd6⟩ := hQ5
    have N5 := Fr.app N Nq5
    show Ends p e below s _ _ _ (T5.setTop (mkF m 120 #[.val (.long z0), .second, .val (.long z2), .second, .val (.long z4), .second, d6, .val (.long z7), .second, .val (.long z9), .second, d11, .val (.long z12), .second, .val (.long z14), .second, d16, .val (.long z17), .second, .unset] [(.ref a1)]))
    have E7 := Y1.keep Kq5
    have Z8 := Nat.le_trans Z4 Kq5.1
    refine Ends.step (u' := (T5.setTop (mkF m 122 #[.val (.long z0), .second, .val (.long z2), .second, .val (.long z4), .second, d6, .val (.long z7), .second, .val (.long z9), .second, d11, .val (.long z12), .second, .val (.long z14), .second, d16, .val (.long z17), .second, .val (.ref a1)] []))) ?_ (fun _ k => XS.astore X5.here hx rfl (hb hby at_120) rfl rfl (l' := #[.val (.long z0), .second, .val (.long z2), .second, .val (.long z4), .second, d6, .val (.long z7), .second, .val (.long z9), .second, d11, .val (.long z12), .second, .val (.long z14), .second, d16, .val (.long z17), .second, .val (.ref a1)]) rfl k)
    refine Ends.step (u' := (T5.setTop (mkF m 124 #[.val (.long z0), .second, .val (.long z2), .second, .val (.long z4), .second, d6, .val (.long z7), .second, .val (.long z9), .second, d11, .val (.long z12), .second, .val (.long z14), .second, d16, .val (.long z17), .second, .val (.ref a1)] [(.ref a1)]))) ?_ (fun _ k => XS.aload X5.here hx rfl (hb hby at_122) rfl rfl k)
    refine Ends.callV X5 hx hZ hown (hw _ (List.mem_of_getElem? (i := 12) rfl)) (hw _ (List.mem_of_getElem? (i := 13) rfl)) (hw _ (List.mem_of_getElem? (i := 15) rfl)) (hw _ (List.mem_of_getElem? (i := 14) rfl)) (hw _ (List.mem_of_getElem? (i := 3) rfl)) (hw _ (List.mem_of_getElem? (i := 16) rfl)) (by decide) (rm3 l Z a0 hw (F1 (0 : Int64) (0 : Int64)) a1 T5.heap n0 Z8 E7 Fd6 g3) 0 (by decide) (by decide) rfl a1 E7 (g := (mkF m 124 #[.val (.long z0), .second, .val (.long z2), .second, .val (.long z4), .second, d6, .val (.long z7), .second, .val (.long z9), .second, d11, .val (.long z12), .second, .val (.long z14), .second, d16, .val (.long z17), .second, .val (.ref a1)] [(.ref a1)])) rfl (by rw [hml]; rfl)  [] [] (lenOf pd_1 rfl) rfl (by show 2 * 0 + _ ≤ _; exact Nat.le_of_eq rfl) (hb hby at_124) rfl (by decide) (by decide) (fun v9 T9 L9 X9 hQ9 => ?_)
    obtain ⟨rfl, Nq9, Kq9, Fd10⟩ := hQ9
    have N9 := Fr.app N5 Nq9
    show Ends p e below s _ _ _ (T9.setTop (mkF m 127 #[.val (.long z0), .second, .val (.long z2), .second, .val (.long z4), .second, d6, .val (.long z7), .second, .val (.long z9), .second, d11, .val (.long z12), .second, .val (.long z14), .second, d16, .val (.long z17), .second, .val (.ref a1)] [(.long (F3 (F1 (0 : Int64) (0 : Int64))).1)]))
    have E11 := E7.keep Kq9
    have Z12 := Nat.le_trans Z8 Kq9.1
    refine Ends.step (u' := (T9.setTop (mkF m 130 #[.val (.long z0), .second, .val (.long z2), .second, .val (.long z4), .second, d6, .val (.long z7), .second, .val (.long z9), .second, d11, .val (.long z12), .second, .val (.long z14), .second, d16, .val (.long z17), .second, .val (.ref a1)] [(.long (-2152535657050944081 : Int64)), (.long (F3 (F1 (0 : Int64) (0 : Int64))).1)]))) ?_ (fun _ k => X9.ldc2J hx hown (mvT hZ (hw _ (List.mem_of_getElem? (i := 20) rfl))) rfl (hb hby at_127) k)
    refine Ends.step (u' := (T9.setTop (mkF m 131 #[.val (.long z0), .second, .val (.long z2), .second, .val (.long z4), .second, d6, .val (.long z7), .second, .val (.long z9), .second, d11, .val (.long z12), .second, .val (.long z14), .second, d16, .val (.long z17), .second, .val (.ref a1)] [(.int (XT.cmpL (F3 (F1 (0 : Int64) (0 : Int64))).1 (-2152535657050944081 : Int64)))]))) ?_ (fun _ k => XT.lcmp X9.here hx rfl (hb hby at_130) rfl k)
    by_cases hc131 : (F3 (F1 (0 : Int64) (0 : Int64))).1 = (-2152535657050944081 : Int64)
    · refine Eq.mp (congrArg (fun z => Ends p e below s 4 4 (Q0 Z  h0 n0 z) (T9.setTop (mkF m 131 #[.val (.long z0), .second, .val (.long z2), .second, .val (.long z4), .second, d6, .val (.long z7), .second, .val (.long z9), .second, d11, .val (.long z12), .second, .val (.long z14), .second, d16, .val (.long z17), .second, .val (.ref a1)] [(.int (XT.cmpL (F3 (F1 (0 : Int64) (0 : Int64))).1 (-2152535657050944081 : Int64)))]))) (show F0_112 = F0_134 from (if_pos hc131)).symm) ?_
      refine Ends.step (u' := (T9.setTop (mkF m 134 #[.val (.long z0), .second, .val (.long z2), .second, .val (.long z4), .second, d6, .val (.long z7), .second, .val (.long z9), .second, d11, .val (.long z12), .second, .val (.long z14), .second, d16, .val (.long z17), .second, .val (.ref a1)] []))) ?_ (fun _ k => XS.ifNo X9.here hx rfl (hb hby at_131) rfl (XT.ll_ne_f hc131) k)
      exact b134 T9 _ _ X9 rfl N9 Z12 z0 z2 z4 (d6) od6 z7 z9 (d11) od11 z12 z14 (d16) od16 z17 (.val (.ref a1)) (Or.inr ⟨_, rfl, rfl⟩)
    · refine Eq.mp (congrArg (fun z => Ends p e below s 4 4 (Q0 Z  h0 n0 z) (T9.setTop (mkF m 131 #[.val (.long z0), .second, .val (.long z2), .second, .val (.long z4), .second, d6, .val (.long z7), .second, .val (.long z9), .second, d11, .val (.long z12), .second, .val (.long z14), .second, d16, .val (.long z17), .second, .val (.ref a1)] [(.int (XT.cmpL (F3 (F1 (0 : Int64) (0 : Int64))).1 (-2152535657050944081 : Int64)))]))) (show F0_112 = F0_138 from (if_neg hc131)).symm) ?_
      refine Ends.step (u' := (T9.setTop (mkF m 138 #[.val (.long z0), .second, .val (.long z2), .second, .val (.long z4), .second, d6, .val (.long z7), .second, .val (.long z9), .second, d11, .val (.long z12), .second, .val (.long z14), .second, d16, .val (.long z17), .second, .val (.ref a1)] []))) ?_ (fun _ k => XS.ifYes X9.here hx rfl (pc0 := 131) (pc' := 138) rfl (hb hby at_131) rfl (XT.ll_ne_t hc131) (by decide) (by decide) k)
      exact b138 T9 _ _ X9 rfl N9 Z12 z0 z2 z4 (d6) od6 z7 z9 (d11) od11 z12 z14 (d16) od16 z17 (.val (.ref a1)) (Or.inr ⟨_, rfl, rfl⟩)
  have b107 : ∀ (T : State) (L : List Loc) (h : Heap) (X : Stand p l e room_1 s m #[(.long p0), (.long p1)] below meth c T L 3 3) (eT : T.heap = h) (N : Fr n0 L) (Zs : n0 ≤ h.size) (t1 : Int32) (t0 : Int32) (z0 : Int64) (z2 : Int64) (z4 : Int64) (d6 : Slot) (od6 : OneS d6) (z7 : Int64) (z9 : Int64) (d11 : Slot) (od11 : OneS d11) (z12 : Int64) (z14 : Int64) (d16 : Slot) (od16 : OneS d16) (z17 : Int64), Ends p e below s 4 4 (Q0 Z  h0 n0 (F0_107 t1 t0)) (T.setTop (mkF m 107 #[.val (.long z0), .second, .val (.long z2), .second, .val (.long z4), .second, d6, .val (.long z7), .second, .val (.long z9), .second, d11, .val (.long z12), .second, .val (.long z14), .second, d16, .val (.long z17), .second, .unset] [(.int t1), (.int t0)])) := by
    intro T L h X eT N Zs t1 t0 z0 z2 z4 d6 od6 z7 z9 d11 od11 z12 z14 d16 od16 z17
    by_cases hc107 : t0 = t1
    · refine Eq.mp (congrArg (fun z => Ends p e below s 4 4 (Q0 Z  h0 n0 z) (T.setTop (mkF m 107 #[.val (.long z0), .second, .val (.long z2), .second, .val (.long z4), .second, d6, .val (.long z7), .second, .val (.long z9), .second, d11, .val (.long z12), .second, .val (.long z14), .second, d16, .val (.long z17), .second, .unset] [(.int t1), (.int t0)]))) (show (F0_107 t1 t0) = F0_112 from (if_pos hc107)).symm) ?_
      refine Ends.step (u' := (T.setTop (mkF m 112 #[.val (.long z0), .second, .val (.long z2), .second, .val (.long z4), .second, d6, .val (.long z7), .second, .val (.long z9), .second, d11, .val (.long z12), .second, .val (.long z14), .second, d16, .val (.long z17), .second, .unset] []))) ?_ (fun _ k => XS.icmpYes X.here hx rfl (pc0 := 107) (pc' := 112) rfl (hb hby at_107) rfl (XT.ii_eq_t hc107) (by decide) (by decide) k)
      exact b112 T _ _ X eT N Zs z0 z2 z4 (d6) od6 z7 z9 (d11) od11 z12 z14 (d16) od16 z17
    · refine Eq.mp (congrArg (fun z => Ends p e below s 4 4 (Q0 Z  h0 n0 z) (T.setTop (mkF m 107 #[.val (.long z0), .second, .val (.long z2), .second, .val (.long z4), .second, d6, .val (.long z7), .second, .val (.long z9), .second, d11, .val (.long z12), .second, .val (.long z14), .second, d16, .val (.long z17), .second, .unset] [(.int t1), (.int t0)]))) (show (F0_107 t1 t0) = F0_110 from (if_neg hc107)).symm) ?_
      refine Ends.step (u' := (T.setTop (mkF m 110 #[.val (.long z0), .second, .val (.long z2), .second, .val (.long z4), .second, d6, .val (.long z7), .second, .val (.long z9), .second, d11, .val (.long z12), .second, .val (.long z14), .second, d16, .val (.long z17), .second, .unset] []))) ?_ (fun _ k => XS.icmpNo X.here hx rfl (hb hby at_107) rfl (XT.ii_eq_f hc107) k)
      exact b110 T _ _ X eT N Zs z0 z2 z4 (d6) od6 z7 z9 (d11) od11 z12 z14 (d16) od16 z17
  have b102 : ∀ (T : State) (L : List Loc) (h : Heap) (X : Stand p l e room_1 s m #[(.long p0), (.long p1)] below meth c T L 3 3) (eT : T.heap = h) (N : Fr n0 L) (Zs : n0 ≤ h.size) (t0 : Int32) (z0 : Int64) (z2 : Int64) (z4 : Int64) (d6 : Slot) (od6 : OneS d6) (z7 : Int64) (z9 : Int64) (d11 : Slot) (od11 : OneS d11) (z12 : Int64) (z14 : Int64) (d16 : Slot) (od16 : OneS d16) (z17 : Int64), Ends p e below s 4 4 (Q0 Z  h0 n0 (F0_102 t0)) (T.setTop (mkF m 102 #[.val (.long z0), .second, .val (.long z2), .second, .val (.long z4), .second, d6, .val (.long z7), .second, .val (.long z9), .second, d11, .val (.long z12), .second, .val (.long z14), .second, d16, .val (.long z17), .second, .unset] [(.int t0)])) := by
    intro T L h X eT N Zs t0 z0 z2 z4 d6 od6 z7 z9 d11 od11 z12 z14 d16 od16 z17
    refine Ends.step (u' := (T.setTop (mkF m 103 #[.val (.long z0), .second, .val (.long z2), .second, .val (.long z4), .second, d6, .val (.long z7), .second, .val (.long z9), .second, d11, .val (.long z12), .second, .val (.long z14), .second, d16, .val (.long z17), .second, .unset] [(.int (1 : Int32)), (.int t0)]))) ?_ (fun _ k => XT.iconstV X.here hx rfl (1 : Int32) (hb hby at_102) rfl k)
    refine Ends.step (u' := (T.setTop (mkF m 107 #[.val (.long z0), .second, .val (.long z2), .second, .val (.long z4), .second, d6, .val (.long z7), .second, .val (.long z9), .second, d11, .val (.long z12), .second, .val (.long z14), .second, d16, .val (.long z17), .second, .unset] [(.int (1 : Int32)), (.int t0)]))) ?_ (fun _ k => XS.goto X.here hx rfl (pc0 := 103) (pc' := 107) rfl (hb hby at_103) (by decide) (by decide) k)
    exact b107 T _ _ X eT N Zs (1 : Int32) t0 z0 z2 z4 (d6) od6 z7 z9 (d11) od11 z12 z14 (d16) od16 z17
  have b106 : ∀ (T : State) (L : List Loc) (h : Heap) (X : Stand p l e room_1 s m #[(.long p0), (.long p1)] below meth c T L 3 3) (eT : T.heap = h) (N : Fr n0 L) (Zs : n0 ≤ h.size) (t0 : Int32) (z0 : Int64) (z2 : Int64) (z4 : Int64) (d6 : Slot) (od6 : OneS d6) (z7 : Int64) (z9 : Int64) (d11 : Slot) (od11 : OneS d11) (z12 : Int64) (z14 : Int64) (d16 : Slot) (od16 : OneS d16) (z17 : Int64), Ends p e below s 4 4 (Q0 Z  h0 n0 (F0_106 t0)) (T.setTop (mkF m 106 #[.val (.long z0), .second, .val (.long z2), .second, .val (.long z4), .second, d6, .val (.long z7), .second, .val (.long z9), .second, d11, .val (.long z12), .second, .val (.long z14), .second, d16, .val (.long z17), .second, .unset] [(.int t0)])) := by
    intro T L h X eT N Zs t0 z0 z2 z4 d6 od6 z7 z9 d11 od11 z12 z14 d16 od16 z17
    refine Ends.step (u' := (T.setTop (mkF m 107 #[.val (.long z0), .second, .val (.long z2), .second, .val (.long z4), .second, d6, .val (.long z7), .second, .val (.long z9), .second, d11, .val (.long z12), .second, .val (.long z14), .second, d16, .val (.long z17), .second, .unset] [(.int (0 : Int32)), (.int t0)]))) ?_ (fun _ k => XT.iconstV X.here hx rfl (0 : Int32) (hb hby at_106) rfl k)
    exact b107 T _ _ X eT N Zs (0 : Int32) t0 z0 z2 z4 (d6) od6 z7 z9 (d11) od11 z12 z14 (d16) od16 z17
  have b95 : ∀ (T : State) (L : List Loc) (h : Heap) (X : Stand p l e room_1 s m #[(.long p0), (.long p1)] below meth c T L 3 3) (eT : T.heap = h) (N : Fr n0 L) (Zs : n0 ≤ h.size) (x0 : Int64) (x14 : Int64) (t0 : Int32) (z2 : Int64) (z4 : Int64) (d6 : Slot) (od6 : OneS d6) (z7 : Int64) (z9 : Int64) (d11 : Slot) (od11 : OneS d11) (z12 : Int64) (d16 : Slot) (od16 : OneS d16) (z17 : Int64), Ends p e below s 4 4 (Q0 Z  h0 n0 (F0_95 x0 x14 t0)) (T.setTop (mkF m 95 #[.val (.long x0), .second, .val (.long z2), .second, .val (.long z4), .second, d6, .val (.long z7), .second, .val (.long z9), .second, d11, .val (.long z12), .second, .val (.long x14), .second, d16, .val (.long z17), .second, .unset] [(.int t0)])) := by
    intro T L h X eT N Zs x0 x14 t0 z2 z4 d6 od6 z7 z9 d11 od11 z12 d16 od16 z17
    refine Ends.step (u' := (T.setTop (mkF m 97 #[.val (.long x0), .second, .val (.long z2), .second, .val (.long z4), .second, d6, .val (.long z7), .second, .val (.long z9), .second, d11, .val (.long z12), .second, .val (.long x14), .second, d16, .val (.long z17), .second, .unset] [(.long x14), (.int t0)]))) ?_ (fun _ k => XT.lload X.here hx rfl (hb hby at_95) rfl k)
    refine Ends.step (u' := (T.setTop (mkF m 98 #[.val (.long x0), .second, .val (.long z2), .second, .val (.long z4), .second, d6, .val (.long z7), .second, .val (.long z9), .second, d11, .val (.long z12), .second, .val (.long x14), .second, d16, .val (.long z17), .second, .unset] [(.long x0), (.long x14), (.int t0)]))) ?_ (fun _ k => XT.lloadN X.here hx rfl (hb hby at_97) rfl k)
    refine Ends.step (u' := (T.setTop (mkF m 99 #[.val (.long x0), .second, .val (.long z2), .second, .val (.long z4), .second, d6, .val (.long z7), .second, .val (.long z9), .second, d11, .val (.long z12), .second, .val (.long x14), .second, d16, .val (.long z17), .second, .unset] [(.int (XT.cmpL x14 x0)), (.int t0)]))) ?_ (fun _ k => XT.lcmp X.here hx rfl (hb hby at_98) rfl k)
    by_cases hc99 : x14 = x0
    · refine Eq.mp (congrArg (fun z => Ends p e below s 4 4 (Q0 Z  h0 n0 z) (T.setTop (mkF m 99 #[.val (.long x0), .second, .val (.long z2), .second, .val (.long z4), .second, d6, .val (.long z7), .second, .val (.long z9), .second, d11, .val (.long z12), .second, .val (.long x14), .second, d16, .val (.long z17), .second, .unset] [(.int (XT.cmpL x14 x0)), (.int t0)]))) (show (F0_95 x0 x14 t0) = (F0_102 t0) from (if_pos hc99)).symm) ?_
      refine Ends.step (u' := (T.setTop (mkF m 102 #[.val (.long x0), .second, .val (.long z2), .second, .val (.long z4), .second, d6, .val (.long z7), .second, .val (.long z9), .second, d11, .val (.long z12), .second, .val (.long x14), .second, d16, .val (.long z17), .second, .unset] [(.int t0)]))) ?_ (fun _ k => XS.ifNo X.here hx rfl (hb hby at_99) rfl (XT.ll_ne_f hc99) k)
      exact b102 T _ _ X eT N Zs t0 x0 z2 z4 (d6) od6 z7 z9 (d11) od11 z12 x14 (d16) od16 z17
    · refine Eq.mp (congrArg (fun z => Ends p e below s 4 4 (Q0 Z  h0 n0 z) (T.setTop (mkF m 99 #[.val (.long x0), .second, .val (.long z2), .second, .val (.long z4), .second, d6, .val (.long z7), .second, .val (.long z9), .second, d11, .val (.long z12), .second, .val (.long x14), .second, d16, .val (.long z17), .second, .unset] [(.int (XT.cmpL x14 x0)), (.int t0)]))) (show (F0_95 x0 x14 t0) = (F0_106 t0) from (if_neg hc99)).symm) ?_
      refine Ends.step (u' := (T.setTop (mkF m 106 #[.val (.long x0), .second, .val (.long z2), .second, .val (.long z4), .second, d6, .val (.long z7), .second, .val (.long z9), .second, d11, .val (.long z12), .second, .val (.long x14), .second, d16, .val (.long z17), .second, .unset] [(.int t0)]))) ?_ (fun _ k => XS.ifYes X.here hx rfl (pc0 := 99) (pc' := 106) rfl (hb hby at_99) rfl (XT.ll_ne_t hc99) (by decide) (by decide) k)
      exact b106 T _ _ X eT N Zs t0 x0 z2 z4 (d6) od6 z7 z9 (d11) od11 z12 x14 (d16) od16 z17
  have b90 : ∀ (T : State) (L : List Loc) (h : Heap) (X : Stand p l e room_1 s m #[(.long p0), (.long p1)] below meth c T L 3 3) (eT : T.heap = h) (N : Fr n0 L) (Zs : n0 ≤ h.size) (x0 : Int64) (x14 : Int64) (z2 : Int64) (z4 : Int64) (d6 : Slot) (od6 : OneS d6) (z7 : Int64) (z9 : Int64) (d11 : Slot) (od11 : OneS d11) (z12 : Int64) (d16 : Slot) (od16 : OneS d16) (z17 : Int64), Ends p e below s 4 4 (Q0 Z  h0 n0 (F0_90 x0 x14)) (T.setTop (mkF m 90 #[.val (.long x0), .second, .val (.long z2), .second, .val (.long z4), .second, d6, .val (.long z7), .second, .val (.long z9), .second, d11, .val (.long z12), .second, .val (.long x14), .second, d16, .val (.long z17), .second, .unset] [])) := by
    intro T L h X eT N Zs x0 x14 z2 z4 d6 od6 z7 z9 d11 od11 z12 d16 od16 z17
    refine Ends.step (u' := (T.setTop (mkF m 91 #[.val (.long x0), .second, .val (.long z2), .second, .val (.long z4), .second, d6, .val (.long z7), .second, .val (.long z9), .second, d11, .val (.long z12), .second, .val (.long x14), .second, d16, .val (.long z17), .second, .unset] [(.int (1 : Int32))]))) ?_ (fun _ k => XT.iconstV X.here hx rfl (1 : Int32) (hb hby at_90) rfl k)
    refine Ends.step (u' := (T.setTop (mkF m 95 #[.val (.long x0), .second, .val (.long z2), .second, .val (.long z4), .second, d6, .val (.long z7), .second, .val (.long z9), .second, d11, .val (.long z12), .second, .val (.long x14), .second, d16, .val (.long z17), .second, .unset] [(.int (1 : Int32))]))) ?_ (fun _ k => XS.goto X.here hx rfl (pc0 := 91) (pc' := 95) rfl (hb hby at_91) (by decide) (by decide) k)
    exact b95 T _ _ X eT N Zs x0 x14 (1 : Int32) z2 z4 (d6) od6 z7 z9 (d11) od11 z12 (d16) od16 z17
  have b94 : ∀ (T : State) (L : List Loc) (h : Heap) (X : Stand p l e room_1 s m #[(.long p0), (.long p1)] below meth c T L 3 3) (eT : T.heap = h) (N : Fr n0 L) (Zs : n0 ≤ h.size) (x0 : Int64) (x14 : Int64) (z2 : Int64) (z4 : Int64) (d6 : Slot) (od6 : OneS d6) (z7 : Int64) (z9 : Int64) (d11 : Slot) (od11 : OneS d11) (z12 : Int64) (d16 : Slot) (od16 : OneS d16) (z17 : Int64), Ends p e below s 4 4 (Q0 Z  h0 n0 (F0_94 x0 x14)) (T.setTop (mkF m 94 #[.val (.long x0), .second, .val (.long z2), .second, .val (.long z4), .second, d6, .val (.long z7), .second, .val (.long z9), .second, d11, .val (.long z12), .second, .val (.long x14), .second, d16, .val (.long z17), .second, .unset] [])) := by
    intro T L h X eT N Zs x0 x14 z2 z4 d6 od6 z7 z9 d11 od11 z12 d16 od16 z17
    refine Ends.step (u' := (T.setTop (mkF m 95 #[.val (.long x0), .second, .val (.long z2), .second, .val (.long z4), .second, d6, .val (.long z7), .second, .val (.long z9), .second, d11, .val (.long z12), .second, .val (.long x14), .second, d16, .val (.long z17), .second, .unset] [(.int (0 : Int32))]))) ?_ (fun _ k => XT.iconstV X.here hx rfl (0 : Int32) (hb hby at_94) rfl k)
    exact b95 T _ _ X eT N Zs x0 x14 (0 : Int32) z2 z4 (d6) od6 z7 z9 (d11) od11 z12 (d16) od16 z17
  have b82 : ∀ (T : State) (L : List Loc) (h : Heap) (X : Stand p l e room_1 s m #[(.long p0), (.long p1)] below meth c T L 3 3) (eT : T.heap = h) (N : Fr n0 L) (Zs : n0 ≤ h.size) (x0 : Int64) (x7 : Int64) (x14 : Int64) (x17 : Int64) (z2 : Int64) (z4 : Int64) (d6 : Slot) (od6 : OneS d6) (z9 : Int64) (d11 : Slot) (od11 : OneS d11) (z12 : Int64) (d16 : Slot) (od16 : OneS d16), Ends p e below s 4 4 (Q0 Z  h0 n0 (F0_82 x0 x7 x14 x17)) (T.setTop (mkF m 82 #[.val (.long x0), .second, .val (.long z2), .second, .val (.long z4), .second, d6, .val (.long x7), .second, .val (.long z9), .second, d11, .val (.long z12), .second, .val (.long x14), .second, d16, .val (.long x17), .second, .unset] [])) := by
    intro T L h X eT N Zs x0 x7 x14 x17 z2 z4 d6 od6 z9 d11 od11 z12 d16 od16
    refine Ends.step (u' := (T.setTop (mkF m 84 #[.val (.long x0), .second, .val (.long z2), .second, .val (.long z4), .second, d6, .val (.long x7), .second, .val (.long z9), .second, d11, .val (.long z12), .second, .val (.long x14), .second, d16, .val (.long x17), .second, .unset] [(.long x17)]))) ?_ (fun _ k => XT.lload X.here hx rfl (hb hby at_82) rfl k)
    refine Ends.step (u' := (T.setTop (mkF m 86 #[.val (.long x0), .second, .val (.long z2), .second, .val (.long z4), .second, d6, .val (.long x7), .second, .val (.long z9), .second, d11, .val (.long z12), .second, .val (.long x14), .second, d16, .val (.long x17), .second, .unset] [(.long x7), (.long x17)]))) ?_ (fun _ k => XT.lload X.here hx rfl (hb hby at_84) rfl k)
    refine Ends.step (u' := (T.setTop (mkF m 87 #[.val (.long x0), .second, .val (.long z2), .second, .val (.long z4), .second, d6, .val (.long x7), .second, .val (.long z9), .second, d11, .val (.long z12), .second, .val (.long x14), .second, d16, .val (.long x17), .second, .unset] [(.int (XT.cmpL x17 x7))]))) ?_ (fun _ k => XT.lcmp X.here hx rfl (hb hby at_86) rfl k)
    by_cases hc87 : x17 = x7
    · refine Eq.mp (congrArg (fun z => Ends p e below s 4 4 (Q0 Z  h0 n0 z) (T.setTop (mkF m 87 #[.val (.long x0), .second, .val (.long z2), .second, .val (.long z4), .second, d6, .val (.long x7), .second, .val (.long z9), .second, d11, .val (.long z12), .second, .val (.long x14), .second, d16, .val (.long x17), .second, .unset] [(.int (XT.cmpL x17 x7))]))) (show (F0_82 x0 x7 x14 x17) = (F0_90 x0 x14) from (if_pos hc87)).symm) ?_
      refine Ends.step (u' := (T.setTop (mkF m 90 #[.val (.long x0), .second, .val (.long z2), .second, .val (.long z4), .second, d6, .val (.long x7), .second, .val (.long z9), .second, d11, .val (.long z12), .second, .val (.long x14), .second, d16, .val (.long x17), .second, .unset] []))) ?_ (fun _ k => XS.ifNo X.here hx rfl (hb hby at_87) rfl (XT.ll_ne_f hc87) k)
      exact b90 T _ _ X eT N Zs x0 x14 z2 z4 (d6) od6 x7 z9 (d11) od11 z12 (d16) od16 x17
    · refine Eq.mp (congrArg (fun z => Ends p e below s 4 4 (Q0 Z  h0 n0 z) (T.setTop (mkF m 87 #[.val (.long x0), .second, .val (.long z2), .second, .val (.long z4), .second, d6, .val (.long x7), .second, .val (.long z9), .second, d11, .val (.long z12), .second, .val (.long x14), .second, d16, .val (.long x17), .second, .unset] [(.int (XT.cmpL x17 x7))]))) (show (F0_82 x0 x7 x14 x17) = (F0_94 x0 x14) from (if_neg hc87)).symm) ?_
      refine Ends.step (u' := (T.setTop (mkF m 94 #[.val (.long x0), .second, .val (.long z2), .second, .val (.long z4), .second, d6, .val (.long x7), .second, .val (.long z9), .second, d11, .val (.long z12), .second, .val (.long x14), .second, d16, .val (.long x17), .second, .unset] []))) ?_ (fun _ k => XS.ifYes X.here hx rfl (pc0 := 87) (pc' := 94) rfl (hb hby at_87) rfl (XT.ll_ne_t hc87) (by decide) (by decide) k)
      exact b94 T _ _ X eT N Zs x0 x14 z2 z4 (d6) od6 x7 z9 (d11) od11 z12 (d16) od16 x17
  have b64 : ∀ (T : State) (L : List Loc) (h : Heap) (X : Stand p l e room_1 s m #[(.long p0), (.long p1)] below meth c T L 2 2) (eT : T.heap = h) (N : Fr n0 L) (Zs : n0 ≤ h.size) (x0 : Int64) (x7 : Int64) (x14 : Int64) (z2 : Int64) (z4 : Int64) (d6 : Slot) (od6 : OneS d6) (z9 : Int64) (d11 : Slot) (od11 : OneS d11) (z12 : Int64), Ends p e below s 4 4 (Q0 Z  h0 n0 (F0_64 x0 x7 x14)) (T.setTop (mkF m 64 #[.val (.long x0), .second, .val (.long z2), .second, .val (.long z4), .second, d6, .val (.long x7), .second, .val (.long z9), .second, d11, .val (.long z12), .second, .val (.long x14), .second, .unset, .unset, .unset, .unset] [])) := by
    intro T L h X eT N Zs x0 x7 x14 z2 z4 d6 od6 z9 d11 od11 z12
    refine Ends.newO X hx hZ hown (hw _ (List.mem_of_getElem? (i := 1) rfl)) (hw _ (List.mem_of_getElem? (i := 2) rfl)) (hw _ (List.mem_of_getElem? (i := 3) rfl)) eT (g := (mkF m 64 #[.val (.long x0), .second, .val (.long z2), .second, .val (.long z4), .second, d6, .val (.long x7), .second, .val (.long z9), .second, d11, .val (.long z12), .second, .val (.long x14), .second, .unset, .unset, .unset, .unset] [])) rfl (hb hby at_64) (by decide) (by decide) (fun T13 h13 a13 X13 e13 E13 q13 Y13 D13 => ?_)
    have Fd14 : Fld Z h13 a13 "com/example/holywell/holywell/generate/Draws" "state" "J" (.long (0 : Int64)) := D13 (Or.inl (hw _ (List.mem_of_getElem? (i := 11) rfl))) (ty := .long) (by decide)
    have g15 : n0 ≤ a13 := q13 ▸ Zs
    have Z16 := Nat.le_trans Zs E13.1
    show Ends p e below s _ _ _ (T13.setTop (mkF m 67 #[.val (.long x0), .second, .val (.long z2), .second, .val (.long z4), .second, d6, .val (.long x7), .second, .val (.long z9), .second, d11, .val (.long z12), .second, .val (.long x14), .second, .unset, .unset, .unset, .unset] [(.ref a13)]))
    refine Ends.step (u' := (T13.setTop (mkF m 68 #[.val (.long x0), .second, .val (.long z2), .second, .val (.long z4), .second, d6, .val (.long x7), .second, .val (.long z9), .second, d11, .val (.long z12), .second, .val (.long x14), .second, .unset, .unset, .unset, .unset] [(.ref a13), (.ref a13)]))) ?_ (fun _ k => XS.dup X13.here hx rfl (hb hby at_67) rfl rfl k)
    refine Ends.step (u' := (T13.setTop (mkF m 70 #[.val (.long x0), .second, .val (.long z2), .second, .val (.long z4), .second, d6, .val (.long x7), .second, .val (.long z9), .second, d11, .val (.long z12), .second, .val (.long x14), .second, .unset, .unset, .unset, .unset] [(.long x14), (.ref a13), (.ref a13)]))) ?_ (fun _ k => XT.lload X13.here hx rfl (hb hby at_68) rfl k)
    refine Ends.callC X13 hx hZ (y := (⟨"com/example/holywell/holywell/generate/Draws", "<init>", "(J)V"⟩ : MethodName)) rfl hown (hw _ (List.mem_of_getElem? (i := 4) rfl)) (hw _ (List.mem_of_getElem? (i := 5) rfl)) (hw _ (List.mem_of_getElem? (i := 3) rfl)) (hw _ (List.mem_of_getElem? (i := 6) rfl)) (by decide) (rm1 l Z a0 hw x14 (0 : Int64) a13 h13 n0 Z16 Y13 Fd14 g15) 1 (by decide) (by decide) e13  (g := (mkF m 70 #[.val (.long x0), .second, .val (.long z2), .second, .val (.long z4), .second, d6, .val (.long x7), .second, .val (.long z9), .second, d11, .val (.long z12), .second, .val (.long x14), .second, .unset, .unset, .unset, .unset] [(.long x14), (.ref a13), (.ref a13)])) rfl (by rw [hml]; rfl) a13 [(.long x14)] [(.ref a13)] (lenOf pd_0 rfl) rfl (by show 2 * 0 + _ ≤ _; exact Nat.le_of_eq rfl) (hb hby at_70) rfl (by decide) (by decide) (fun v17 T17 L17 X17 hQ17 => ?_)
    obtain ⟨rfl, Nq17, Kq17, Fd18⟩ := hQ17
    have N17 := Fr.app N Nq17
    show Ends p e below s _ _ _ (T17.setTop (mkF m 73 #[.val (.long x0), .second, .val (.long z2), .second, .val (.long z4), .second, d6, .val (.long x7), .second, .val (.long z9), .second, d11, .val (.long z12), .second, .val (.long x14), .second, .unset, .unset, .unset, .unset] [(.ref a13)]))
    have E19 := Y13.keep Kq17
    have Z20 := Nat.le_trans Z16 Kq17.1
    refine Ends.step (u' := (T17.setTop (mkF m 75 #[.val (.long x0), .second, .val (.long z2), .second, .val (.long z4), .second, d6, .val (.long x7), .second, .val (.long z9), .second, d11, .val (.long z12), .second, .val (.long x14), .second, .val (.ref a13), .unset, .unset, .unset] []))) ?_ (fun _ k => XS.astore X17.here hx rfl (hb hby at_73) rfl rfl (l' := #[.val (.long x0), .second, .val (.long z2), .second, .val (.long z4), .second, d6, .val (.long x7), .second, .val (.long z9), .second, d11, .val (.long z12), .second, .val (.long x14), .second, .val (.ref a13), .unset, .unset, .unset]) rfl k)
    refine Ends.step (u' := (T17.setTop (mkF m 77 #[.val (.long x0), .second, .val (.long z2), .second, .val (.long z4), .second, d6, .val (.long x7), .second, .val (.long z9), .second, d11, .val (.long z12), .second, .val (.long x14), .second, .val (.ref a13), .unset, .unset, .unset] [(.ref a13)]))) ?_ (fun _ k => XS.aload X17.here hx rfl (hb hby at_75) rfl rfl k)
    refine Ends.callV X17 hx hZ hown (hw _ (List.mem_of_getElem? (i := 12) rfl)) (hw _ (List.mem_of_getElem? (i := 13) rfl)) (hw _ (List.mem_of_getElem? (i := 15) rfl)) (hw _ (List.mem_of_getElem? (i := 14) rfl)) (hw _ (List.mem_of_getElem? (i := 3) rfl)) (hw _ (List.mem_of_getElem? (i := 16) rfl)) (by decide) (rm3 l Z a0 hw (F1 x14 (0 : Int64)) a13 T17.heap n0 Z20 E19 Fd18 g15) 0 (by decide) (by decide) rfl a13 E19 (g := (mkF m 77 #[.val (.long x0), .second, .val (.long z2), .second, .val (.long z4), .second, d6, .val (.long x7), .second, .val (.long z9), .second, d11, .val (.long z12), .second, .val (.long x14), .second, .val (.ref a13), .unset, .unset, .unset] [(.ref a13)])) rfl (by rw [hml]; rfl)  [] [] (lenOf pd_1 rfl) rfl (by show 2 * 0 + _ ≤ _; exact Nat.le_of_eq rfl) (hb hby at_77) rfl (by decide) (by decide) (fun v21 T21 L21 X21 hQ21 => ?_)
    obtain ⟨rfl, Nq21, Kq21, Fd22⟩ := hQ21
    have N21 := Fr.app N17 Nq21
    show Ends p e below s _ _ _ (T21.setTop (mkF m 80 #[.val (.long x0), .second, .val (.long z2), .second, .val (.long z4), .second, d6, .val (.long x7), .second, .val (.long z9), .second, d11, .val (.long z12), .second, .val (.long x14), .second, .val (.ref a13), .unset, .unset, .unset] [(.long (F3 (F1 x14 (0 : Int64))).1)]))
    have E23 := E19.keep Kq21
    have Z24 := Nat.le_trans Z20 Kq21.1
    refine Ends.step (u' := (T21.setTop (mkF m 82 #[.val (.long x0), .second, .val (.long z2), .second, .val (.long z4), .second, d6, .val (.long x7), .second, .val (.long z9), .second, d11, .val (.long z12), .second, .val (.long x14), .second, .val (.ref a13), .val (.long (F3 (F1 x14 (0 : Int64))).1), .second, .unset] []))) ?_ (fun _ k => XT.lstore X21.here hx rfl (hb hby at_80) rfl (l' := #[.val (.long x0), .second, .val (.long z2), .second, .val (.long z4), .second, d6, .val (.long x7), .second, .val (.long z9), .second, d11, .val (.long z12), .second, .val (.long x14), .second, .val (.ref a13), .val (.long (F3 (F1 x14 (0 : Int64))).1), .second, .unset]) rfl k)
    exact b82 T21 _ _ X21 rfl N21 Z24 x0 x7 x14 (F3 (F1 x14 (0 : Int64))).1 z2 z4 (d6) od6 z9 (d11) od11 z12 (.val (.ref a13)) (Or.inr ⟨_, rfl, rfl⟩)
  have b59 : ∀ (T : State) (L : List Loc) (h : Heap) (X : Stand p l e room_1 s m #[(.long p0), (.long p1)] below meth c T L 2 2) (eT : T.heap = h) (N : Fr n0 L) (Zs : n0 ≤ h.size) (x0 : Int64) (x2 : Int64) (x7 : Int64) (z4 : Int64) (d6 : Slot) (od6 : OneS d6) (z9 : Int64) (d11 : Slot) (od11 : OneS d11) (z12 : Int64), Ends p e below s 4 4 (Q0 Z  h0 n0 (F0_59 x0 x2 x7)) (T.setTop (mkF m 59 #[.val (.long x0), .second, .val (.long x2), .second, .val (.long z4), .second, d6, .val (.long x7), .second, .val (.long z9), .second, d11, .val (.long z12), .second, .unset, .unset, .unset, .unset, .unset, .unset] [])) := by
    intro T L h X eT N Zs x0 x2 x7 z4 d6 od6 z9 d11 od11 z12
    refine Ends.step (u' := (T.setTop (mkF m 60 #[.val (.long x0), .second, .val (.long x2), .second, .val (.long z4), .second, d6, .val (.long x7), .second, .val (.long z9), .second, d11, .val (.long z12), .second, .unset, .unset, .unset, .unset, .unset, .unset] [(.long x0)]))) ?_ (fun _ k => XT.lloadN X.here hx rfl (hb hby at_59) rfl k)
    refine Ends.step (u' := (T.setTop (mkF m 61 #[.val (.long x0), .second, .val (.long x2), .second, .val (.long z4), .second, d6, .val (.long x7), .second, .val (.long z9), .second, d11, .val (.long z12), .second, .unset, .unset, .unset, .unset, .unset, .unset] [(.long x2), (.long x0)]))) ?_ (fun _ k => XT.lloadN X.here hx rfl (hb hby at_60) rfl k)
    refine Ends.step (u' := (T.setTop (mkF m 62 #[.val (.long x0), .second, .val (.long x2), .second, .val (.long z4), .second, d6, .val (.long x7), .second, .val (.long z9), .second, d11, .val (.long z12), .second, .unset, .unset, .unset, .unset, .unset, .unset] [(.long (x0 ^^^ x2))]))) ?_ (fun _ k => XT.lxor X.here hx rfl (hb hby at_61) rfl k)
    refine Ends.step (u' := (T.setTop (mkF m 64 #[.val (.long x0), .second, .val (.long x2), .second, .val (.long z4), .second, d6, .val (.long x7), .second, .val (.long z9), .second, d11, .val (.long z12), .second, .val (.long (x0 ^^^ x2)), .second, .unset, .unset, .unset, .unset] []))) ?_ (fun _ k => XT.lstore X.here hx rfl (hb hby at_62) rfl (l' := #[.val (.long x0), .second, .val (.long x2), .second, .val (.long z4), .second, d6, .val (.long x7), .second, .val (.long z9), .second, d11, .val (.long z12), .second, .val (.long (x0 ^^^ x2)), .second, .unset, .unset, .unset, .unset]) rfl k)
    exact b64 T _ _ X eT N Zs x0 x7 (x0 ^^^ x2) x2 z4 (d6) od6 z9 (d11) od11 z12
  have b49 : ∀ (T : State) (L : List Loc) (h : Heap) (X : Stand p l e room_1 s m #[(.long p0), (.long p1)] below meth c T L 2 2) (eT : T.heap = h) (N : Fr n0 L) (Zs : n0 ≤ h.size) (x0 : Int64) (x2 : Int64) (x7 : Int64) (x9 : Int64) (x12 : Int64) (z4 : Int64) (d6 : Slot) (od6 : OneS d6) (d11 : Slot) (od11 : OneS d11), Ends p e below s 4 4 (Q0 Z  h0 n0 (F0_49 x0 x2 x7 x9 x12)) (T.setTop (mkF m 49 #[.val (.long x0), .second, .val (.long x2), .second, .val (.long z4), .second, d6, .val (.long x7), .second, .val (.long x9), .second, d11, .val (.long x12), .second, .unset, .unset, .unset, .unset, .unset, .unset] [])) := by
    intro T L h X eT N Zs x0 x2 x7 x9 x12 z4 d6 od6 d11 od11
    refine Ends.step (u' := (T.setTop (mkF m 51 #[.val (.long x0), .second, .val (.long x2), .second, .val (.long z4), .second, d6, .val (.long x7), .second, .val (.long x9), .second, d11, .val (.long x12), .second, .unset, .unset, .unset, .unset, .unset, .unset] [(.long x9)]))) ?_ (fun _ k => XT.lload X.here hx rfl (hb hby at_49) rfl k)
    refine Ends.step (u' := (T.setTop (mkF m 53 #[.val (.long x0), .second, .val (.long x2), .second, .val (.long z4), .second, d6, .val (.long x7), .second, .val (.long x9), .second, d11, .val (.long x12), .second, .unset, .unset, .unset, .unset, .unset, .unset] [(.long x12), (.long x9)]))) ?_ (fun _ k => XT.lload X.here hx rfl (hb hby at_51) rfl k)
    refine Ends.step (u' := (T.setTop (mkF m 54 #[.val (.long x0), .second, .val (.long x2), .second, .val (.long z4), .second, d6, .val (.long x7), .second, .val (.long x9), .second, d11, .val (.long x12), .second, .unset, .unset, .unset, .unset, .unset, .unset] [(.int (XT.cmpL x9 x12))]))) ?_ (fun _ k => XT.lcmp X.here hx rfl (hb hby at_53) rfl k)
    by_cases hc54 : x9 = x12
    · refine Eq.mp (congrArg (fun z => Ends p e below s 4 4 (Q0 Z  h0 n0 z) (T.setTop (mkF m 54 #[.val (.long x0), .second, .val (.long x2), .second, .val (.long z4), .second, d6, .val (.long x7), .second, .val (.long x9), .second, d11, .val (.long x12), .second, .unset, .unset, .unset, .unset, .unset, .unset] [(.int (XT.cmpL x9 x12))]))) (show (F0_49 x0 x2 x7 x9 x12) = (F0_59 x0 x2 x7) from (if_pos hc54)).symm) ?_
      refine Ends.step (u' := (T.setTop (mkF m 59 #[.val (.long x0), .second, .val (.long x2), .second, .val (.long z4), .second, d6, .val (.long x7), .second, .val (.long x9), .second, d11, .val (.long x12), .second, .unset, .unset, .unset, .unset, .unset, .unset] []))) ?_ (fun _ k => XS.ifYes X.here hx rfl (pc0 := 54) (pc' := 59) rfl (hb hby at_54) rfl (XT.ll_eq_t hc54) (by decide) (by decide) k)
      exact b59 T _ _ X eT N Zs x0 x2 x7 z4 (d6) od6 x9 (d11) od11 x12
    · refine Eq.mp (congrArg (fun z => Ends p e below s 4 4 (Q0 Z  h0 n0 z) (T.setTop (mkF m 54 #[.val (.long x0), .second, .val (.long x2), .second, .val (.long z4), .second, d6, .val (.long x7), .second, .val (.long x9), .second, d11, .val (.long x12), .second, .unset, .unset, .unset, .unset, .unset, .unset] [(.int (XT.cmpL x9 x12))]))) (show (F0_49 x0 x2 x7 x9 x12) = F0_57 from (if_neg hc54)).symm) ?_
      refine Ends.step (u' := (T.setTop (mkF m 57 #[.val (.long x0), .second, .val (.long x2), .second, .val (.long z4), .second, d6, .val (.long x7), .second, .val (.long x9), .second, d11, .val (.long x12), .second, .unset, .unset, .unset, .unset, .unset, .unset] []))) ?_ (fun _ k => XS.ifNo X.here hx rfl (hb hby at_54) rfl (XT.ll_eq_f hc54) k)
      exact b57 T _ _ X eT N Zs x0 x2 z4 (d6) od6 x7 x9 (d11) od11 x12
  have b29 : ∀ (T : State) (L : List Loc) (h : Heap) (X : Stand p l e room_1 s m #[(.long p0), (.long p1)] below meth c T L 1 1) (eT : T.heap = h) (N : Fr n0 L) (Zs : n0 ≤ h.size) (x0 : Int64) (x2 : Int64) (x4 : Int64) (x7 : Int64) (x9 : Int64) (d6 : Slot) (od6 : OneS d6), Ends p e below s 4 4 (Q0 Z  h0 n0 (F0_29 x0 x2 x4 x7 x9)) (T.setTop (mkF m 29 #[.val (.long x0), .second, .val (.long x2), .second, .val (.long x4), .second, d6, .val (.long x7), .second, .val (.long x9), .second, .unset, .unset, .unset, .unset, .unset, .unset, .unset, .unset, .unset] [])) := by
    intro T L h X eT N Zs x0 x2 x4 x7 x9 d6 od6
    refine Ends.newO X hx hZ hown (hw _ (List.mem_of_getElem? (i := 1) rfl)) (hw _ (List.mem_of_getElem? (i := 2) rfl)) (hw _ (List.mem_of_getElem? (i := 3) rfl)) eT (g := (mkF m 29 #[.val (.long x0), .second, .val (.long x2), .second, .val (.long x4), .second, d6, .val (.long x7), .second, .val (.long x9), .second, .unset, .unset, .unset, .unset, .unset, .unset, .unset, .unset, .unset] [])) rfl (hb hby at_29) (by decide) (by decide) (fun T25 h25 a25 X25 e25 E25 q25 Y25 D25 => ?_)
    have Fd26 : Fld Z h25 a25 "com/example/holywell/holywell/generate/Draws" "state" "J" (.long (0 : Int64)) := D25 (Or.inl (hw _ (List.mem_of_getElem? (i := 11) rfl))) (ty := .long) (by decide)
    have g27 : n0 ≤ a25 := q25 ▸ Zs
    have Z28 := Nat.le_trans Zs E25.1
    show Ends p e below s _ _ _ (T25.setTop (mkF m 32 #[.val (.long x0), .second, .val (.long x2), .second, .val (.long x4), .second, d6, .val (.long x7), .second, .val (.long x9), .second, .unset, .unset, .unset, .unset, .unset, .unset, .unset, .unset, .unset] [(.ref a25)]))
    refine Ends.step (u' := (T25.setTop (mkF m 33 #[.val (.long x0), .second, .val (.long x2), .second, .val (.long x4), .second, d6, .val (.long x7), .second, .val (.long x9), .second, .unset, .unset, .unset, .unset, .unset, .unset, .unset, .unset, .unset] [(.ref a25), (.ref a25)]))) ?_ (fun _ k => XS.dup X25.here hx rfl (hb hby at_32) rfl rfl k)
    refine Ends.step (u' := (T25.setTop (mkF m 34 #[.val (.long x0), .second, .val (.long x2), .second, .val (.long x4), .second, d6, .val (.long x7), .second, .val (.long x9), .second, .unset, .unset, .unset, .unset, .unset, .unset, .unset, .unset, .unset] [(.long x0), (.ref a25), (.ref a25)]))) ?_ (fun _ k => XT.lloadN X25.here hx rfl (hb hby at_33) rfl k)
    refine Ends.step (u' := (T25.setTop (mkF m 36 #[.val (.long x0), .second, .val (.long x2), .second, .val (.long x4), .second, d6, .val (.long x7), .second, .val (.long x9), .second, .unset, .unset, .unset, .unset, .unset, .unset, .unset, .unset, .unset] [(.long x4), (.long x0), (.ref a25), (.ref a25)]))) ?_ (fun _ k => XT.lload X25.here hx rfl (hb hby at_34) rfl k)
    refine Ends.step (u' := (T25.setTop (mkF m 37 #[.val (.long x0), .second, .val (.long x2), .second, .val (.long x4), .second, d6, .val (.long x7), .second, .val (.long x9), .second, .unset, .unset, .unset, .unset, .unset, .unset, .unset, .unset, .unset] [(.long (x0 + x4)), (.ref a25), (.ref a25)]))) ?_ (fun _ k => XT.ladd X25.here hx rfl (hb hby at_36) rfl k)
    refine Ends.callC X25 hx hZ (y := (⟨"com/example/holywell/holywell/generate/Draws", "<init>", "(J)V"⟩ : MethodName)) rfl hown (hw _ (List.mem_of_getElem? (i := 4) rfl)) (hw _ (List.mem_of_getElem? (i := 5) rfl)) (hw _ (List.mem_of_getElem? (i := 3) rfl)) (hw _ (List.mem_of_getElem? (i := 6) rfl)) (by decide) (rm1 l Z a0 hw (x0 + x4) (0 : Int64) a25 h25 n0 Z28 Y25 Fd26 g27) 1 (by decide) (by decide) e25  (g := (mkF m 37 #[.val (.long x0), .second, .val (.long x2), .second, .val (.long x4), .second, d6, .val (.long x7), .second, .val (.long x9), .second, .unset, .unset, .unset, .unset, .unset, .unset, .unset, .unset, .unset] [(.long (x0 + x4)), (.ref a25), (.ref a25)])) rfl (by rw [hml]; rfl) a25 [(.long (x0 + x4))] [(.ref a25)] (lenOf pd_0 rfl) rfl (by show 2 * 0 + _ ≤ _; exact Nat.le_of_eq rfl) (hb hby at_37) rfl (by decide) (by decide) (fun v29 T29 L29 X29 hQ29 => ?_)
    obtain ⟨rfl, Nq29, Kq29, Fd30⟩ := hQ29
    have N29 := Fr.app N Nq29
    show Ends p e below s _ _ _ (T29.setTop (mkF m 40 #[.val (.long x0), .second, .val (.long x2), .second, .val (.long x4), .second, d6, .val (.long x7), .second, .val (.long x9), .second, .unset, .unset, .unset, .unset, .unset, .unset, .unset, .unset, .unset] [(.ref a25)]))
    have E31 := Y25.keep Kq29
    have Z32 := Nat.le_trans Z28 Kq29.1
    refine Ends.step (u' := (T29.setTop (mkF m 42 #[.val (.long x0), .second, .val (.long x2), .second, .val (.long x4), .second, d6, .val (.long x7), .second, .val (.long x9), .second, .val (.ref a25), .unset, .unset, .unset, .unset, .unset, .unset, .unset, .unset] []))) ?_ (fun _ k => XS.astore X29.here hx rfl (hb hby at_40) rfl rfl (l' := #[.val (.long x0), .second, .val (.long x2), .second, .val (.long x4), .second, d6, .val (.long x7), .second, .val (.long x9), .second, .val (.ref a25), .unset, .unset, .unset, .unset, .unset, .unset, .unset, .unset]) rfl k)
    refine Ends.step (u' := (T29.setTop (mkF m 44 #[.val (.long x0), .second, .val (.long x2), .second, .val (.long x4), .second, d6, .val (.long x7), .second, .val (.long x9), .second, .val (.ref a25), .unset, .unset, .unset, .unset, .unset, .unset, .unset, .unset] [(.ref a25)]))) ?_ (fun _ k => XS.aload X29.here hx rfl (hb hby at_42) rfl rfl k)
    refine Ends.callV X29 hx hZ hown (hw _ (List.mem_of_getElem? (i := 12) rfl)) (hw _ (List.mem_of_getElem? (i := 13) rfl)) (hw _ (List.mem_of_getElem? (i := 15) rfl)) (hw _ (List.mem_of_getElem? (i := 14) rfl)) (hw _ (List.mem_of_getElem? (i := 3) rfl)) (hw _ (List.mem_of_getElem? (i := 16) rfl)) (by decide) (rm3 l Z a0 hw (F1 (x0 + x4) (0 : Int64)) a25 T29.heap n0 Z32 E31 Fd30 g27) 0 (by decide) (by decide) rfl a25 E31 (g := (mkF m 44 #[.val (.long x0), .second, .val (.long x2), .second, .val (.long x4), .second, d6, .val (.long x7), .second, .val (.long x9), .second, .val (.ref a25), .unset, .unset, .unset, .unset, .unset, .unset, .unset, .unset] [(.ref a25)])) rfl (by rw [hml]; rfl)  [] [] (lenOf pd_1 rfl) rfl (by show 2 * 0 + _ ≤ _; exact Nat.le_of_eq rfl) (hb hby at_44) rfl (by decide) (by decide) (fun v33 T33 L33 X33 hQ33 => ?_)
    obtain ⟨rfl, Nq33, Kq33, Fd34⟩ := hQ33
    have N33 := Fr.app N29 Nq33
    show Ends p e below s _ _ _ (T33.setTop (mkF m 47 #[.val (.long x0), .second, .val (.long x2), .second, .val (.long x4), .second, d6, .val (.long x7), .second, .val (.long x9), .second, .val (.ref a25), .unset, .unset, .unset, .unset, .unset, .unset, .unset, .unset] [(.long (F3 (F1 (x0 + x4) (0 : Int64))).1)]))
    have E35 := E31.keep Kq33
    have Z36 := Nat.le_trans Z32 Kq33.1
    refine Ends.step (u' := (T33.setTop (mkF m 49 #[.val (.long x0), .second, .val (.long x2), .second, .val (.long x4), .second, d6, .val (.long x7), .second, .val (.long x9), .second, .val (.ref a25), .val (.long (F3 (F1 (x0 + x4) (0 : Int64))).1), .second, .unset, .unset, .unset, .unset, .unset, .unset] []))) ?_ (fun _ k => XT.lstore X33.here hx rfl (hb hby at_47) rfl (l' := #[.val (.long x0), .second, .val (.long x2), .second, .val (.long x4), .second, d6, .val (.long x7), .second, .val (.long x9), .second, .val (.ref a25), .val (.long (F3 (F1 (x0 + x4) (0 : Int64))).1), .second, .unset, .unset, .unset, .unset, .unset, .unset]) rfl k)
    exact b49 T33 _ _ X33 rfl N33 Z36 x0 x2 x7 x9 (F3 (F1 (x0 + x4) (0 : Int64))).1 x4 (d6) od6 (.val (.ref a25)) (Or.inr ⟨_, rfl, rfl⟩)
  have b22 : ∀ (T : State) (L : List Loc) (h : Heap) (X : Stand p l e room_1 s m #[(.long p0), (.long p1)] below meth c T L 1 1) (eT : T.heap = h) (N : Fr n0 L) (Zs : n0 ≤ h.size) (cq5_state : Int64) (x0 : Int64) (x2 : Int64) (x4 : Int64) (x7 : Int64) (a_q5 : Addr) (g_q5 : n0 ≤ a_q5) (E_q5 : Exa Z h a_q5 "com/example/holywell/holywell/generate/Draws") (F_q5_state : Fld Z h a_q5 "com/example/holywell/holywell/generate/Draws" "state" "J" (.long cq5_state)), Ends p e below s 4 4 (Q0 Z  h0 n0 (F0_22 cq5_state x0 x2 x4 x7)) (T.setTop (mkF m 22 #[.val (.long x0), .second, .val (.long x2), .second, .val (.long x4), .second, .val (.ref a_q5), .val (.long x7), .second, .unset, .unset, .unset, .unset, .unset, .unset, .unset, .unset, .unset, .unset, .unset] [])) := by
    intro T L h X eT N Zs cq5_state x0 x2 x4 x7 a_q5 g_q5 E_q5 F_q5_state
    refine Ends.step (u' := (T.setTop (mkF m 24 #[.val (.long x0), .second, .val (.long x2), .second, .val (.long x4), .second, .val (.ref a_q5), .val (.long x7), .second, .unset, .unset, .unset, .unset, .unset, .unset, .unset, .unset, .unset, .unset, .unset] [(.ref a_q5)]))) ?_ (fun _ k => XS.aload X.here hx rfl (hb hby at_22) rfl rfl k)
    refine Ends.callV X hx hZ hown (hw _ (List.mem_of_getElem? (i := 12) rfl)) (hw _ (List.mem_of_getElem? (i := 13) rfl)) (hw _ (List.mem_of_getElem? (i := 15) rfl)) (hw _ (List.mem_of_getElem? (i := 14) rfl)) (hw _ (List.mem_of_getElem? (i := 3) rfl)) (hw _ (List.mem_of_getElem? (i := 16) rfl)) (by decide) (rm3 l Z a0 hw cq5_state a_q5 h n0 Zs E_q5 F_q5_state g_q5) 0 (by decide) (by decide) eT a_q5 E_q5 (g := (mkF m 24 #[.val (.long x0), .second, .val (.long x2), .second, .val (.long x4), .second, .val (.ref a_q5), .val (.long x7), .second, .unset, .unset, .unset, .unset, .unset, .unset, .unset, .unset, .unset, .unset, .unset] [(.ref a_q5)])) rfl (by rw [hml]; rfl)  [] [] (lenOf pd_1 rfl) rfl (by show 2 * 0 + _ ≤ _; exact Nat.le_of_eq rfl) (hb hby at_24) rfl (by decide) (by decide) (fun v37 T37 L37 X37 hQ37 => ?_)
    obtain ⟨rfl, Nq37, Kq37, Fd38⟩ := hQ37
    have N37 := Fr.app N Nq37
    show Ends p e below s _ _ _ (T37.setTop (mkF m 27 #[.val (.long x0), .second, .val (.long x2), .second, .val (.long x4), .second, .val (.ref a_q5), .val (.long x7), .second, .unset, .unset, .unset, .unset, .unset, .unset, .unset, .unset, .unset, .unset, .unset] [(.long (F3 cq5_state).1)]))
    have E39 := E_q5.keep Kq37
    have Z40 := Nat.le_trans Zs Kq37.1
    refine Ends.step (u' := (T37.setTop (mkF m 29 #[.val (.long x0), .second, .val (.long x2), .second, .val (.long x4), .second, .val (.ref a_q5), .val (.long x7), .second, .val (.long (F3 cq5_state).1), .second, .unset, .unset, .unset, .unset, .unset, .unset, .unset, .unset, .unset] []))) ?_ (fun _ k => XT.lstore X37.here hx rfl (hb hby at_27) rfl (l' := #[.val (.long x0), .second, .val (.long x2), .second, .val (.long x4), .second, .val (.ref a_q5), .val (.long x7), .second, .val (.long (F3 cq5_state).1), .second, .unset, .unset, .unset, .unset, .unset, .unset, .unset, .unset, .unset]) rfl k)
    exact b29 T37 _ _ X37 rfl N37 Z40 x0 x2 x4 x7 (F3 cq5_state).1 (.val (.ref a_q5)) (Or.inr ⟨_, rfl, rfl⟩)
  refine Ends.step (u' := (s₁.setTop (mkF m 0 #[.val (.long p0), .second, .val (.long p1), .second, .unset, .unset, .unset, .unset, .unset, .unset, .unset, .unset, .unset, .unset, .unset, .unset, .unset, .unset, .unset, .unset] []))) ?_ (fun _ k => castTop (ef_0 m p0 p1) k)
  refine Ends.step (u' := (s₁.setTop (mkF m 3 #[.val (.long p0), .second, .val (.long p1), .second, .unset, .unset, .unset, .unset, .unset, .unset, .unset, .unset, .unset, .unset, .unset, .unset, .unset, .unset, .unset, .unset] [(.long (-7046029254386353131 : Int64))]))) ?_ (fun _ k => X0.ldc2J hx hown (mvT hZ (hw _ (List.mem_of_getElem? (i := 0) rfl))) rfl (hb hby at_0) k)
  refine Ends.step (u' := (s₁.setTop (mkF m 5 #[.val (.long p0), .second, .val (.long p1), .second, .val (.long (-7046029254386353131 : Int64)), .second, .unset, .unset, .unset, .unset, .unset, .unset, .unset, .unset, .unset, .unset, .unset, .unset, .unset, .unset] []))) ?_ (fun _ k => XT.lstore X0.here hx rfl (hb hby at_3) rfl (l' := #[.val (.long p0), .second, .val (.long p1), .second, .val (.long (-7046029254386353131 : Int64)), .second, .unset, .unset, .unset, .unset, .unset, .unset, .unset, .unset, .unset, .unset, .unset, .unset, .unset, .unset]) rfl k)
  refine Ends.newO X0 hx hZ hown (hw _ (List.mem_of_getElem? (i := 1) rfl)) (hw _ (List.mem_of_getElem? (i := 2) rfl)) (hw _ (List.mem_of_getElem? (i := 3) rfl)) e0 (g := (mkF m 5 #[.val (.long p0), .second, .val (.long p1), .second, .val (.long (-7046029254386353131 : Int64)), .second, .unset, .unset, .unset, .unset, .unset, .unset, .unset, .unset, .unset, .unset, .unset, .unset, .unset, .unset] [])) rfl (hb hby at_5) (by decide) (by decide) (fun T41 h41 a41 X41 e41 E41 q41 Y41 D41 => ?_)
  have Fd42 : Fld Z h41 a41 "com/example/holywell/holywell/generate/Draws" "state" "J" (.long (0 : Int64)) := D41 (Or.inl (hw _ (List.mem_of_getElem? (i := 11) rfl))) (ty := .long) (by decide)
  have g43 : n0 ≤ a41 := q41 ▸ Z0
  have Z44 := Nat.le_trans Z0 E41.1
  show Ends p e below s _ _ _ (T41.setTop (mkF m 8 #[.val (.long p0), .second, .val (.long p1), .second, .val (.long (-7046029254386353131 : Int64)), .second, .unset, .unset, .unset, .unset, .unset, .unset, .unset, .unset, .unset, .unset, .unset, .unset, .unset, .unset] [(.ref a41)]))
  refine Ends.step (u' := (T41.setTop (mkF m 9 #[.val (.long p0), .second, .val (.long p1), .second, .val (.long (-7046029254386353131 : Int64)), .second, .unset, .unset, .unset, .unset, .unset, .unset, .unset, .unset, .unset, .unset, .unset, .unset, .unset, .unset] [(.ref a41), (.ref a41)]))) ?_ (fun _ k => XS.dup X41.here hx rfl (hb hby at_8) rfl rfl k)
  refine Ends.step (u' := (T41.setTop (mkF m 10 #[.val (.long p0), .second, .val (.long p1), .second, .val (.long (-7046029254386353131 : Int64)), .second, .unset, .unset, .unset, .unset, .unset, .unset, .unset, .unset, .unset, .unset, .unset, .unset, .unset, .unset] [(.long p0), (.ref a41), (.ref a41)]))) ?_ (fun _ k => XT.lloadN X41.here hx rfl (hb hby at_9) rfl k)
  refine Ends.callC X41 hx hZ (y := (⟨"com/example/holywell/holywell/generate/Draws", "<init>", "(J)V"⟩ : MethodName)) rfl hown (hw _ (List.mem_of_getElem? (i := 4) rfl)) (hw _ (List.mem_of_getElem? (i := 5) rfl)) (hw _ (List.mem_of_getElem? (i := 3) rfl)) (hw _ (List.mem_of_getElem? (i := 6) rfl)) (by decide) (rm1 l Z a0 hw p0 (0 : Int64) a41 h41 n0 Z44 Y41 Fd42 g43) 1 (by decide) (by decide) e41  (g := (mkF m 10 #[.val (.long p0), .second, .val (.long p1), .second, .val (.long (-7046029254386353131 : Int64)), .second, .unset, .unset, .unset, .unset, .unset, .unset, .unset, .unset, .unset, .unset, .unset, .unset, .unset, .unset] [(.long p0), (.ref a41), (.ref a41)])) rfl (by rw [hml]; rfl) a41 [(.long p0)] [(.ref a41)] (lenOf pd_0 rfl) rfl (by show 2 * 0 + _ ≤ _; exact Nat.le_of_eq rfl) (hb hby at_10) rfl (by decide) (by decide) (fun v45 T45 L45 X45 hQ45 => ?_)
  obtain ⟨rfl, Nq45, Kq45, Fd46⟩ := hQ45
  have N45 := Fr.app N0 Nq45
  show Ends p e below s _ _ _ (T45.setTop (mkF m 13 #[.val (.long p0), .second, .val (.long p1), .second, .val (.long (-7046029254386353131 : Int64)), .second, .unset, .unset, .unset, .unset, .unset, .unset, .unset, .unset, .unset, .unset, .unset, .unset, .unset, .unset] [(.ref a41)]))
  have E47 := Y41.keep Kq45
  have Z48 := Nat.le_trans Z44 Kq45.1
  refine Ends.step (u' := (T45.setTop (mkF m 15 #[.val (.long p0), .second, .val (.long p1), .second, .val (.long (-7046029254386353131 : Int64)), .second, .val (.ref a41), .unset, .unset, .unset, .unset, .unset, .unset, .unset, .unset, .unset, .unset, .unset, .unset, .unset] []))) ?_ (fun _ k => XS.astore X45.here hx rfl (hb hby at_13) rfl rfl (l' := #[.val (.long p0), .second, .val (.long p1), .second, .val (.long (-7046029254386353131 : Int64)), .second, .val (.ref a41), .unset, .unset, .unset, .unset, .unset, .unset, .unset, .unset, .unset, .unset, .unset, .unset, .unset]) rfl k)
  refine Ends.step (u' := (T45.setTop (mkF m 17 #[.val (.long p0), .second, .val (.long p1), .second, .val (.long (-7046029254386353131 : Int64)), .second, .val (.ref a41), .unset, .unset, .unset, .unset, .unset, .unset, .unset, .unset, .unset, .unset, .unset, .unset, .unset] [(.ref a41)]))) ?_ (fun _ k => XS.aload X45.here hx rfl (hb hby at_15) rfl rfl k)
  refine Ends.callV X45 hx hZ hown (hw _ (List.mem_of_getElem? (i := 12) rfl)) (hw _ (List.mem_of_getElem? (i := 13) rfl)) (hw _ (List.mem_of_getElem? (i := 15) rfl)) (hw _ (List.mem_of_getElem? (i := 14) rfl)) (hw _ (List.mem_of_getElem? (i := 3) rfl)) (hw _ (List.mem_of_getElem? (i := 16) rfl)) (by decide) (rm3 l Z a0 hw (F1 p0 (0 : Int64)) a41 T45.heap n0 Z48 E47 Fd46 g43) 0 (by decide) (by decide) rfl a41 E47 (g := (mkF m 17 #[.val (.long p0), .second, .val (.long p1), .second, .val (.long (-7046029254386353131 : Int64)), .second, .val (.ref a41), .unset, .unset, .unset, .unset, .unset, .unset, .unset, .unset, .unset, .unset, .unset, .unset, .unset] [(.ref a41)])) rfl (by rw [hml]; rfl)  [] [] (lenOf pd_1 rfl) rfl (by show 2 * 0 + _ ≤ _; exact Nat.le_of_eq rfl) (hb hby at_17) rfl (by decide) (by decide) (fun v49 T49 L49 X49 hQ49 => ?_)
  obtain ⟨rfl, Nq49, Kq49, Fd50⟩ := hQ49
  have N49 := Fr.app N45 Nq49
  show Ends p e below s _ _ _ (T49.setTop (mkF m 20 #[.val (.long p0), .second, .val (.long p1), .second, .val (.long (-7046029254386353131 : Int64)), .second, .val (.ref a41), .unset, .unset, .unset, .unset, .unset, .unset, .unset, .unset, .unset, .unset, .unset, .unset, .unset] [(.long (F3 (F1 p0 (0 : Int64))).1)]))
  have E51 := E47.keep Kq49
  have Z52 := Nat.le_trans Z48 Kq49.1
  refine Ends.step (u' := (T49.setTop (mkF m 22 #[.val (.long p0), .second, .val (.long p1), .second, .val (.long (-7046029254386353131 : Int64)), .second, .val (.ref a41), .val (.long (F3 (F1 p0 (0 : Int64))).1), .second, .unset, .unset, .unset, .unset, .unset, .unset, .unset, .unset, .unset, .unset, .unset] []))) ?_ (fun _ k => XT.lstore X49.here hx rfl (hb hby at_20) rfl (l' := #[.val (.long p0), .second, .val (.long p1), .second, .val (.long (-7046029254386353131 : Int64)), .second, .val (.ref a41), .val (.long (F3 (F1 p0 (0 : Int64))).1), .second, .unset, .unset, .unset, .unset, .unset, .unset, .unset, .unset, .unset, .unset, .unset]) rfl k)
  exact b22 T49 _ _ X49 rfl N49 Z52 (F3 (F1 p0 (0 : Int64))).2 p0 p1 (-7046029254386353131 : Int64) (F3 (F1 p0 (0 : Int64))).1 a41 g43 E51 Fd50
theorem own_ushrL (x : Int64) (k : Nat) (hk : k < 64) : (XT.ushrL x (Int32.ofNat k)).toBitVec = x.toBitVec >>> k := by
  have h : ((Int32.ofNat k).toInt64.toUInt64 &&& Int64.toUInt64 63).toBitVec % 64 = BitVec.ofNat 64 k := by
    have : ∀ k : Fin 64, ((Int32.ofNat k.val).toInt64.toUInt64 &&& Int64.toUInt64 63).toBitVec % 64 = BitVec.ofNat 64 k.val := by decide +kernel
    exact this ⟨k, hk⟩
  show (x.toUInt64 >>> _).toBitVec = _
  rw [UInt64.toBitVec_shiftRight, h]
  show x.toBitVec >>> (BitVec.ofNat 64 k) = _
  rw [BitVec.ushiftRight_eq']
  congr 1
  simp
  omega
theorem own_ushr (x : Int32) (k : Nat) (hk : k < 32) : (XT.ushr x (Int32.ofNat k)).toBitVec = x.toBitVec >>> k := by
  have h : ((Int32.ofNat k) &&& 31).toUInt32.toBitVec % 32 = BitVec.ofNat 32 k := by
    have : ∀ k : Fin 32, ((Int32.ofNat k.val) &&& 31).toUInt32.toBitVec % 32 = BitVec.ofNat 32 k.val := by decide +kernel
    exact this ⟨k, hk⟩
  show (x.toUInt32 >>> _).toBitVec = _
  rw [UInt32.toBitVec_shiftRight, h]
  show x.toBitVec >>> (BitVec.ofNat 32 k) = _
  rw [BitVec.ushiftRight_eq']
  congr 1
  simp
  omega
theorem own_xs_inj (x y : Int64) (k : Nat) (hk : k < 64) (h1 : 1 ≤ k) (h : x ^^^ XT.ushrL x (Int32.ofNat k) = y ^^^ XT.ushrL y (Int32.ofNat k)) : x = y := by
  have h2 := congrArg Int64.toBitVec h
  rw [Int64.toBitVec_xor, Int64.toBitVec_xor, own_ushrL x k hk, own_ushrL y k hk] at h2
  apply Int64.toBitVec_inj.mp
  generalize x.toBitVec = X at h2
  generalize y.toBitVec = Y at h2
  have h3 : X ^^^ Y = (X ^^^ Y) >>> k := by
    rw [BitVec.ushiftRight_xor_distrib]
    have := congrArg (fun z => z ^^^ (Y ^^^ (X >>> k))) h2
    have e1 : X ^^^ X >>> k ^^^ (Y ^^^ X >>> k) = X ^^^ Y := by
      rw [BitVec.xor_assoc, ← BitVec.xor_assoc (X >>> k), BitVec.xor_comm (X >>> k) Y, BitVec.xor_assoc Y, BitVec.xor_self, BitVec.xor_zero]
    have e2 : Y ^^^ Y >>> k ^^^ (Y ^^^ X >>> k) = X >>> k ^^^ Y >>> k := by
      rw [BitVec.xor_comm Y (Y >>> k), BitVec.xor_assoc, ← BitVec.xor_assoc Y, BitVec.xor_self, BitVec.zero_xor, BitVec.xor_comm]
    rw [e1, e2] at this
    exact this
  have h4 : (X ^^^ Y).toNat = 0 := by
    have q := congrArg BitVec.toNat h3
    rw [BitVec.toNat_ushiftRight, Nat.shiftRight_eq_div_pow] at q
    have p2 : 2 ≤ 2 ^ k := by
      calc 2 = 2 ^ 1 := rfl
        _ ≤ 2 ^ k := Nat.pow_le_pow_right (by decide) h1
    generalize (X ^^^ Y).toNat = n at q
    have : n / 2 ^ k ≤ n / 2 := Nat.div_le_div_left p2 (by decide)
    omega
  have h5 : X ^^^ Y = 0#64 := BitVec.eq_of_toNat_eq (by rw [h4]; rfl)
  have h6 := congrArg (fun z => z ^^^ Y) h5
  simp only [BitVec.xor_assoc, BitVec.xor_self, BitVec.xor_zero, BitVec.zero_xor] at h6
  exact h6
theorem own_mul_inj (x y c d : Int64) (e : c * d = 1) (h : x * c = y * c) : x = y := by
  have := congrArg (fun z => z * d) h
  simp only [Int64.mul_assoc, e, Int64.mul_one] at this
  exact this
theorem own_1 : nar .boolean 1 = 1 := rfl
def own_mix (z : Int64) : Int64 := F3_29 z ((z ^^^ (XT.ushrL z (30 : Int32))) * (-4658895280553007687 : Int64)) |>.1
theorem own_F3 (st : Int64) : F3 st = (own_mix (st + (-7046029254386353131 : Int64)), st + (-7046029254386353131 : Int64)) := rfl
theorem own_mix_inj (x y : Int64) (h : own_mix x = own_mix y) : x = y := by
  have a := own_xs_inj _ _ 31 (by decide) (by decide) h
  have b := own_mul_inj _ _ _ (3573116690164977347 : Int64) (by decide +kernel) a
  have c := own_xs_inj _ _ 27 (by decide) (by decide) b
  have d := own_mul_inj _ _ _ (-7575587736534282103 : Int64) (by decide +kernel) c
  exact own_xs_inj _ _ 30 (by decide) (by decide) d
theorem own_add_inj (x y c : Int64) (h : x + c = y + c) : x = y := by
  have := congrArg (fun z => z - c) h
  simp only [Int64.add_sub_cancel] at this
  exact this
theorem own_112 : F0_112 = 1 := by decide +kernel
theorem own_law (i0 : Int64) (i1 : Int64) : F0 i0 i1 = 1 := by
  have e : F0 i0 i1 = F0_59 i0 i1 (own_mix (i0 + (-7046029254386353131 : Int64))) := if_pos rfl
  have e2 : F0_59 i0 i1 (own_mix (i0 + (-7046029254386353131 : Int64))) = F0_82 i0 (own_mix (i0 + (-7046029254386353131 : Int64))) (i0 ^^^ i1) (own_mix ((i0 ^^^ i1) + (-7046029254386353131 : Int64))) := rfl
  rw [e, e2]
  simp only [F0_82]
  by_cases h : i0 ^^^ i1 = i0
  · rw [if_pos (by rw [h])]
    simp only [F0_90, F0_95, if_pos h, F0_102, F0_107, if_true]
    exact own_112
  · rw [if_neg (fun q => h (own_add_inj _ _ _ (own_mix_inj _ _ q)))]
    simp only [F0_94, F0_95, if_neg h, F0_106, F0_107, if_true]
    exact own_112
set_option maxRecDepth 65536 in
set_option maxHeartbeats 40000000 in
theorem comes_1 {Post : Tables → Env → Array Value → State → Outcome → State → Prop} (hpost : ∀ tb e args s v u, (limb_1_1.after args s (.returned v) u = true ∧ limb_1_2.after args s (.returned v) u = true ∧ True) → FrameEnd s (.returned v) u (Jvm.fieldLocs frame_1_writes args s ++ Jvm.arrayLocs frame_1_arrays args s ++ Jvm.staticLocs frame_1_statics s) 16 128 → Post tb e args s (.returned v) u) :
    ArmFor flags0 classFile x code maxLocals ret World_1 tables_1 room_1 Calls_1 rest_1 Pre_1 Post := by
  intro l hfl _ _ p e ha hc hk s m args below hf hA hF happ hP
  obtain ⟨hcalls, hrest, hpre⟩ := hP
  obtain ⟨-, -, -, hnamed, -, -, -, hat⟩ := (Spec.applies_iff hf).mp happ
  obtain ⟨hg, hn⟩ := and_e (Cond.before_iff.mp (show (Jvm.Cond.and given_1 narrow_1).before args s = true from hpre))
  obtain ⟨h1, r0⟩ := and_e hg
  obtain ⟨k0, r1⟩ := and_e r0
  obtain ⟨w0, w1, rfl⟩ : ∃ w0 w1 : Value, args = #[w0, w1] := by
    have hs : args.size = 2 := by simpa [Cond.value, given_1] using h1
    obtain ⟨L⟩ := args
    match L, hs with
    | [w0, w1], _ => exact ⟨w0, w1, rfl⟩
  have hw := fun d (hd : d ∈ tables_1) => atoms_spec (ws := Jvm.Cond.code x code maxLocals ret :: tables_1) hat d (List.mem_cons_of_mem _ hd)
  obtain ⟨i0, e0⟩ := isL_v k0
  obtain rfl : w0 = (.long i0) := Option.some.inj e0
  obtain ⟨i1, e1⟩ := isL_v r1
  obtain rfl : w1 = (.long i1) := Option.some.inj e1
  have val := own_law i0 i1
  obtain ⟨n, o, h1, h2, h3, _, L, rfl, ⟨rfl, N⟩, hq⟩ := rm0 l s _ hw i0 i1 s.heap s.heap.size (Nat.le_refl _)  p e ha hc hk s m _ below hf ((Spec.applies_iff_loose hf).mp happ).1 ⟨rfl, State.Warmed39.refl s, rfl⟩ trivial
  refine ⟨n, _, h1, h2, h3, hpost _ _ _ _ _ _ ⟨Cond.after_iff.mpr rfl, Cond.after_iff.mpr (eq_i res_at (Term.int_eval (1)) (by rw [val])), trivial⟩ ⟨hq.1, hq.2.1, (hq.2.2.sift fun y hy => Or.inr (N y hy)).mono (by decide) (by decide)⟩⟩
theorem main_1_1 : Claimed_1_1 := comes_1 fun _ _ _ _ _ _ h hF => ⟨h.1, hF⟩
theorem main_1_2 : Claimed_1_2 := comes_1 fun _ _ _ _ _ _ h hF => ⟨h.2.1, hF⟩
end Jvm.Pilot.@@N@@
namespace Jvm.Pilot.@@N@@
open Jvm Jvm.ClassFile Sem Op Lib Jvm.Free Jvm.Stand Jvm.Pilot.@@N@@.Jvm.D
/-! MADE BY PROGRAM (witnessworld.py) out of the Statement's table words and the real class files: 9 classes; the members and pool entries that the words name. The judged class is class 1, her method 1. -/
namespace start1
open Jvm.ClassFile
def u (s : String) : CpInfo := .utf8 (stringToUtf16 s)
/-- a pool by its gaps: so many unusable entries, then the entry; so many at the end -/
def gap : Nat → List CpInfo → List CpInfo
  | 0, r => r
  | n + 1, r => .unusable :: gap n r
def poolList (es : List (Nat × CpInfo)) (last : Nat) : List CpInfo := es.foldr (fun e r => gap e.1 (e.2 :: r)) (gap last [])
def pool (es : List (Nat × CpInfo)) (last : Nat) : Array CpInfo := ⟨poolList es last⟩
def fileOf (pool : Array CpInfo) (this : Nat) (attrs : Array Attribute := #[]) (ms : Array MethodInfo := #[]) (fl : Nat := 33) (sup : Nat := 0) (ifs : Array Nat := #[]) (fds : Array FieldInfo := #[]) : ClassFile where
  minorVersion := 0
  majorVersion := 65
  constantPool := pool
  accessFlags := fl
  thisClass := this
  superClass := sup
  interfaces := ifs
  fields := fds
  methods := ms
  attributes := attrs
def plain (name : String) (sup : Option ClassId) : Class where
  name := name
  kind := .ordinary
  loader := none
  accessFlags := 33
  super := sup
  interfaces := #[]
  cf := none
  fields := #[]
  methods := #[]
  instanceTypes := #[]
  staticTypes := #[]
  resolved := #[]
  callSites := []
  init := .initialized
  statics := none
  mirror := none

def pool0 : Array CpInfo := pool [(5, u "<init>"), (0, u "()V"), (1, .class_ 10), (1, u "java/lang/Object")] 113

def k0c0 : Code := { maxStack := 0, maxLocals := 1, code := object_method_1_code, exceptionTable := #[], attributes := #[] }
def k0m0 : Method := { name := "<init>", desc := "()V", sig := { parameters := [], returnType := none }, accessFlags := 1, code := some k0c0 }
/-- java/lang/Object -/
def k0 : Class := { plain "java/lang/Object" none with
  accessFlags := 33
  interfaces := #[]
  cf := some (fileOf pool0 8 #[] #[{ accessFlags := 1, nameIndex := 5, descriptorIndex := 6, attributes := #[] }] 33 0 #[] #[])
  fields := #[]
  methods := #[k0m0]
  instanceTypes := #[]
  staticTypes := #[]
  resolved := Array.replicate 124 none
  statics := none }

def pool1 : Array CpInfo := pool [(2, .class_ 4), (1, u "java/lang/Object"), (0, u "<init>"), (0, u "()V"), (0, .long 11400714819323198485), (1, .class_ 10), (0, u "com/example/holywell/holywell/generate/Draws"), (0, .methodref 9 12), (0, .nameAndType 5 13), (0, u "(J)V"), (0, .methodref 9 15), (0, .nameAndType 16 17), (0, u "bits"), (0, u "()J"), (0, .long 16294208416658607535), (1, .class_ 21), (0, u "com/example/holywell/holywell/generate/DrawsBitsPinLaw"), (2, u "law"), (0, u "(JJ)Z")] 3

def k1m0 : Method := { name := "<init>", desc := "()V", sig := { parameters := [], returnType := none }, accessFlags := 2, code := none }
def k1c1 : Code := { maxStack := 6, maxLocals := 20, code := code, exceptionTable := #[], attributes := #[] }
def k1m1 : Method := { name := "law", desc := "(JJ)Z", sig := { parameters := [.long, .long], returnType := some .boolean }, accessFlags := 9, code := some k1c1 }
/-- com/example/holywell/holywell/generate/DrawsBitsPinLaw -/
def k1 : Class := { plain "com/example/holywell/holywell/generate/DrawsBitsPinLaw" (some 0) with
  accessFlags := 49
  interfaces := #[]
  cf := some (fileOf pool1 20 #[] #[{ accessFlags := 2, nameIndex := 5, descriptorIndex := 6, attributes := #[] }, { accessFlags := 9, nameIndex := 24, descriptorIndex := 25, attributes := #[] }] 49 2 #[] #[])
  fields := #[]
  methods := #[k1m0, k1m1]
  instanceTypes := #[]
  staticTypes := #[]
  resolved := Array.replicate 29 none
  statics := none }

def pool2 : Array CpInfo := pool [(1, .methodref 2 3), (0, .class_ 4), (0, .nameAndType 5 6), (0, u "java/lang/Object"), (0, u "<init>"), (0, u "()V"), (0, .fieldref 8 9), (0, .class_ 10), (0, .nameAndType 11 12), (0, u "com/example/holywell/holywell/generate/Draws"), (0, u "state"), (0, u "J"), (0, .long 11400714819323198485), (1, .long 13787848793156543929), (1, .long 10723151780598845931), (16, u "bits"), (0, u "()J"), (4, u "GAMMA"), (1, u "(J)V")] 24

def k2c0 : Code := { maxStack := 3, maxLocals := 3, code := prog_41_method_1_code, exceptionTable := #[], attributes := #[] }
def k2m0 : Method := { name := "<init>", desc := "(J)V", sig := { parameters := [.long], returnType := none }, accessFlags := 0, code := some k2c0 }
def k2c1 : Code := { maxStack := 5, maxLocals := 3, code := prog_41_method_2_code, exceptionTable := #[], attributes := #[] }
def k2m1 : Method := { name := "bits", desc := "()J", sig := { parameters := [], returnType := some .long }, accessFlags := 0, code := some k2c1 }
/-- com/example/holywell/holywell/generate/Draws -/
def k2 : Class := { plain "com/example/holywell/holywell/generate/Draws" (some 0) with
  accessFlags := 48
  interfaces := #[]
  cf := some (fileOf pool2 8 #[] #[{ accessFlags := 0, nameIndex := 5, descriptorIndex := 42, attributes := #[] }, { accessFlags := 0, nameIndex := 34, descriptorIndex := 35, attributes := #[] }] 48 2 #[] #[{ accessFlags := 26, nameIndex := 40, descriptorIndex := 12, attributes := #[] }, { accessFlags := 2, nameIndex := 11, descriptorIndex := 12, attributes := #[] }])
  fields := #[{ name := "GAMMA", type := .long, accessFlags := 26, slot := 0, constantValue := 0 }, { name := "state", type := .long, accessFlags := 2, slot := 0, constantValue := 0 }]
  methods := #[k2m0, k2m1]
  instanceTypes := #[.long]
  staticTypes := #[.long]
  resolved := Array.replicate 67 none
  statics := none }

def pool3 : Array CpInfo := pool [(1, u "java/lang/Cloneable"), (0, .class_ 1), (0, u "java/lang/Object"), (0, .class_ 3)] 3

/-- java/lang/Cloneable -/
def k3 : Class := { plain "java/lang/Cloneable" (some 0) with
  accessFlags := 1537
  interfaces := #[]
  cf := some (fileOf pool3 2 #[] #[] 1537 4 #[] #[])
  fields := #[]
  methods := #[]
  instanceTypes := #[]
  staticTypes := #[]
  resolved := Array.replicate 8 none
  statics := none }

def pool4 : Array CpInfo := pool [(1, u "java/io/Serializable"), (0, .class_ 1), (0, u "java/lang/Object"), (0, .class_ 3)] 3

/-- java/io/Serializable -/
def k4 : Class := { plain "java/io/Serializable" (some 0) with
  accessFlags := 1537
  interfaces := #[]
  cf := some (fileOf pool4 2 #[] #[] 1537 4 #[] #[])
  fields := #[]
  methods := #[]
  instanceTypes := #[]
  staticTypes := #[]
  resolved := Array.replicate 8 none
  statics := none }

/-- the primitive byte -/
def k5 : Class := { plain "byte" none with kind := .primitive 'B', accessFlags := 0x411 }
/-- [B -/
def k6 : Class := { plain "[B" (some 0) with kind := .array 5 .byte, interfaces := #[3, 4], accessFlags := 1041 }

/-- the primitive int -/
def k7 : Class := { plain "int" none with kind := .primitive 'I', accessFlags := 0x411 }
/-- [I -/
def k8 : Class := { plain "[I" (some 0) with kind := .array 7 .int, interfaces := #[3, 4], accessFlags := 1041 }

def heap : Heap := #[]
def classes : Array Class := #[k0, k1, k2, k3, k4, k5, k6, k7, k8]
def interned : List (Array UInt16 × Addr) := []
def slotsUsed : Nat := 0
def theMethod : MethodId := ⟨1, 1⟩
def args0 : Array Value := #[.long 5, .long 7]
def aboutOver (below : List Frame) : State where
  vm := { classes := classes, interned := interned.toArray }
  heap := heap
  slotsUsed := slotsUsed
  threads := #[{ frames := .invoking theMethod args0 :: below }]
def below0 : List Frame := [.native { method := ⟨0, 0⟩, args := #[] }]
def about1 : State := aboutOver below0
def p0 : Program := .bare "" "" ""
def e0 : Env := launch0.env 0 0 0
theorem w_frames : about1.frames = Frame.invoking theMethod args0 :: below0 := rfl
set_option maxRecDepth 65536 in
theorem w_args : argsFit about1.vm theMethod args0 = true := by decide +kernel
set_option maxRecDepth 65536 in
theorem w_heap : heapFits about1 = true := by decide +kernel
set_option maxRecDepth 65536 in
theorem w_runnable : about1.curStatus? = some .runnable := by decide +kernel
set_option maxRecDepth 65536 in
theorem w_alone : about1.alone = true := by decide +kernel
set_option maxRecDepth 65536 in
theorem w_named : about1.methodNamed? x = some theMethod := by decide +kernel
set_option maxRecDepth 65536 in
theorem w_hears : about1.hears theMethod below0 = true := by decide +kernel
set_option maxRecDepth 65536 in
theorem w_ripe : about1.ripe theMethod args0 below0 = true := by decide +kernel
theorem w_running : about1.status = .running := rfl
set_option maxRecDepth 65536 in
theorem w_room : about1.hasRoom e0.platform room_1 = true :=
  launch0.hasRoom_least _ room_1 (by decide +kernel) (by decide +kernel) (by decide +kernel) (by decide +kernel) (by decide +kernel) (by decide +kernel)
theorem allAtoms_all (ts : List Jvm.Cond) (a : Array Jvm.Value) (st : Jvm.State) : (allAtoms ts).before a st = ts.all (fun c => c.before a st) := by
  induction ts with
  | nil => rfl
  | cons c t ih =>
    show (Jvm.Cond.and c (allAtoms t)).before a st = _
    rw [Jvm.Cond.before_and, ih, List.all_cons]
def words1 : List Jvm.Cond := Jvm.Cond.code x code maxLocals ret :: tables_1
/-- a 'code' word, met by the world's own term for the bytes: nothing is compared byte by byte -/
theorem code_word {y : MethodName} {bytes : ByteArray} {mx : Nat} {rt : Option FieldType} {a : Array Value} {s : State} {m : MethodId} {meth : Method} {c : Code} (h1 : s.methodNamed? y = some m) (h2 : s.vm.method? m = some meth) (h3 : meth.code = some c) (h4 : c.code = bytes)
    (h5 : (c.maxLocals == mx && c.exceptionTable.isEmpty && decide (c.maxStack ≤ mostOperands) && decide (meth.sig.returnType = rt) && !meth.locks && decide (parseMethodDescriptor y.desc = some meth.sig)) = true) : (Jvm.Cond.code y bytes mx rt).before a s = true := by
  simp only [Bool.and_eq_true, beq_iff_eq, Bool.not_eq_true', decide_eq_true_eq] at h5
  obtain ⟨⟨⟨⟨⟨g1, g2⟩, g3⟩, g4⟩, g5⟩, g6⟩ := h5
  simp [Cond.before, Cond.holds, Cond.value, h1, h2, h3, h4, g1, g2, g3, g4, g5, g6]
def isCode : Jvm.Cond → Bool
  | .code _ _ _ _ => true
  | _ => false
theorem all_split {L : List Jvm.Cond} {P : Jvm.Cond → Bool} (h1 : L.all (fun c => isCode c || P c) = true) (h2 : ∀ c ∈ L.filter isCode, P c = true) : L.all P = true := by
  refine List.all_eq_true.mpr fun c hc => ?_
  have h := List.all_eq_true.mp h1 c hc
  rcases Bool.eq_false_or_eq_true (isCode c) with hi | hi
  · exact h2 c (List.mem_filter.mpr ⟨hc, hi⟩)
  · simpa [hi] using h
set_option maxRecDepth 65536 in
theorem w_c0 : (Jvm.Cond.code x code maxLocals ret).before args0 about1 = true := code_word (m := ⟨1, 1⟩) (meth := k1m1) (c := k1c1) (by decide +kernel) rfl rfl rfl (by decide +kernel)
set_option maxRecDepth 65536 in
theorem w_c1 : (Jvm.Cond.code ({ cls := "com/example/holywell/holywell/generate/Draws", name := "<init>", desc := "(J)V" } : Jvm.MethodName) prog_41_method_1_code (3 : Nat) (Option.none : Option Jvm.ClassFile.FieldType)).before args0 about1 = true := code_word (m := ⟨2, 0⟩) (meth := k2m0) (c := k2c0) (by decide +kernel) rfl rfl rfl (by decide +kernel)
set_option maxRecDepth 65536 in
theorem w_c2 : (Jvm.Cond.code ({ cls := "java/lang/Object", name := "<init>", desc := "()V" } : Jvm.MethodName) object_method_1_code (1 : Nat) (Option.none : Option Jvm.ClassFile.FieldType)).before args0 about1 = true := code_word (m := ⟨0, 0⟩) (meth := k0m0) (c := k0c0) (by decide +kernel) rfl rfl rfl (by decide +kernel)
set_option maxRecDepth 65536 in
theorem w_c3 : (Jvm.Cond.code ({ cls := "com/example/holywell/holywell/generate/Draws", name := "bits", desc := "()J" } : Jvm.MethodName) prog_41_method_2_code (3 : Nat) (Option.some Jvm.ClassFile.FieldType.long)).before args0 about1 = true := code_word (m := ⟨2, 1⟩) (meth := k2m1) (c := k2c1) (by decide +kernel) rfl rfl rfl (by decide +kernel)
def codes1 : List Jvm.Cond := [Jvm.Cond.code x code maxLocals ret, Jvm.Cond.code ({ cls := "com/example/holywell/holywell/generate/Draws", name := "<init>", desc := "(J)V" } : Jvm.MethodName) prog_41_method_1_code (3 : Nat) (Option.none : Option Jvm.ClassFile.FieldType), Jvm.Cond.code ({ cls := "java/lang/Object", name := "<init>", desc := "()V" } : Jvm.MethodName) object_method_1_code (1 : Nat) (Option.none : Option Jvm.ClassFile.FieldType), Jvm.Cond.code ({ cls := "com/example/holywell/holywell/generate/Draws", name := "bits", desc := "()J" } : Jvm.MethodName) prog_41_method_2_code (3 : Nat) (Option.some Jvm.ClassFile.FieldType.long)]
set_option maxRecDepth 65536 in
theorem codes_eq : words1.filter isCode = codes1 := rfl
theorem w_codes : ∀ c ∈ words1.filter isCode, c.before args0 about1 = true := by
  rw [codes_eq]
  intro c hc
  simp only [codes1, List.mem_cons, List.not_mem_nil, or_false] at hc
  rcases hc with rfl | rfl | rfl | rfl
  · exact w_c0
  · exact w_c1
  · exact w_c2
  · exact w_c3
set_option maxRecDepth 65536 in
theorem w_t1 : words1.all (fun c => isCode c || c.before args0 about1) = true := by decide +kernel
theorem w_tables : (allAtoms (Jvm.Cond.code x code maxLocals ret :: tables_1)).before args0 about1 = true := by
  rw [allAtoms_all]
  show words1.all (fun c => c.before args0 about1) = true
  refine all_split ?_ w_codes
  rw [w_t1]
set_option maxRecDepth 65536 in
theorem w_case : (Jvm.Cond.and given_1 narrow_1).before args0 about1 = true := by decide +kernel
theorem w_applies : (headSpec (Jvm.Cond.code x code maxLocals ret :: tables_1) room_1).applies x e0.platform about1 = true :=
  (Spec.applies_iff w_frames).mpr ⟨w_running, w_runnable, w_alone, w_named, w_hears, w_ripe, w_room, w_tables⟩
theorem atStart : AtStart classFile x code maxLocals ret World_1 tables_1 room_1 Calls_1 rest_1 Pre_1 launch0 p0 e0 about1 theMethod args0 below0 :=
  ⟨lists_1, trivial, launch0.admits_env _ _ _, launch0.least_env, fairChoices_fair.cas, fairChoices_fair.clock, w_frames, w_args, w_heap, w_applies, trivial, trivial, w_case⟩
end start1
theorem witness_1 : WitnessClaimed_1 := ⟨start1.p0, start1.e0, start1.about1, start1.theMethod, start1.args0, start1.below0, start1.atStart⟩
end Jvm.Pilot.@@N@@
