import JvmDerived
import JvmDerived.Pilot.@@N@@Statement
import JvmDerived.Pilot.@@N@@Code
set_option linter.unusedVariables false
set_option linter.unusedSimpArgs false
namespace Jvm.RoadKit
open Sem ClassFile Op Lib Jvm.Stand Jvm.Free Jvm.LawKit
section New
variable {p : Program} {l : Launch} {e : Env} {R : Room} {s : State} {m : MethodId} {args : Array Value} {below : List Frame} {meth : Method} {c : Code} {T : State} {locs : List Loc} {cells slots : Nat}
theorem retI (X : Stand p l e R s m args below meth c T locs cells slots) (hx : p.tables.exec = Jvm.exec) {pc : Nat} {Ls : Array Slot} {z : Int32} {rest : List Value} (hret : meth.sig.returnType = some .int) (hd : decode c.code pc = .ok (.ireturn, 1)) {fs : List Frame}
    (hl : ∀ (f : JFrame) (acts : List Action), f.method = m → f.locked = none → f.entered = [] → (doReturn e (T.setTop f) acts (some (.int z))).1 = T.setFrames fs) : Steps p.tables e below (T.setTop (mkF m pc Ls (.int z :: rest))) (T.setFrames fs) := by
  have hm' : T.vm.method? m = some meth := X.method'
  have hn : narrow .int (.int z) = .int z := rfl
  show Steps p.tables e below (T.setTop { method := m, pc := pc, locals := Ls, stack := _ :: rest, locked := none }) _
  jvm_step X.here [X.here.top, hx, hd, hm', hret, hn]
  first | (intro acts; rw [hl _ acts rfl rfl rfl]) | rw [hl _ _ rfl rfl rfl]
  exact Steps.refl _
end New
end Jvm.RoadKit
namespace Jvm.Pilot.@@N@@
open Jvm Jvm.ClassFile Sem Op Lib Jvm.Free Jvm.Stand Jvm.LawKit Jvm.RoadKit Bundle Jvm.Pilot.@@N@@.Jvm.D
/-! ### the frame of this text: 'Ends': the run from u ends in a return that Q says -/
section OwnFrame
variable {p : Program} {l : Launch} {e : Env} {R : Room} {s : State} {m : MethodId} {args : Array Value} {below : List Frame} {meth : Method} {c : Code} {T : State} {locs : List Loc} {cells slots cs ss : Nat} {Z : State} {a0 : Array Value} {h h' : Heap} {Q : Option Value → Heap → List Loc → Prop} {u u' : State}
def Ends (p : Program) (e : Env) (below : List Frame) (s : State) (cs ss : Nat) (Q : Option Value → Heap → List Loc → Prop) (u : State) : Prop :=
  ∃ t v L, Steps p.tables e below u t ∧ t.status = .running ∧ Ended t below (.returned v) ∧ Q v t.heap L ∧ s.WarmedH t.vm ∧ s.sameButNew ({ t with vm := s.vm } : State) L cs ss
theorem Ends.step (h : Ends p e below s cs ss Q u') (k : ∀ t, Steps p.tables e below u' t → Steps p.tables e below u t) : Ends p e below s cs ss Q u := by
  obtain ⟨t, v, L, h1, r⟩ := h; exact ⟨t, v, L, k t h1, r⟩
theorem Ends.ret (X : Stand p l e R s m args below meth c T locs cells slots) {v : Option Value} (hv : meth.sig.returnType = none → v = none) (hlk : meth.locks = false)
    (k : ∀ fs, (∀ (f : JFrame) (acts : List Action), f.method = m → f.locked = none → f.entered = [] → (doReturn e (T.setTop f) acts v).1 = T.setFrames fs) → Steps p.tables e below u (T.setFrames fs))
    (hc : cells ≤ cs) (hs : slots ≤ ss) (hq : Q v T.heap locs) : Ends p e below s cs ss Q u := by
  obtain ⟨fs, hr, hrun, hended, hW, hsame⟩ := X.leave (v := v) hv hlk
  exact ⟨T.setFrames fs, v, locs, k fs hr, hrun, hended, hq, hW, hsame.mono hc hs⟩
/-- what a body promises -/
abbrev Meets (l : Launch) (Z : State) (y : MethodName) (bytes : ByteArray) (maxL : Nat) (ret : Option FieldType) (ws : List Jvm.Cond) (rm : Room) (as' : Array Value) (h : Heap) (Q : Option Value → Heap → List Loc → Prop) (cs ss : Nat) : Prop :=
  MetFree l y (head1 (Jvm.Cond.code y bytes maxL ret :: ws) rm) (fun a U => a = as' ∧ Z.Warmed39 U.vm ∧ U.heap = h) (fun _ _ _ _ _ => True) (fun _ U o U' => ∃ v L, o = .returned v ∧ Q v U'.heap L ∧ FrameEnd U o U' L cs ss)
theorem Meets.of {y : MethodName} {bytes : ByteArray} {maxL : Nat} {ret : Option FieldType} {ws : List Jvm.Cond} {rm : Room} {as' : Array Value} (pn : plainFor y = true)
    (k : ∀ (p : Program) (e : Env) (s : State) (m : MethodId) (below : List Frame) (meth : Method) (c : Code) (s₁ : State), p.tables.exec = Jvm.exec → c.code = bytes → c.maxLocals = maxL → Z.Warmed39 s.vm → s.vm.findClass y.cls = some m.cls → meth.name = y.name → meth.sig.returnType = ret → meth.locks = false →
      Stand p l e rm s m as' below meth c s₁ [] 0 0 → s₁.heap = h → Ends p e below s cs ss Q (s₁.setTop (entryFrame m as' maxL))) : Meets l Z y bytes maxL ret ws rm as' h Q cs ss := by
  refine MetFree.of_bodySF pn hisR ?_
  intro p e s m args below meth c s₁ Bd hml0 hP hK
  obtain ⟨rfl, hZ, hh⟩ := hP
  obtain ⟨t, v, L, h1, h2, h3, h4, h5, h6⟩ := k p e s m below meth c s₁ Bd.exec Bd.bytes hml0 hZ (findClass_of_methodNamed Bd.named) (name_of_methodNamed Bd.named Bd.method).1 Bd.returns (BodyLoose.notSynchronized Bd) (Stand.of_body Bd) (by rw [← hh, Bd.state]; rfl)
  exact ⟨t, .returned v, h1, h2, h3, v, L, rfl, h4, ⟨_, rfl⟩, h5, h6⟩
theorem Ends.callS (X : Stand p l e R s m args below meth c T locs cells slots) (hx : p.tables.exec = Jvm.exec) (hZ : Z.Warmed39 s.vm) {own : String} {index : Nat} {y : MethodName} {bytes : ByteArray} {maxL : Nat} {ret : Option FieldType}
    (hown : s.vm.findClass own = some m.cls) (w1 : (Jvm.Cond.methodLink own index y).before a0 Z = true) (w2 : (Jvm.Cond.static y).before a0 Z = true) (w3 : (Jvm.Cond.initialized y.cls).before a0 Z = true) (w4 : (Jvm.Cond.code y bytes maxL ret).before a0 Z = true)
    (hy : y.cls ≠ "java/lang/invoke/MethodHandle" ∧ y.cls ≠ "java/lang/invoke/VarHandle") {rm : Room} {as' : Array Value} {Q' : Option Value → Heap → List Loc → Prop} (hM : Meets l Z y bytes maxL ret [] rm as' h Q' rm.cells rm.slots)
    (W : Nat) (hf : rm.frames + 1 ≤ R.frames) (hl : W + (maxL + 11) + rm.locals ≤ R.locals) (eT : T.heap = h) {g : JFrame} (hg : g.method = m) (hsize : g.locals.size = c.maxLocals) (argsL rest : List Value)
    (hlen : ∀ sig, parseMethodDescriptor y.desc = some sig → argsL.length = sig.parameters.length) (hstack : g.stack = argsL.reverse ++ rest) (hW : 2 * g.monitorRoom + (rest.map fun v => v.category).sum ≤ W) (hdg : decode c.code g.pc = .ok (.invokestatic index, 3))
    (ha : argsL.toArray = as') (hc : cells + rm.cells ≤ R.cells) (hs : slots + rm.slots ≤ R.slots)
    (k : ∀ v T' L, Stand p l e R s m args below meth c T' (locs ++ L) (cells + rm.cells) (slots + rm.slots) → Q' v T'.heap L → Ends p e below s cs ss Q (T'.setTop { g with pc := g.pc + 3, stack := v.toList ++ rest })) : Ends p e below s cs ss Q (T.setTop g) := by
  obtain ⟨v, _, ⟨T', L', k', n'⟩, -, X', ⟨Lc, hQ, rfl, rfl, rfl⟩, st⟩ := Jvm.LawKit.callS X hx (y := y) hown (mvT hZ w1) (mvT hZ w2) (mvT hZ w3) (mvT hZ w4) hy (backOf (W := W) hM hZ w4 w3 hf hl) hg hsize (argsL := argsL) (rest := rest) hlen hstack hW hdg (fun _ _ => ⟨ha, eT, hc, hs⟩)
  exact (k v T' Lc X' hQ).step st
theorem Ends.callC (X : Stand p l e R s m args below meth c T locs cells slots) (hx : p.tables.exec = Jvm.exec) (hZ : Z.Warmed39 s.vm) {own : String} {index : Nat} {y : MethodName} {bytes : ByteArray} {maxL : Nat} (hy1 : y.name = "<init>")
    (hown : s.vm.findClass own = some m.cls) (w1 : (Jvm.Cond.methodLink own index y).before a0 Z = true) (w2 : (Jvm.Cond.instanceMethod y).before a0 Z = true) (w3 : (Jvm.Cond.initialized y.cls).before a0 Z = true) (w4 : (Jvm.Cond.code y bytes maxL none).before a0 Z = true)
    (hy : y.cls ≠ "java/lang/invoke/MethodHandle" ∧ y.cls ≠ "java/lang/invoke/VarHandle") {rm : Room} {as' : Array Value} {Q' : Option Value → Heap → List Loc → Prop} (hM : Meets l Z y bytes maxL none [] rm as' h Q' rm.cells rm.slots)
    (W : Nat) (hf : rm.frames + 1 ≤ R.frames) (hl : W + (maxL + 11) + rm.locals ≤ R.locals) (eT : T.heap = h) {g : JFrame} (hg : g.method = m) (hsize : g.locals.size = c.maxLocals) (a : Addr) (argsL rest : List Value)
    (hlen : ∀ sig, parseMethodDescriptor y.desc = some sig → argsL.length = sig.parameters.length) (hstack : g.stack = argsL.reverse ++ .ref a :: rest) (hW : 2 * g.monitorRoom + (rest.map fun v => v.category).sum ≤ W) (hdg : decode c.code g.pc = .ok (.invokespecial index, 3))
    (ha : (.ref a :: argsL).toArray = as') (hc : cells + rm.cells ≤ R.cells) (hs : slots + rm.slots ≤ R.slots)
    (k : ∀ v T' L, Stand p l e R s m args below meth c T' (locs ++ L) (cells + rm.cells) (slots + rm.slots) → Q' v T'.heap L → Ends p e below s cs ss Q (T'.setTop { g with pc := g.pc + 3, stack := v.toList ++ rest })) : Ends p e below s cs ss Q (T.setTop g) := by
  obtain ⟨v, _, ⟨T', L', k', n'⟩, -, X', ⟨Lc, hQ, rfl, rfl, rfl⟩, st⟩ := X.specialBack hx (y := y) hy1 hown (mvT hZ w1) (mvT hZ w2) (mvT hZ w4) hy (backOf (W := W) hM hZ w4 w3 hf hl) hg hsize (Steps.refl _) (a := a) (argsL := argsL) (rest := rest) hlen hstack hW hdg (fun _ _ => ⟨ha, eT, hc, hs⟩)
  exact (k v T' Lc X' hQ).step (fun _ q => st.trans q)
theorem Ends.callV (X : Stand p l e R s m args below meth c T locs cells slots) (hx : p.tables.exec = Jvm.exec) (hZ : Z.Warmed39 s.vm) {own C : String} {index : Nat} {y : MethodName} {bytes : ByteArray} {maxL : Nat} {ret : Option FieldType}
    (hown : s.vm.findClass own = some m.cls) (w1 : (Jvm.Cond.methodLink own index y).before a0 Z = true) (wd : (Jvm.Cond.declares y).before a0 Z = true) (wsel : (Jvm.Cond.selects C y y).before a0 Z = true) (w2 : (Jvm.Cond.instanceMethod y).before a0 Z = true) (w3 : (Jvm.Cond.initialized y.cls).before a0 Z = true) (w4 : (Jvm.Cond.code y bytes maxL ret).before a0 Z = true)
    (hy : y.cls ≠ "java/lang/invoke/MethodHandle" ∧ y.cls ≠ "java/lang/invoke/VarHandle") {rm : Room} {as' : Array Value} {Q' : Option Value → Heap → List Loc → Prop} (hM : Meets l Z y bytes maxL ret [] rm as' h Q' rm.cells rm.slots)
    (W : Nat) (hf : rm.frames + 1 ≤ R.frames) (hl : W + (maxL + 11) + rm.locals ≤ R.locals) (eT : T.heap = h) (a : Addr) (E : Exa Z h a C) {g : JFrame} (hg : g.method = m) (hsize : g.locals.size = c.maxLocals) (argsL rest : List Value)
    (hlen : ∀ sig, parseMethodDescriptor y.desc = some sig → argsL.length = sig.parameters.length) (hstack : g.stack = argsL.reverse ++ .ref a :: rest) (hW : 2 * g.monitorRoom + (rest.map fun v => v.category).sum ≤ W) (hdg : decode c.code g.pc = .ok (.invokevirtual index, 3))
    (ha : (.ref a :: argsL).toArray = as') (hc : cells + rm.cells ≤ R.cells) (hs : slots + rm.slots ≤ R.slots)
    (k : ∀ v T' L, Stand p l e R s m args below meth c T' (locs ++ L) (cells + rm.cells) (slots + rm.slots) → Q' v T'.heap L → Ends p e below s cs ss Q (T'.setTop { g with pc := g.pc + 3, stack := v.toList ++ rest })) : Ends p e below s cs ss Q (T.setTop g) := by
  obtain ⟨cq, kq, q1, q2, q3⟩ := isOf (T := T) hZ eT E
  obtain ⟨v, _, ⟨T', L', k', n'⟩, -, X', ⟨Lc, hQ, rfl, rfl, rfl⟩, st⟩ := X.virtualBack hx (y := y) (z := y) hown (mvT hZ w1) (mvT hZ wd) (notFace_of_selects (args := #[]) (mvT hZ wsel)) (mvT hZ wsel) (mvT hZ w2) hy (backOf (W := W) hM hZ w4 w3 hf hl) q1 q3 hg hsize (Steps.refl _) (argsL := argsL) (rest := rest) hlen hstack hW hdg (fun _ _ => ⟨ha, eT, hc, hs⟩)
  exact (k v T' Lc X' hQ).step (fun _ q => st.trans q)
/-! ### arrays of small numbers: what each place holds, as a function -/
def Ar (Z : State) (h : Heap) (a : Addr) (ty : FieldType) (n : Nat) (f : Nat → Int32) : Prop := ∃ cl : Cell, Arr Z h a cl ty ∧ cl.slots.size = n ∧ n < 2 ^ 31 ∧ ∀ i, i < n → cl.slots[i]? = some (.int (f i))
def upd (f : Nat → Int32) (j : Nat) (v : Int32) : Nat → Int32 := fun i => if i = j then v else f i
def inb (j : Int32) (n : Nat) : Prop := ¬ (j < 0 ∨ n ≤ j.toNatClampNeg)
variable {a b : Addr} {ty : FieldType} {n sl : Nat} {f : Nat → Int32} {v : Value} {wsA : List Addr}
theorem Ar.lt (A : Ar Z h a ty n f) : a < h.size := by obtain ⟨cl, A1, -⟩ := A; exact A1.lt
theorem Ar.ext (A : Ar Z h a ty n f) (E : Ext h h') : Ar Z h' a ty n f := by obtain ⟨cl, A1, r⟩ := A; exact ⟨cl, A1.ext E, r⟩
theorem Ar.other (A : Ar Z h b ty n f) (W : Wr h h' a sl v) (q : b ≠ a) : Ar Z h' b ty n f := by obtain ⟨cl, A1, r⟩ := A; exact ⟨cl, A1.other W q, r⟩
theorem Ar.keep (A : Ar Z h a ty n f) (K : Keep h h' wsA) (q : a ∉ wsA) : Ar Z h' a ty n f := by obtain ⟨cl, A1, r⟩ := A; exact ⟨cl, ⟨K.2.1 a cl A1.1 q, A1.2⟩, r⟩
theorem Ar.small (A : Ar Z h a ty n f) : n < 2 ^ 31 := by obtain ⟨cl, A1, -, r, -⟩ := A; exact r
theorem Ar.set {j : Int32} {x : Int32} (A : Ar Z h a ty n f) (W : Wr h h' a j.toNatClampNeg (.int x)) : Ar Z h' a ty n (upd f j.toNatClampNeg x) := by
  obtain ⟨cl, A1, r1, r2, r3⟩ := A
  refine ⟨_, A1.same W, by rw [sz_set]; exact r1, r2, fun i hi => ?_⟩
  by_cases q : i = j.toNatClampNeg
  · subst q; simp [Cell.setSlot, upd, r1, hi]
  · simp only [Cell.setSlot, upd, if_neg q]; rw [Array.getElem?_setIfInBounds_ne (fun z => q z.symm)]; exact r3 i hi
theorem Ar.new {cA : ClassId} {k : Int32} (A : Arr Z h a (newA cA ty k) ty) (q : ¬ k < 0) (hd : defaultValue ty = .int 0) : Ar Z h a ty k.toNatClampNeg (fun _ => 0) :=
  ⟨_, A, sz_new _ _ _, (back32 q).2, fun i hi => by simp [newA, hi, hd]⟩
theorem Ends.newA (X : Stand p l e R s m args below meth c T locs cells slots) (hx : p.tables.exec = Jvm.exec) (hZ : Z.Warmed39 s.vm) {aty : ArrayType} (w : (Jvm.Cond.arrayClass (newarray.typeOf aty)).before a0 Z = true) (eT : T.heap = h) {g : JFrame} (hg : g.method = m) (hd : decode c.code g.pc = .ok (.newarray aty, 2)) {k : Int32} {rest : List Value} (hs : g.stack = .int k :: rest)
    (hdf : defaultValue (newarray.typeOf aty) = .int 0) (hn : ¬ k < 0) (cap : Nat) (hcap : k.toNatClampNeg ≤ cap) (hb : cap * 8 ≤ 536870912) (hc : cells + 1 ≤ R.cells) (hl : slots + cap ≤ R.slots)
    (kk : ∀ T' h' a, Stand p l e R s m args below meth c T' locs (cells + 1) (slots + cap) → T'.heap = h' → Ext h h' → h.size = a → Ar Z h' a (newarray.typeOf aty) k.toNatClampNeg (fun _ => 0) → Ends p e below s cs ss Q (T'.setTop { g with pc := g.pc + 2, stack := .ref a :: rest })) : Ends p e below s cs ss Q (T.setTop g) := by
  obtain ⟨T', h', cA, X', e', E, A, st⟩ := newP X hx hZ w eT hg hd hs hn hcap hb hc hl
  exact (kk T' h' h.size X' e' E rfl (Ar.new A hn hdf)).step st
theorem Ends.iaload (X : Stand p l e R s m args below meth c T locs cells slots) (hx : p.tables.exec = Jvm.exec) (hZ : Z.Warmed39 s.vm) (eT : T.heap = h) (A : Ar Z h a .int n f) {j : Int32} (hj : inb j n) {g : JFrame} (hg : g.method = m) {rest : List Value} (hs : g.stack = .int j :: .ref a :: rest) (hd : decode c.code g.pc = .ok (.iaload, 1))
    (k : Ends p e below s cs ss Q (T.setTop { g with pc := g.pc + 1, stack := .int (f j.toNatClampNeg) :: rest })) : Ends p e below s cs ss Q (T.setTop g) := by
  obtain ⟨cl, A1, r1, -, r3⟩ := A
  subst r1
  exact k.step (X.iaload hx (by rw [eT]; exact A1.1) (State.isArrayOf_alike hZ.alike A1.2.1) A1.2.2 hj (r3 _ (Nat.lt_of_not_le fun q => hj (Or.inr q))) hg hs hd)
theorem Ends.baload (X : Stand p l e R s m args below meth c T locs cells slots) (hx : p.tables.exec = Jvm.exec) (hZ : Z.Warmed39 s.vm) (eT : T.heap = h) (A : Ar Z h a .byte n f) {j : Int32} (hj : inb j n) {g : JFrame} (hg : g.method = m) {rest : List Value} (hs : g.stack = .int j :: .ref a :: rest) (hd : decode c.code g.pc = .ok (.baload, 1))
    (k : Ends p e below s cs ss Q (T.setTop { g with pc := g.pc + 1, stack := .int (f j.toNatClampNeg) :: rest })) : Ends p e below s cs ss Q (T.setTop g) := by
  obtain ⟨cl, A1, r1, -, r3⟩ := A
  subst r1
  exact k.step (X.baloadBytes hx (by rw [eT]; exact A1.1) (State.isArrayOf_alike hZ.alike A1.2.1) A1.2.2 hj (r3 _ (Nat.lt_of_not_le fun q => hj (Or.inr q))) hg hs hd)
theorem Ends.arrlen (X : Stand p l e R s m args below meth c T locs cells slots) (hx : p.tables.exec = Jvm.exec) (hZ : Z.Warmed39 s.vm) (eT : T.heap = h) (A : Ar Z h a ty n f) {g : JFrame} (hg : g.method = m) {rest : List Value} (hs : g.stack = .ref a :: rest) (hd : decode c.code g.pc = .ok (.arraylength, 1))
    (k : Ends p e below s cs ss Q (T.setTop { g with pc := g.pc + 1, stack := .int (Nat.toInt32 n) :: rest })) : Ends p e below s cs ss Q (T.setTop g) := by
  obtain ⟨cl, A1, r1, -, r3⟩ := A
  subst r1
  exact k.step (X.arraylength hx (by rw [eT]; exact A1.1) (State.isArrayOf_alike hZ.alike A1.2.1) hg hs hd)
theorem Ends.iastore (X : Stand p l e R s m args below meth c T locs cells slots) (hx : p.tables.exec = Jvm.exec) (hZ : Z.Warmed39 s.vm) (eT : T.heap = h) (A : Ar Z h a .int n f) {j x : Int32} (hj : inb j n) {n0 : Nat} (N : Fr n0 locs) (ge : n0 ≤ a) {g : JFrame} (hg : g.method = m) {rest : List Value} (hs : g.stack = .int x :: .int j :: .ref a :: rest) (hd : decode c.code g.pc = .ok (.iastore, 1))
    (k : ∀ T' h' sl, Stand p l e R s m args below meth c T' (locs ++ [⟨a, sl⟩]) cells slots → T'.heap = h' → Fr n0 (locs ++ [⟨a, sl⟩]) → Wr h h' a sl (.int x) → Ar Z h' a .int n (upd f j.toNatClampNeg x) → Ends p e below s cs ss Q (T'.setTop { g with pc := g.pc + 1, stack := rest })) : Ends p e below s cs ss Q (T.setTop g) := by
  obtain ⟨cl, A1, r1, r2, r3⟩ := A
  obtain ⟨T', h', X', e', W, st⟩ := stI X hx hZ eT A1 (by rw [r1]; exact hj) hg hs hd
  exact (k T' h' _ X' e' (Fr.snoc X' N ge) W (Ar.set ⟨cl, A1, r1, r2, r3⟩ W)).step st
theorem Ends.bastore (X : Stand p l e R s m args below meth c T locs cells slots) (hx : p.tables.exec = Jvm.exec) (hZ : Z.Warmed39 s.vm) (eT : T.heap = h) (A : Ar Z h a .byte n f) {j x : Int32} (hj : inb j n) {n0 : Nat} (N : Fr n0 locs) (ge : n0 ≤ a) {g : JFrame} (hg : g.method = m) {rest : List Value} (hs : g.stack = .int x :: .int j :: .ref a :: rest) (hd : decode c.code g.pc = .ok (.bastore, 1))
    (k : ∀ T' h' sl, Stand p l e R s m args below meth c T' (locs ++ [⟨a, sl⟩]) cells slots → T'.heap = h' → Fr n0 (locs ++ [⟨a, sl⟩]) → Wr h h' a sl (.int (nar .byte x)) → Ar Z h' a .byte n (upd f j.toNatClampNeg (nar .byte x)) → Ends p e below s cs ss Q (T'.setTop { g with pc := g.pc + 1, stack := rest })) : Ends p e below s cs ss Q (T.setTop g) := by
  obtain ⟨cl, A1, r1, r2, r3⟩ := A
  obtain ⟨T', h', X', e', W, st⟩ := stB X hx hZ eT A1 (by rw [r1]; exact hj) hg hs hd
  exact (k T' h' _ X' e' (Fr.snoc X' N ge) W (Ar.set ⟨cl, A1, r1, r2, r3⟩ W)).step st
theorem Ends.getF (X : Stand p l e R s m args below meth c T locs cells slots) (hx : p.tables.exec = Jvm.exec) (hZ : Z.Warmed39 s.vm) {own O fn d : String} {index : Nat} (hown : s.vm.findClass own = some m.cls) (w : (Jvm.Cond.fieldLink own index O fn d).before a0 Z = true) (eT : T.heap = h) (F : Fld Z h a O fn d v) {g : JFrame} (hg : g.method = m) {rest : List Value} (hs : g.stack = .ref a :: rest) (hd : decode c.code g.pc = .ok (.getfield index, 3))
    (k : ∀ T', Stand p l e R s m args below meth c T' locs cells slots → T'.heap = h → Ends p e below s cs ss Q (T'.setTop { g with pc := g.pc + 3, stack := v :: rest })) : Ends p e below s cs ss Q (T.setTop g) := by
  obtain ⟨T', X', e', st⟩ := Jvm.RoadKit.getF X hx hZ hown (host := "") (Or.inl w) Via.refl eT F hg hs hd
  exact (k T' X' e').step st
theorem Ends.putF (X : Stand p l e R s m args below meth c T locs cells slots) (hx : p.tables.exec = Jvm.exec) (hZ : Z.Warmed39 s.vm) {own O fn d : String} {index kk : Nat} {tf : FieldType} {old : Value} (hown : s.vm.findClass own = some m.cls) (w : (Jvm.Cond.fieldLink own index O fn d).before a0 Z = true) (eT : T.heap = h) (F : Fld Z h a O fn d old) (E : Exa Z h a O) (L : (Jvm.Cond.lays O O fn d).before a0 Z = true ∨ ((Jvm.Cond.laysFinal O O fn d).before a0 Z = true ∧ own = O ∧ meth.name = "<init>")) (wi : (Jvm.Cond.instantiable O kk).before a0 Z = true)
    (hty : parseFieldDescriptor d = some tf) (hn : narrow tf v = v) (hf : fits tf v = true) {n0 : Nat} (N : Fr n0 locs) (ge : n0 ≤ a) {g : JFrame} (hg : g.method = m) {rest : List Value} (hs : g.stack = v :: .ref a :: rest) (hd : decode c.code g.pc = .ok (.putfield index, 3))
    (k : ∀ T' h', Stand p l e R s m args below meth c T' (locs ++ [⟨a, Jvm.RoadKit.slotOf Z O fn d⟩]) cells slots → T'.heap = h' → Fr n0 (locs ++ [⟨a, Jvm.RoadKit.slotOf Z O fn d⟩]) → Wr h h' a (Jvm.RoadKit.slotOf Z O fn d) v → Ends p e below s cs ss Q (T'.setTop { g with pc := g.pc + 3, stack := rest })) : Ends p e below s cs ss Q (T.setTop g) := by
  obtain ⟨T', h', X', e', W, st⟩ := Jvm.RoadKit.putF X hx hZ hown (host := "") (Or.inl w) Via.refl eT F E L wi hty hn hf hg hs hd
  exact (k T' h' X' e' (Fr.snoc X' N ge) W).step st
theorem Ends.newO (X : Stand p l e R s m args below meth c T locs cells slots) (hx : p.tables.exec = Jvm.exec) (hZ : Z.Warmed39 s.vm) {own C : String} {index k : Nat} (hown : s.vm.findClass own = some m.cls) (w : (Jvm.Cond.classLink own index C).before a0 Z = true) (wi : (Jvm.Cond.instantiable C k).before a0 Z = true) (wz : (Jvm.Cond.initialized C).before a0 Z = true) (eT : T.heap = h)
    {g : JFrame} (hg : g.method = m) (hd : decode c.code g.pc = .ok (.new index, 3)) (hc : cells + 1 ≤ R.cells) (hl : slots + k ≤ R.slots)
    (kk : ∀ T' h' a, Stand p l e R s m args below meth c T' locs (cells + 1) (slots + k) → T'.heap = h' → Ext h h' → h.size = a → Exa Z h' a C → (∀ {O nm d : String} {ty : FieldType}, Laid Z a0 C O nm d → parseFieldDescriptor d = some ty → Fld Z h' a O nm d (defaultValue ty)) → Ends p e below s cs ss Q (T'.setTop { g with pc := g.pc + 3, stack := .ref a :: g.stack })) : Ends p e below s cs ss Q (T.setTop g) := by
  obtain ⟨T', h', X', e', E, A, D, -, st⟩ := Jvm.RoadKit.newO X hx hZ hown w wi wz eT hg hd hc hl
  exact (kk T' h' _ X' e' E rfl A D).step st
theorem Ends.initO (X : Stand p l e R s m args below meth c T locs cells slots) (hx : p.tables.exec = Jvm.exec) (hZ : Z.Warmed39 s.vm) {own : String} {idx : Nat} (hown : s.vm.findClass own = some m.cls) (w1 : (Jvm.Cond.methodLink own idx Lib.objectInit).before a0 Z = true) (w2 : (Jvm.Cond.instanceMethod Lib.objectInit).before a0 Z = true)
    (w3 : (Jvm.Cond.code Lib.objectInit ⟨#[0xb1]⟩ 1 none).before a0 Z = true) (eT : T.heap = h) {g : JFrame} (hg : g.method = m) (hsize : g.locals.size = c.maxLocals) {rest : List Value} (hs : g.stack = .ref a :: rest) (hd : decode c.code g.pc = .ok (.invokespecial idx, 3))
    (hf : 1 ≤ R.frames) (W : Nat) (hW : 2 * g.monitorRoom + (rest.map fun v => v.category).sum ≤ W) (hl : W + 12 ≤ R.locals)
    (k : ∀ T', Stand p l e R s m args below meth c T' locs cells slots → T'.heap = h → Ends p e below s cs ss Q (T'.setTop { g with pc := g.pc + 3, stack := rest })) : Ends p e below s cs ss Q (T.setTop g) := by
  obtain ⟨T', X', e', st⟩ := Jvm.RoadKit.initO X hx hZ hown w1 w2 w3 eT hg hsize hs hd hf hW hl
  exact (k T' X' e').step st
def OneS (o : Slot) : Prop := o = .unset ∨ ∃ w, o = .val w ∧ w.category = 1
theorem storeL {ls : Array Slot} {i : Nat} {x : Int64} {o o' : Slot} (h1 : ls[i]? = some o) (h2 : ls[i + 1]? = some o') (p1 : OneS o) (p2 : OneS o') : storeLocals ls i (.long x) = some ((ls.setIfInBounds i (.val (.long x))).setIfInBounds (i + 1) .second) := by
  have l1 : i < ls.size := (Array.getElem?_eq_some_iff.mp h1).1
  have l2 : i + 1 < ls.size := (Array.getElem?_eq_some_iff.mp h2).1
  have e2 : (ls.setIfInBounds i (.val (.long x)))[i + 1]? = some o' := by rw [Array.getElem?_setIfInBounds_ne (by omega)]; exact h2
  have q : storeSelf ls i (.long x) = some ((ls.setIfInBounds i (.val (.long x))).setIfInBounds (i + 1) .second) := by
    have cat : (Value.long x).category = 2 := rfl
    simp only [storeSelf, setAt, if_pos l1, cat, if_true, Option.bind_eq_bind, Option.bind_some, e2]
    rcases p2 with rfl | ⟨w, rfl, hw⟩
    · simp [l2]
    · simp [l2, hw]
  simp only [storeLocals, h1, Option.bind_eq_bind, Option.bind_some]
  rcases p1 with rfl | ⟨w, rfl, hw⟩
  · exact q
  · simp only [hw]; exact q
end OwnFrame
-- body 2
def F2  : Unit := ()
-- body 1
def F1_13 (co0_state : Int32) (co0_top : Int32) : Int32 × Int32 := default
def O1_13 (co0_state : Int32) (co0_top : Int32) : Prop := False
def F1_28 (co0_state : Int32) (co0_top : Int32) (x1 : Int32) (x2 : Int32) : Int32 × Int32 := (x1, x2)
def F1_8 (co0_state : Int32) (co0_top : Int32) (x1 : Int32) (x2 : Int32) : Int32 × Int32 := if x2 < (-1 : Int32) then (F1_13 co0_state co0_top) else (F1_28 co0_state co0_top x1 x2)
def O1_8 (co0_state : Int32) (co0_top : Int32) (x1 : Int32) (x2 : Int32) : Prop := (x2 < (-1 : Int32) → (O1_13 co0_state co0_top)) ∧ (¬ x2 < (-1 : Int32) → True)
def F1 (p1 : Int32) (p2 : Int32) (o0_state : Int32) (o0_top : Int32) : Int32 × Int32 := if p1 < 0 then (F1_13 o0_state o0_top) else (F1_8 o0_state o0_top p1 p2)
def O1 (p1 : Int32) (p2 : Int32) (o0_state : Int32) (o0_top : Int32) : Prop := (p1 < 0 → (O1_13 o0_state o0_top)) ∧ (¬ p1 < 0 → (O1_8 o0_state o0_top p1 p2))
-- body 4
def F4 (o0_state : Int32) (o0_top : Int32) : Int32 := (((o0_state <<< ((16 : Int32) &&& 31)) ^^^ (o0_top + (1 : Int32))) * (-1640531527 : Int32))
-- body 0
def F0_182 (t0 : Int32) : Int32 := (nar .boolean t0)
def F0_177  : Int32 := (F0_182 (1 : Int32))
def F0_181  : Int32 := (F0_182 (0 : Int32))
def F0_172 (x17 : Int32) : Int32 := if x17 = 0 then F0_181 else F0_177
def F0_165 (x15 : Int32) (t0 : Int32) : Int32 := if x15 = 0 then F0_181 else (F0_172 t0)
def F0_160 (x15 : Int32) : Int32 := (F0_165 x15 (1 : Int32))
def F0_164 (x15 : Int32) : Int32 := (F0_165 x15 (0 : Int32))
def F0_155 (x15 : Int32) (x16 : Int32) (t0 : Int32) : Int32 := if t0 = x16 then (F0_160 x15) else (F0_164 x15)
def F0_150 (x15 : Int32) (x16 : Int32) : Int32 := (F0_155 x15 x16 (1 : Int32))
def F0_154 (x15 : Int32) (x16 : Int32) : Int32 := (F0_155 x15 x16 (0 : Int32))
def F0_141 (x12 : Int32) (x13 : Int32) (x15 : Int32) (t0 : Int32) : Int32 := if x12 = x13 then (F0_150 x15 t0) else (F0_154 x15 t0)
def F0_136 (x12 : Int32) (x13 : Int32) (x15 : Int32) : Int32 := (F0_141 x12 x13 x15 (1 : Int32))
def F0_140 (x12 : Int32) (x13 : Int32) (x15 : Int32) : Int32 := (F0_141 x12 x13 x15 (0 : Int32))
def F0_129 (x6 : Int32) (x8 : Int32) (x12 : Int32) (x13 : Int32) (x15 : Int32) : Int32 := if x6 = x8 then (F0_136 x12 x13 x15) else (F0_140 x12 x13 x15)
def F0_120 (x5 : Int32) (x6 : Int32) (x7 : Int32) (x8 : Int32) (x12 : Int32) (x13 : Int32) (t0 : Int32) : Int32 := if x5 = x7 then (F0_129 x6 x8 x12 x13 t0) else (F0_140 x12 x13 t0)
def F0_115 (x5 : Int32) (x6 : Int32) (x7 : Int32) (x8 : Int32) (x12 : Int32) (x13 : Int32) : Int32 := (F0_120 x5 x6 x7 x8 x12 x13 (1 : Int32))
def F0_119 (x5 : Int32) (x6 : Int32) (x7 : Int32) (x8 : Int32) (x12 : Int32) (x13 : Int32) : Int32 := (F0_120 x5 x6 x7 x8 x12 x13 (0 : Int32))
def F0_108 (x5 : Int32) (x6 : Int32) (x7 : Int32) (x8 : Int32) (x12 : Int32) (x13 : Int32) (x14 : Int32) : Int32 := if x12 = x14 then (F0_115 x5 x6 x7 x8 x12 x13) else (F0_119 x5 x6 x7 x8 x12 x13)
def F0_90 (x5 : Int32) (x6 : Int32) (x7 : Int32) (x8 : Int32) (x11 : Int32) (x12 : Int32) (x13 : Int32) : Int32 := (F0_108 x5 x6 x7 x8 x12 x13 (((x5 * (65536 : Int32)) * x11) + ((x6 + (1 : Int32)) * x11)))
def F0_83 (cq59_state : Int32) (cq59_top : Int32) (x5 : Int32) (x6 : Int32) (x7 : Int32) (x8 : Int32) (x11 : Int32) (x12 : Int32) : Int32 := (F0_90 x5 x6 x7 x8 x11 x12 (F4 cq59_state cq59_top))
def F0_46 (x5 : Int32) (x6 : Int32) (x7 : Int32) (x8 : Int32) : Int32 := (F0_83 (F1 x7 x8 (0 : Int32) (0 : Int32)).1 (F1 x7 x8 (0 : Int32) (0 : Int32)).2 x5 x6 x7 x8 (-1640531527 : Int32) (F4 (F1 x5 x6 (0 : Int32) (0 : Int32)).1 (F1 x5 x6 (0 : Int32) (0 : Int32)).2))
def O0_46 (x5 : Int32) (x6 : Int32) (x7 : Int32) (x8 : Int32) : Prop := (O1 x5 x6 (0 : Int32) (0 : Int32)) ∧ (O1 x7 x8 (0 : Int32) (0 : Int32)) ∧ True
def F0_20 (x5 : Int32) (x6 : Int32) : Int32 := (F0_46 x5 x6 x5 x6)
def O0_20 (x5 : Int32) (x6 : Int32) : Prop := (O0_46 x5 x6 x5 x6)
def F0_37 (x4 : Int32) (x5 : Int32) (x6 : Int32) (x7 : Int32) : Int32 := (F0_46 x5 x6 x7 ((x4 &&& (65535 : Int32)) - (1 : Int32)))
def O0_37 (x4 : Int32) (x5 : Int32) (x6 : Int32) (x7 : Int32) : Prop := (O0_46 x5 x6 x7 ((x4 &&& (65535 : Int32)) - (1 : Int32)))
def F0_31 (x3 : Int32) (x4 : Int32) (x5 : Int32) (x6 : Int32) : Int32 := (F0_37 x4 x5 x6 (x3 &&& (65535 : Int32)))
def O0_31 (x3 : Int32) (x4 : Int32) (x5 : Int32) (x6 : Int32) : Prop := (O0_37 x4 x5 x6 (x3 &&& (65535 : Int32)))
def F0_14 (x2 : Int32) (x3 : Int32) (x4 : Int32) (x5 : Int32) (x6 : Int32) : Int32 := if (x2 &&& (1 : Int32)) = 0 then (F0_31 x3 x4 x5 x6) else (F0_20 x5 x6)
def O0_14 (x2 : Int32) (x3 : Int32) (x4 : Int32) (x5 : Int32) (x6 : Int32) : Prop := ((x2 &&& (1 : Int32)) = 0 → (O0_31 x3 x4 x5 x6)) ∧ (¬ (x2 &&& (1 : Int32)) = 0 → (O0_20 x5 x6))
def F0_6 (x1 : Int32) (x2 : Int32) (x3 : Int32) (x4 : Int32) (x5 : Int32) : Int32 := (F0_14 x2 x3 x4 x5 ((x1 &&& (65535 : Int32)) - (1 : Int32)))
def O0_6 (x1 : Int32) (x2 : Int32) (x3 : Int32) (x4 : Int32) (x5 : Int32) : Prop := (O0_14 x2 x3 x4 x5 ((x1 &&& (65535 : Int32)) - (1 : Int32)))
def F0 (p0 : Int32) (p1 : Int32) (p2 : Int32) (p3 : Int32) (p4 : Int32) : Int32 := (F0_6 p1 p2 p3 p4 (p0 &&& (65535 : Int32)))
def O0 (p0 : Int32) (p1 : Int32) (p2 : Int32) (p3 : Int32) (p4 : Int32) : Prop := (O0_6 p1 p2 p3 p4 (p0 &&& (65535 : Int32)))
theorem pd_0 : parseMethodDescriptor "()V" = some ⟨[], none⟩ := by decide +kernel
theorem pd_1 : parseMethodDescriptor "(II)V" = some ⟨[.int, .int], none⟩ := by decide +kernel
theorem pd_2 : parseMethodDescriptor "()I" = some ⟨[], (some .int)⟩ := by decide +kernel
theorem d2_0 : decode jdk_30_method_1_code 0 = .ok (.aload_n 0, 1) := by decide +kernel
theorem d2_1 : decode jdk_30_method_1_code 1 = .ok (.invokespecial 1, 3) := by decide +kernel
theorem d2_4 : decode jdk_30_method_1_code 4 = .ok (.return_, 1) := by decide +kernel
theorem pn_2 : plainFor (⟨"java/lang/Record", "<init>", "()V"⟩ : MethodName) = true := by first | exact plainFor_of_name (by first | (simp [plainName, overriddenIn]; done) | decide +kernel) | decide +kernel
theorem ef_2 (m : MethodId) (y0 : Addr) : entryFrame m #[(.ref y0)] 1 = mkF m 0 #[.val (.ref y0)] [] := by first | (simp [entryFrame, mkF, argsToLocals, Value.category]; done) | rfl
def Q2 (Z : State) (a_o0 : Addr)  (h0 : Heap) (n0 : Nat) (ans : Unit) (v : Option Value) (h : Heap) (L : List Loc) : Prop := v = none ∧ Fr n0 L ∧ h = h0
set_option maxRecDepth 65536 in
set_option maxHeartbeats 40000000 in
theorem rm2 (l : Launch) (Z : State) (a0 : Array Value) (hw : ∀ d ∈ tables_1, d.before a0 Z = true)  (a_o0 : Addr) (h0 : Heap) (n0 : Nat) (Z0 : n0 ≤ h0.size)  :
    Meets l Z (⟨"java/lang/Record", "<init>", "()V"⟩ : MethodName) jdk_30_method_1_code 1 none [] ({ frames := 1, cells := 0, slots := 0, locals := 12 } : Room) #[(.ref a_o0)] h0 (Q2 Z a_o0 h0 n0 F2) 0 0 := by
  refine Meets.of pn_2 ?_
  intro p e s m below meth c s₁ hx hby hml hZ hown hnm hret hlk X0 e0
  have hml : c.maxLocals = 1 := hml
  have hown : s.vm.findClass "java/lang/Record" = some m.cls := hown
  have N0 := Fr.nil n0
  refine Ends.step (u' := (s₁.setTop (mkF m 0 #[.val (.ref a_o0)] []))) ?_ (fun _ k => castTop (ef_2 m a_o0) k)
  refine Ends.step (u' := (s₁.setTop (mkF m 1 #[.val (.ref a_o0)] [(.ref a_o0)]))) ?_ (fun _ k => XS.aloadN X0.here hx rfl (hb hby d2_0) rfl rfl k)
  refine Ends.initO X0 hx hZ hown (hw _ (List.mem_of_getElem? (i := 12) rfl)) (hw _ (List.mem_of_getElem? (i := 13) rfl)) (hw _ (List.mem_of_getElem? (i := 14) rfl)) e0 (g := (mkF m 1 #[.val (.ref a_o0)] [(.ref a_o0)])) rfl (by rw [hml]; rfl) rfl (hb hby d2_1) (by decide) 0 (by show 2 * 0 + _ ≤ _; exact Nat.le_of_eq rfl) (by decide) (fun T1 X1 e1 => ?_)
  show Ends p e below s _ _ _ (T1.setTop (mkF m 4 #[.val (.ref a_o0)] []))
  exact Ends.ret X1 (v := none) (fun _ => rfl) hlk (fun fs hr => X1.returnOut hx hret (hb hby d2_4) hr) (by decide) (by decide) ⟨rfl, N0, e1⟩
theorem d1_0 : decode prog_48_method_1_code 0 = .ok (.aload_n 0, 1) := by decide +kernel
theorem d1_1 : decode prog_48_method_1_code 1 = .ok (.invokespecial 1, 3) := by decide +kernel
theorem d1_4 : decode prog_48_method_1_code 4 = .ok (.iload_n 1, 1) := by decide +kernel
theorem d1_5 : decode prog_48_method_1_code 5 = .ok (.ifCond .lt 8, 3) := by decide +kernel
theorem d1_8 : decode prog_48_method_1_code 8 = .ok (.iload_n 2, 1) := by decide +kernel
theorem d1_9 : decode prog_48_method_1_code 9 = .ok (.iconst (-1), 1) := by decide +kernel
theorem d1_10 : decode prog_48_method_1_code 10 = .ok (.if_icmp .ge 18, 3) := by decide +kernel
theorem d1_28 : decode prog_48_method_1_code 28 = .ok (.aload_n 0, 1) := by decide +kernel
theorem d1_29 : decode prog_48_method_1_code 29 = .ok (.iload_n 1, 1) := by decide +kernel
theorem d1_30 : decode prog_48_method_1_code 30 = .ok (.putfield 18, 3) := by decide +kernel
theorem d1_33 : decode prog_48_method_1_code 33 = .ok (.aload_n 0, 1) := by decide +kernel
theorem d1_34 : decode prog_48_method_1_code 34 = .ok (.iload_n 2, 1) := by decide +kernel
theorem d1_35 : decode prog_48_method_1_code 35 = .ok (.putfield 24, 3) := by decide +kernel
theorem d1_38 : decode prog_48_method_1_code 38 = .ok (.return_, 1) := by decide +kernel
theorem pn_1 : plainFor (⟨"com/example/holywell/holywell/pds/Head", "<init>", "(II)V"⟩ : MethodName) = true := by first | exact plainFor_of_name (by first | (simp [plainName, overriddenIn]; done) | decide +kernel) | decide +kernel
theorem ef_1 (m : MethodId) (y0 : Addr) (y1 : Int32) (y2 : Int32) : entryFrame m #[(.ref y0), (.int y1), (.int y2)] 3 = mkF m 0 #[.val (.ref y0), .val (.int y1), .val (.int y2)] [] := by first | (simp [entryFrame, mkF, argsToLocals, Value.category]; done) | rfl
def Q1 (Z : State) (a_o0 : Addr) (o0_state : Int32) (o0_top : Int32) (h0 : Heap) (n0 : Nat) (ans : Int32 × Int32) (v : Option Value) (h : Heap) (L : List Loc) : Prop := v = none ∧ Fr n0 L ∧ Keep h0 h [a_o0] ∧ Fld Z h a_o0 "com/example/holywell/holywell/pds/Head" "state" "I" (.int ans.1) ∧ Fld Z h a_o0 "com/example/holywell/holywell/pds/Head" "top" "I" (.int ans.2)
set_option maxRecDepth 65536 in
set_option maxHeartbeats 40000000 in
theorem rm1 (l : Launch) (Z : State) (a0 : Array Value) (hw : ∀ d ∈ tables_1, d.before a0 Z = true) (p1 : Int32) (p2 : Int32) (o0_state : Int32) (o0_top : Int32) (a_o0 : Addr) (h0 : Heap) (n0 : Nat) (Z0 : n0 ≤ h0.size) (E_o0 : Exa Z h0 a_o0 "com/example/holywell/holywell/pds/Head") (F_o0_state : Fld Z h0 a_o0 "com/example/holywell/holywell/pds/Head" "state" "I" (.int o0_state)) (F_o0_top : Fld Z h0 a_o0 "com/example/holywell/holywell/pds/Head" "top" "I" (.int o0_top)) (g_o0 : n0 ≤ a_o0) (ok : O1 p1 p2 o0_state o0_top) :
    Meets l Z (⟨"com/example/holywell/holywell/pds/Head", "<init>", "(II)V"⟩ : MethodName) prog_48_method_1_code 3 none [] ({ frames := 2, cells := 0, slots := 0, locals := 24 } : Room) #[(.ref a_o0), (.int p1), (.int p2)] h0 (Q1 Z a_o0 o0_state o0_top h0 n0 (F1 p1 p2 o0_state o0_top)) 0 0 := by
  refine Meets.of pn_1 ?_
  intro p e s m below meth c s₁ hx hby hml hZ hown hnm hret hlk X0 e0
  have hml : c.maxLocals = 3 := hml
  have hown : s.vm.findClass "com/example/holywell/holywell/pds/Head" = some m.cls := hown
  have N0 := Fr.nil n0
  have K0 := Keep.refl h0 [a_o0]
  have b13 : ∀ (T : State) (L : List Loc) (h : Heap) (X : Stand p l e ({ frames := 2, cells := 0, slots := 0, locals := 24 } : Room) s m #[(.ref a_o0), (.int p1), (.int p2)] below meth c T L 0 0) (eT : T.heap = h) (N : Fr n0 L) (Zs : n0 ≤ h.size) (Kp : Keep h0 h [a_o0]) (co0_state : Int32) (co0_top : Int32) (d0 : Slot) (od0 : OneS d0) (d1 : Slot) (od1 : OneS d1) (d2 : Slot) (od2 : OneS d2) (E_o0 : Exa Z h a_o0 "com/example/holywell/holywell/pds/Head") (F_o0_state : Fld Z h a_o0 "com/example/holywell/holywell/pds/Head" "state" "I" (.int co0_state)) (F_o0_top : Fld Z h a_o0 "com/example/holywell/holywell/pds/Head" "top" "I" (.int co0_top)) (ok : (O1_13 co0_state co0_top)), Ends p e below s 0 0 (Q1 Z a_o0 o0_state o0_top h0 n0 (F1_13 co0_state co0_top)) (T.setTop (mkF m 13 #[d0, d1, d2] [])) := by
    intro T L h X eT N Zs Kp co0_state co0_top d0 od0 d1 od1 d2 od2 E_o0 F_o0_state F_o0_top ok
    exact ok.elim
  have b28 : ∀ (T : State) (L : List Loc) (h : Heap) (X : Stand p l e ({ frames := 2, cells := 0, slots := 0, locals := 24 } : Room) s m #[(.ref a_o0), (.int p1), (.int p2)] below meth c T L 0 0) (eT : T.heap = h) (N : Fr n0 L) (Zs : n0 ≤ h.size) (Kp : Keep h0 h [a_o0]) (co0_state : Int32) (co0_top : Int32) (x1 : Int32) (x2 : Int32) (E_o0 : Exa Z h a_o0 "com/example/holywell/holywell/pds/Head") (F_o0_state : Fld Z h a_o0 "com/example/holywell/holywell/pds/Head" "state" "I" (.int co0_state)) (F_o0_top : Fld Z h a_o0 "com/example/holywell/holywell/pds/Head" "top" "I" (.int co0_top)), Ends p e below s 0 0 (Q1 Z a_o0 o0_state o0_top h0 n0 (F1_28 co0_state co0_top x1 x2)) (T.setTop (mkF m 28 #[.val (.ref a_o0), .val (.int x1), .val (.int x2)] [])) := by
    intro T L h X eT N Zs Kp co0_state co0_top x1 x2 E_o0 F_o0_state F_o0_top
    refine Ends.step (u' := (T.setTop (mkF m 29 #[.val (.ref a_o0), .val (.int x1), .val (.int x2)] [(.ref a_o0)]))) ?_ (fun _ k => XS.aloadN X.here hx rfl (hb hby d1_28) rfl rfl k)
    refine Ends.step (u' := (T.setTop (mkF m 30 #[.val (.ref a_o0), .val (.int x1), .val (.int x2)] [(.int x1), (.ref a_o0)]))) ?_ (fun _ k => XS.iloadN X.here hx rfl (hb hby d1_29) rfl k)
    refine Ends.putF X hx hZ hown (hw _ (List.mem_of_getElem? (i := 15) rfl)) eT F_o0_state E_o0 (Or.inr ⟨(hw _ (List.mem_of_getElem? (i := 16) rfl)), rfl, hnm⟩) (hw _ (List.mem_of_getElem? (i := 2) rfl)) (tf := .int) (by decide) rfl rfl N g_o0 (g := (mkF m 30 #[.val (.ref a_o0), .val (.int x1), .val (.int x2)] [(.int x1), (.ref a_o0)])) rfl rfl (hb hby d1_30) (fun T1 h1 X1 e1 N1 W1 => ?_)
    have Fd2 := F_o0_state.same W1
    have Fd3 := F_o0_top.other W1 (Or.inr (slot_ne (a0 := a0) (Or.inr (hw _ (List.mem_of_getElem? (i := 18) rfl))) (Or.inr (hw _ (List.mem_of_getElem? (i := 16) rfl))) (by decide) (t := .int) (t' := .int) (by decide) (by decide)))
    have E4 := E_o0.wr W1
    show Ends p e below s _ _ _ (T1.setTop (mkF m 33 #[.val (.ref a_o0), .val (.int x1), .val (.int x2)] []))
    have Z5 : n0 ≤ h1.size := W1.size.symm ▸ Zs
    have K6 := Kp.wr W1 (Or.inl (List.mem_of_getElem? (i := 0) rfl))
    refine Ends.step (u' := (T1.setTop (mkF m 34 #[.val (.ref a_o0), .val (.int x1), .val (.int x2)] [(.ref a_o0)]))) ?_ (fun _ k => XS.aloadN X1.here hx rfl (hb hby d1_33) rfl rfl k)
    refine Ends.step (u' := (T1.setTop (mkF m 35 #[.val (.ref a_o0), .val (.int x1), .val (.int x2)] [(.int x2), (.ref a_o0)]))) ?_ (fun _ k => XS.iloadN X1.here hx rfl (hb hby d1_34) rfl k)
    refine Ends.putF X1 hx hZ hown (hw _ (List.mem_of_getElem? (i := 17) rfl)) e1 Fd3 E4 (Or.inr ⟨(hw _ (List.mem_of_getElem? (i := 18) rfl)), rfl, hnm⟩) (hw _ (List.mem_of_getElem? (i := 2) rfl)) (tf := .int) (by decide) rfl rfl N1 g_o0 (g := (mkF m 35 #[.val (.ref a_o0), .val (.int x1), .val (.int x2)] [(.int x2), (.ref a_o0)])) rfl rfl (hb hby d1_35) (fun T7 h7 X7 e7 N7 W7 => ?_)
    have Fd8 := Fd2.other W7 (Or.inr (slot_ne (a0 := a0) (Or.inr (hw _ (List.mem_of_getElem? (i := 16) rfl))) (Or.inr (hw _ (List.mem_of_getElem? (i := 18) rfl))) (by decide) (t := .int) (t' := .int) (by decide) (by decide)))
    have Fd9 := Fd3.same W7
    have E10 := E4.wr W7
    show Ends p e below s _ _ _ (T7.setTop (mkF m 38 #[.val (.ref a_o0), .val (.int x1), .val (.int x2)] []))
    have Z11 : n0 ≤ h7.size := W7.size.symm ▸ Z5
    have K12 := K6.wr W7 (Or.inl (List.mem_of_getElem? (i := 0) rfl))
    exact Ends.ret X7 (v := none) (fun _ => rfl) hlk (fun fs hr => X7.returnOut hx hret (hb hby d1_38) hr) (by decide) (by decide) (by rw [e7]; exact ⟨rfl, N7, K12, Fd8, Fd9⟩)
  have b8 : ∀ (T : State) (L : List Loc) (h : Heap) (X : Stand p l e ({ frames := 2, cells := 0, slots := 0, locals := 24 } : Room) s m #[(.ref a_o0), (.int p1), (.int p2)] below meth c T L 0 0) (eT : T.heap = h) (N : Fr n0 L) (Zs : n0 ≤ h.size) (Kp : Keep h0 h [a_o0]) (co0_state : Int32) (co0_top : Int32) (x1 : Int32) (x2 : Int32) (E_o0 : Exa Z h a_o0 "com/example/holywell/holywell/pds/Head") (F_o0_state : Fld Z h a_o0 "com/example/holywell/holywell/pds/Head" "state" "I" (.int co0_state)) (F_o0_top : Fld Z h a_o0 "com/example/holywell/holywell/pds/Head" "top" "I" (.int co0_top)) (ok : (O1_8 co0_state co0_top x1 x2)), Ends p e below s 0 0 (Q1 Z a_o0 o0_state o0_top h0 n0 (F1_8 co0_state co0_top x1 x2)) (T.setTop (mkF m 8 #[.val (.ref a_o0), .val (.int x1), .val (.int x2)] [])) := by
    intro T L h X eT N Zs Kp co0_state co0_top x1 x2 E_o0 F_o0_state F_o0_top ok
    obtain ⟨okt, okf⟩ := ok
    refine Ends.step (u' := (T.setTop (mkF m 9 #[.val (.ref a_o0), .val (.int x1), .val (.int x2)] [(.int x2)]))) ?_ (fun _ k => XS.iloadN X.here hx rfl (hb hby d1_8) rfl k)
    refine Ends.step (u' := (T.setTop (mkF m 10 #[.val (.ref a_o0), .val (.int x1), .val (.int x2)] [(.int (-1 : Int32)), (.int x2)]))) ?_ (fun _ k => XT.iconstV X.here hx rfl (-1 : Int32) (hb hby d1_9) rfl k)
    by_cases hc10 : x2 < (-1 : Int32)
    · refine Eq.mp (congrArg (fun z => Ends p e below s 0 0 (Q1 Z a_o0 o0_state o0_top h0 n0 z) (T.setTop (mkF m 10 #[.val (.ref a_o0), .val (.int x1), .val (.int x2)] [(.int (-1 : Int32)), (.int x2)]))) (show (F1_8 co0_state co0_top x1 x2) = (F1_13 co0_state co0_top) from (if_pos hc10)).symm) ?_
      refine Ends.step (u' := (T.setTop (mkF m 13 #[.val (.ref a_o0), .val (.int x1), .val (.int x2)] []))) ?_ (fun _ k => XS.icmpNo X.here hx rfl (hb hby d1_10) rfl (XT.ii_ge_f hc10) k)
      exact b13 T _ _ X eT N Zs Kp co0_state co0_top (.val (.ref a_o0)) (Or.inr ⟨_, rfl, rfl⟩) (.val (.int x1)) (Or.inr ⟨_, rfl, rfl⟩) (.val (.int x2)) (Or.inr ⟨_, rfl, rfl⟩) E_o0 F_o0_state F_o0_top (okt hc10)
    · refine Eq.mp (congrArg (fun z => Ends p e below s 0 0 (Q1 Z a_o0 o0_state o0_top h0 n0 z) (T.setTop (mkF m 10 #[.val (.ref a_o0), .val (.int x1), .val (.int x2)] [(.int (-1 : Int32)), (.int x2)]))) (show (F1_8 co0_state co0_top x1 x2) = (F1_28 co0_state co0_top x1 x2) from (if_neg hc10)).symm) ?_
      refine Ends.step (u' := (T.setTop (mkF m 28 #[.val (.ref a_o0), .val (.int x1), .val (.int x2)] []))) ?_ (fun _ k => XS.icmpYes X.here hx rfl (pc0 := 10) (pc' := 28) rfl (hb hby d1_10) rfl (XT.ii_ge_t hc10) (by decide) (by decide) k)
      exact b28 T _ _ X eT N Zs Kp co0_state co0_top x1 x2 E_o0 F_o0_state F_o0_top
  refine Ends.step (u' := (s₁.setTop (mkF m 0 #[.val (.ref a_o0), .val (.int p1), .val (.int p2)] []))) ?_ (fun _ k => castTop (ef_1 m a_o0 p1 p2) k)
  obtain ⟨okt, okf⟩ := ok
  refine Ends.step (u' := (s₁.setTop (mkF m 1 #[.val (.ref a_o0), .val (.int p1), .val (.int p2)] [(.ref a_o0)]))) ?_ (fun _ k => XS.aloadN X0.here hx rfl (hb hby d1_0) rfl rfl k)
  refine Ends.callC X0 hx hZ (y := (⟨"java/lang/Record", "<init>", "()V"⟩ : MethodName)) rfl hown (hw _ (List.mem_of_getElem? (i := 7) rfl)) (hw _ (List.mem_of_getElem? (i := 8) rfl)) (hw _ (List.mem_of_getElem? (i := 10) rfl)) (hw _ (List.mem_of_getElem? (i := 11) rfl)) (by decide) (rm2 l Z a0 hw a_o0 h0 n0 Z0) 0 (by decide) (by decide) e0  (g := (mkF m 1 #[.val (.ref a_o0), .val (.int p1), .val (.int p2)] [(.ref a_o0)])) rfl (by rw [hml]; rfl) a_o0 [] [] (lenOf pd_0 rfl) rfl (by show 2 * 0 + _ ≤ _; exact Nat.le_of_eq rfl) (hb hby d1_1) rfl (by decide) (by decide) (fun v13 T13 L13 X13 hQ13 => ?_)
  obtain ⟨rfl, Nq13, e13⟩ := hQ13
  have N13 := Fr.app N0 Nq13
  show Ends p e below s _ _ _ (T13.setTop (mkF m 4 #[.val (.ref a_o0), .val (.int p1), .val (.int p2)] []))
  refine Ends.step (u' := (T13.setTop (mkF m 5 #[.val (.ref a_o0), .val (.int p1), .val (.int p2)] [(.int p1)]))) ?_ (fun _ k => XS.iloadN X13.here hx rfl (hb hby d1_4) rfl k)
  by_cases hc5 : p1 < 0
  · refine Eq.mp (congrArg (fun z => Ends p e below s 0 0 (Q1 Z a_o0 o0_state o0_top h0 n0 z) (T13.setTop (mkF m 5 #[.val (.ref a_o0), .val (.int p1), .val (.int p2)] [(.int p1)]))) (show (F1 p1 p2 o0_state o0_top) = (F1_13 o0_state o0_top) from (if_pos hc5)).symm) ?_
    refine Ends.step (u' := (T13.setTop (mkF m 13 #[.val (.ref a_o0), .val (.int p1), .val (.int p2)] []))) ?_ (fun _ k => XS.ifYes X13.here hx rfl (pc0 := 5) (pc' := 13) rfl (hb hby d1_5) rfl (XT.i0_lt_t hc5) (by decide) (by decide) k)
    exact b13 T13 _ _ X13 e13 N13 Z0 K0 o0_state o0_top (.val (.ref a_o0)) (Or.inr ⟨_, rfl, rfl⟩) (.val (.int p1)) (Or.inr ⟨_, rfl, rfl⟩) (.val (.int p2)) (Or.inr ⟨_, rfl, rfl⟩) E_o0 F_o0_state F_o0_top (okt hc5)
  · refine Eq.mp (congrArg (fun z => Ends p e below s 0 0 (Q1 Z a_o0 o0_state o0_top h0 n0 z) (T13.setTop (mkF m 5 #[.val (.ref a_o0), .val (.int p1), .val (.int p2)] [(.int p1)]))) (show (F1 p1 p2 o0_state o0_top) = (F1_8 o0_state o0_top p1 p2) from (if_neg hc5)).symm) ?_
    refine Ends.step (u' := (T13.setTop (mkF m 8 #[.val (.ref a_o0), .val (.int p1), .val (.int p2)] []))) ?_ (fun _ k => XS.ifNo X13.here hx rfl (hb hby d1_5) rfl (XT.i0_lt_f hc5) k)
    exact b8 T13 _ _ X13 e13 N13 Z0 K0 o0_state o0_top p1 p2 E_o0 F_o0_state F_o0_top (okf hc5)
theorem d4_0 : decode prog_48_method_2_code 0 = .ok (.aload_n 0, 1) := by decide +kernel
theorem d4_1 : decode prog_48_method_2_code 1 = .ok (.getfield 18, 3) := by decide +kernel
theorem d4_4 : decode prog_48_method_2_code 4 = .ok (.bipush 16, 2) := by decide +kernel
theorem d4_6 : decode prog_48_method_2_code 6 = .ok (.ishl, 1) := by decide +kernel
theorem d4_7 : decode prog_48_method_2_code 7 = .ok (.aload_n 0, 1) := by decide +kernel
theorem d4_8 : decode prog_48_method_2_code 8 = .ok (.getfield 24, 3) := by decide +kernel
theorem d4_11 : decode prog_48_method_2_code 11 = .ok (.iconst 1, 1) := by decide +kernel
theorem d4_12 : decode prog_48_method_2_code 12 = .ok (.iadd, 1) := by decide +kernel
theorem d4_13 : decode prog_48_method_2_code 13 = .ok (.ixor, 1) := by decide +kernel
theorem d4_14 : decode prog_48_method_2_code 14 = .ok (.ldc 27, 2) := by decide +kernel
theorem d4_16 : decode prog_48_method_2_code 16 = .ok (.imul, 1) := by decide +kernel
theorem d4_17 : decode prog_48_method_2_code 17 = .ok (.ireturn, 1) := by decide +kernel
theorem pn_4 : plainFor (⟨"com/example/holywell/holywell/pds/Head", "hashCode", "()I"⟩ : MethodName) = true := by first | exact plainFor_of_name (by first | (simp [plainName, overriddenIn]; done) | decide +kernel) | decide +kernel
theorem ef_4 (m : MethodId) (y0 : Addr) : entryFrame m #[(.ref y0)] 1 = mkF m 0 #[.val (.ref y0)] [] := by first | (simp [entryFrame, mkF, argsToLocals, Value.category]; done) | rfl
def Q4 (Z : State) (a_o0 : Addr) (o0_state : Int32) (o0_top : Int32) (h0 : Heap) (n0 : Nat) (ans : Int32) (v : Option Value) (h : Heap) (L : List Loc) : Prop := v = some (.int ans) ∧ Fr n0 L ∧ h = h0
set_option maxRecDepth 65536 in
set_option maxHeartbeats 40000000 in
theorem rm4 (l : Launch) (Z : State) (a0 : Array Value) (hw : ∀ d ∈ tables_1, d.before a0 Z = true) (o0_state : Int32) (o0_top : Int32) (a_o0 : Addr) (h0 : Heap) (n0 : Nat) (Z0 : n0 ≤ h0.size) (E_o0 : Exa Z h0 a_o0 "com/example/holywell/holywell/pds/Head") (F_o0_state : Fld Z h0 a_o0 "com/example/holywell/holywell/pds/Head" "state" "I" (.int o0_state)) (F_o0_top : Fld Z h0 a_o0 "com/example/holywell/holywell/pds/Head" "top" "I" (.int o0_top)) :
    Meets l Z (⟨"com/example/holywell/holywell/pds/Head", "hashCode", "()I"⟩ : MethodName) prog_48_method_2_code 1 (some .int) [] ({ frames := 0, cells := 0, slots := 0, locals := 0 } : Room) #[(.ref a_o0)] h0 (Q4 Z a_o0 o0_state o0_top h0 n0 (F4 o0_state o0_top)) 0 0 := by
  refine Meets.of pn_4 ?_
  intro p e s m below meth c s₁ hx hby hml hZ hown hnm hret hlk X0 e0
  have hml : c.maxLocals = 1 := hml
  have hown : s.vm.findClass "com/example/holywell/holywell/pds/Head" = some m.cls := hown
  have N0 := Fr.nil n0
  refine Ends.step (u' := (s₁.setTop (mkF m 0 #[.val (.ref a_o0)] []))) ?_ (fun _ k => castTop (ef_4 m a_o0) k)
  refine Ends.step (u' := (s₁.setTop (mkF m 1 #[.val (.ref a_o0)] [(.ref a_o0)]))) ?_ (fun _ k => XS.aloadN X0.here hx rfl (hb hby d4_0) rfl rfl k)
  refine Ends.getF X0 hx hZ hown (hw _ (List.mem_of_getElem? (i := 15) rfl)) e0 F_o0_state (g := (mkF m 1 #[.val (.ref a_o0)] [(.ref a_o0)])) rfl rfl (hb hby d4_1) (fun T1 X1 e1 => ?_)
  show Ends p e below s _ _ _ (T1.setTop (mkF m 4 #[.val (.ref a_o0)] [(.int o0_state)]))
  refine Ends.step (u' := (T1.setTop (mkF m 6 #[.val (.ref a_o0)] [(.int (16 : Int32)), (.int o0_state)]))) ?_ (fun _ k => XT.bipushV X1.here hx rfl (16 : Int32) (hb hby d4_4) rfl k)
  refine Ends.step (u' := (T1.setTop (mkF m 7 #[.val (.ref a_o0)] [(.int (o0_state <<< ((16 : Int32) &&& 31)))]))) ?_ (fun _ k => XT.ishl X1.here hx rfl (hb hby d4_6) rfl k)
  refine Ends.step (u' := (T1.setTop (mkF m 8 #[.val (.ref a_o0)] [(.ref a_o0), (.int (o0_state <<< ((16 : Int32) &&& 31)))]))) ?_ (fun _ k => XS.aloadN X1.here hx rfl (hb hby d4_7) rfl rfl k)
  refine Ends.getF X1 hx hZ hown (hw _ (List.mem_of_getElem? (i := 17) rfl)) e1 F_o0_top (g := (mkF m 8 #[.val (.ref a_o0)] [(.ref a_o0), (.int (o0_state <<< ((16 : Int32) &&& 31)))])) rfl rfl (hb hby d4_8) (fun T2 X2 e2 => ?_)
  show Ends p e below s _ _ _ (T2.setTop (mkF m 11 #[.val (.ref a_o0)] [(.int o0_top), (.int (o0_state <<< ((16 : Int32) &&& 31)))]))
  refine Ends.step (u' := (T2.setTop (mkF m 12 #[.val (.ref a_o0)] [(.int (1 : Int32)), (.int o0_top), (.int (o0_state <<< ((16 : Int32) &&& 31)))]))) ?_ (fun _ k => XT.iconstV X2.here hx rfl (1 : Int32) (hb hby d4_11) rfl k)
  refine Ends.step (u' := (T2.setTop (mkF m 13 #[.val (.ref a_o0)] [(.int (o0_top + (1 : Int32))), (.int (o0_state <<< ((16 : Int32) &&& 31)))]))) ?_ (fun _ k => XS.iadd X2.here hx rfl (hb hby d4_12) rfl k)
  refine Ends.step (u' := (T2.setTop (mkF m 14 #[.val (.ref a_o0)] [(.int ((o0_state <<< ((16 : Int32) &&& 31)) ^^^ (o0_top + (1 : Int32))))]))) ?_ (fun _ k => XT.ixor X2.here hx rfl (hb hby d4_13) rfl k)
  refine Ends.step (u' := (T2.setTop (mkF m 16 #[.val (.ref a_o0)] [(.int (-1640531527 : Int32)), (.int ((o0_state <<< ((16 : Int32) &&& 31)) ^^^ (o0_top + (1 : Int32))))]))) ?_ (fun _ k => X2.ldcI hx hown (mvT hZ (hw _ (List.mem_of_getElem? (i := 25) rfl))) rfl (hb hby d4_14) k)
  refine Ends.step (u' := (T2.setTop (mkF m 17 #[.val (.ref a_o0)] [(.int (((o0_state <<< ((16 : Int32) &&& 31)) ^^^ (o0_top + (1 : Int32))) * (-1640531527 : Int32)))]))) ?_ (fun _ k => XS.imul X2.here hx rfl (hb hby d4_16) rfl k)
  exact Ends.ret X2 (v := some (.int (((o0_state <<< ((16 : Int32) &&& 31)) ^^^ (o0_top + (1 : Int32))) * (-1640531527 : Int32)))) (fun q => by rw [hret] at q; cases q) hlk (fun fs hr => retI X2 hx hret (hb hby d4_17) hr) (by decide) (by decide) ⟨rfl, N0, e2⟩
theorem pn_0 : plainFor x = true := by first | exact plainFor_of_name (by first | (simp [plainName, overriddenIn]; done) | decide +kernel) | decide +kernel
theorem ef_0 (m : MethodId) (y0 : Int32) (y1 : Int32) (y2 : Int32) (y3 : Int32) (y4 : Int32) : entryFrame m #[(.int y0), (.int y1), (.int y2), (.int y3), (.int y4)] maxLocals = mkF m 0 #[.val (.int y0), .val (.int y1), .val (.int y2), .val (.int y3), .val (.int y4), .unset, .unset, .unset, .unset, .unset, .unset, .unset, .unset, .unset, .unset, .unset, .unset, .unset] [] := by first | (simp [entryFrame, mkF, argsToLocals, Value.category, maxLocals]; done) | rfl
def Q0 (Z : State)   (h0 : Heap) (n0 : Nat) (ans : Int32) (v : Option Value) (h : Heap) (L : List Loc) : Prop := v = some (.int ans) ∧ Fr n0 L
set_option maxRecDepth 65536 in
set_option maxHeartbeats 40000000 in
theorem rm0 (l : Launch) (Z : State) (a0 : Array Value) (hw : ∀ d ∈ tables_1, d.before a0 Z = true) (p0 : Int32) (p1 : Int32) (p2 : Int32) (p3 : Int32) (p4 : Int32)  (h0 : Heap) (n0 : Nat) (Z0 : n0 ≤ h0.size)  (ok : O0 p0 p1 p2 p3 p4) :
    Meets l Z x code maxLocals ret tables_1 room_1 #[(.int p0), (.int p1), (.int p2), (.int p3), (.int p4)] h0 (Q0 Z  h0 n0 (F0 p0 p1 p2 p3 p4)) 2 4 := by
  refine Meets.of pn_0 ?_
  intro p e s m below meth c s₁ hx hby hml hZ hown hnm hret hlk X0 e0
  have hml : c.maxLocals = 18 := hml
  have hown : s.vm.findClass "com/example/holywell/holywell/pds/HeadHashCodePinLaw" = some m.cls := hown
  have N0 := Fr.nil n0
  have b182 : ∀ (T : State) (L : List Loc) (h : Heap) (X : Stand p l e room_1 s m #[(.int p0), (.int p1), (.int p2), (.int p3), (.int p4)] below meth c T L 2 4) (eT : T.heap = h) (N : Fr n0 L) (Zs : n0 ≤ h.size) (t0 : Int32) (d0 : Slot) (od0 : OneS d0) (d1 : Slot) (od1 : OneS d1) (d2 : Slot) (od2 : OneS d2) (d3 : Slot) (od3 : OneS d3) (d4 : Slot) (od4 : OneS d4) (d5 : Slot) (od5 : OneS d5) (d6 : Slot) (od6 : OneS d6) (d7 : Slot) (od7 : OneS d7) (d8 : Slot) (od8 : OneS d8) (d9 : Slot) (od9 : OneS d9) (d10 : Slot) (od10 : OneS d10) (d11 : Slot) (od11 : OneS d11) (d12 : Slot) (od12 : OneS d12) (d13 : Slot) (od13 : OneS d13) (d14 : Slot) (od14 : OneS d14) (d15 : Slot) (od15 : OneS d15) (d16 : Slot) (od16 : OneS d16) (d17 : Slot) (od17 : OneS d17), Ends p e below s 2 4 (Q0 Z  h0 n0 (F0_182 t0)) (T.setTop (mkF m 182 #[d0, d1, d2, d3, d4, d5, d6, d7, d8, d9, d10, d11, d12, d13, d14, d15, d16, d17] [(.int t0)])) := by
    intro T L h X eT N Zs t0 d0 od0 d1 od1 d2 od2 d3 od3 d4 od4 d5 od5 d6 od6 d7 od7 d8 od8 d9 od9 d10 od10 d11 od11 d12 od12 d13 od13 d14 od14 d15 od15 d16 od16 d17 od17
    exact Ends.ret X (v := some (.int (nar .boolean t0))) (fun q => by rw [hret] at q; cases q) hlk (fun fs hr => retN X hx (t := .boolean) hret (by simp) (hb hby at_182) hr) (by decide) (by decide) ⟨rfl, N⟩
  have b177 : ∀ (T : State) (L : List Loc) (h : Heap) (X : Stand p l e room_1 s m #[(.int p0), (.int p1), (.int p2), (.int p3), (.int p4)] below meth c T L 2 4) (eT : T.heap = h) (N : Fr n0 L) (Zs : n0 ≤ h.size) (d0 : Slot) (od0 : OneS d0) (d1 : Slot) (od1 : OneS d1) (d2 : Slot) (od2 : OneS d2) (d3 : Slot) (od3 : OneS d3) (d4 : Slot) (od4 : OneS d4) (d5 : Slot) (od5 : OneS d5) (d6 : Slot) (od6 : OneS d6) (d7 : Slot) (od7 : OneS d7) (d8 : Slot) (od8 : OneS d8) (d9 : Slot) (od9 : OneS d9) (d10 : Slot) (od10 : OneS d10) (d11 : Slot) (od11 : OneS d11) (d12 : Slot) (od12 : OneS d12) (d13 : Slot) (od13 : OneS d13) (d14 : Slot) (od14 : OneS d14) (d15 : Slot) (od15 : OneS d15) (d16 : Slot) (od16 : OneS d16) (d17 : Slot) (od17 : OneS d17), Ends p e below s 2 4 (Q0 Z  h0 n0 F0_177) (T.setTop (mkF m 177 #[d0, d1, d2, d3, d4, d5, d6, d7, d8, d9, d10, d11, d12, d13, d14, d15, d16, d17] [])) := by
    intro T L h X eT N Zs d0 od0 d1 od1 d2 od2 d3 od3 d4 od4 d5 od5 d6 od6 d7 od7 d8 od8 d9 od9 d10 od10 d11 od11 d12 od12 d13 od13 d14 od14 d15 od15 d16 od16 d17 od17
    refine Ends.step (u' := (T.setTop (mkF m 178 #[d0, d1, d2, d3, d4, d5, d6, d7, d8, d9, d10, d11, d12, d13, d14, d15, d16, d17] [(.int (1 : Int32))]))) ?_ (fun _ k => XT.iconstV X.here hx rfl (1 : Int32) (hb hby at_177) rfl k)
    refine Ends.step (u' := (T.setTop (mkF m 182 #[d0, d1, d2, d3, d4, d5, d6, d7, d8, d9, d10, d11, d12, d13, d14, d15, d16, d17] [(.int (1 : Int32))]))) ?_ (fun _ k => XS.goto X.here hx rfl (pc0 := 178) (pc' := 182) rfl (hb hby at_178) (by decide) (by decide) k)
    exact b182 T _ _ X eT N Zs (1 : Int32) (d0) od0 (d1) od1 (d2) od2 (d3) od3 (d4) od4 (d5) od5 (d6) od6 (d7) od7 (d8) od8 (d9) od9 (d10) od10 (d11) od11 (d12) od12 (d13) od13 (d14) od14 (d15) od15 (d16) od16 (d17) od17
  have b181 : ∀ (T : State) (L : List Loc) (h : Heap) (X : Stand p l e room_1 s m #[(.int p0), (.int p1), (.int p2), (.int p3), (.int p4)] below meth c T L 2 4) (eT : T.heap = h) (N : Fr n0 L) (Zs : n0 ≤ h.size) (d0 : Slot) (od0 : OneS d0) (d1 : Slot) (od1 : OneS d1) (d2 : Slot) (od2 : OneS d2) (d3 : Slot) (od3 : OneS d3) (d4 : Slot) (od4 : OneS d4) (d5 : Slot) (od5 : OneS d5) (d6 : Slot) (od6 : OneS d6) (d7 : Slot) (od7 : OneS d7) (d8 : Slot) (od8 : OneS d8) (d9 : Slot) (od9 : OneS d9) (d10 : Slot) (od10 : OneS d10) (d11 : Slot) (od11 : OneS d11) (d12 : Slot) (od12 : OneS d12) (d13 : Slot) (od13 : OneS d13) (d14 : Slot) (od14 : OneS d14) (d15 : Slot) (od15 : OneS d15) (d16 : Slot) (od16 : OneS d16) (d17 : Slot) (od17 : OneS d17), Ends p e below s 2 4 (Q0 Z  h0 n0 F0_181) (T.setTop (mkF m 181 #[d0, d1, d2, d3, d4, d5, d6, d7, d8, d9, d10, d11, d12, d13, d14, d15, d16, d17] [])) := by
    intro T L h X eT N Zs d0 od0 d1 od1 d2 od2 d3 od3 d4 od4 d5 od5 d6 od6 d7 od7 d8 od8 d9 od9 d10 od10 d11 od11 d12 od12 d13 od13 d14 od14 d15 od15 d16 od16 d17 od17
    refine Ends.step (u' := (T.setTop (mkF m 182 #[d0, d1, d2, d3, d4, d5, d6, d7, d8, d9, d10, d11, d12, d13, d14, d15, d16, d17] [(.int (0 : Int32))]))) ?_ (fun _ k => XT.iconstV X.here hx rfl (0 : Int32) (hb hby at_181) rfl k)
    exact b182 T _ _ X eT N Zs (0 : Int32) (d0) od0 (d1) od1 (d2) od2 (d3) od3 (d4) od4 (d5) od5 (d6) od6 (d7) od7 (d8) od8 (d9) od9 (d10) od10 (d11) od11 (d12) od12 (d13) od13 (d14) od14 (d15) od15 (d16) od16 (d17) od17
  have b172 : ∀ (T : State) (L : List Loc) (h : Heap) (X : Stand p l e room_1 s m #[(.int p0), (.int p1), (.int p2), (.int p3), (.int p4)] below meth c T L 2 4) (eT : T.heap = h) (N : Fr n0 L) (Zs : n0 ≤ h.size) (x17 : Int32) (d0 : Slot) (od0 : OneS d0) (d1 : Slot) (od1 : OneS d1) (d2 : Slot) (od2 : OneS d2) (d3 : Slot) (od3 : OneS d3) (d4 : Slot) (od4 : OneS d4) (d5 : Slot) (od5 : OneS d5) (d6 : Slot) (od6 : OneS d6) (d7 : Slot) (od7 : OneS d7) (d8 : Slot) (od8 : OneS d8) (d9 : Slot) (od9 : OneS d9) (d10 : Slot) (od10 : OneS d10) (d11 : Slot) (od11 : OneS d11) (d12 : Slot) (od12 : OneS d12) (d13 : Slot) (od13 : OneS d13) (d14 : Slot) (od14 : OneS d14) (d15 : Slot) (od15 : OneS d15) (d16 : Slot) (od16 : OneS d16), Ends p e below s 2 4 (Q0 Z  h0 n0 (F0_172 x17)) (T.setTop (mkF m 172 #[d0, d1, d2, d3, d4, d5, d6, d7, d8, d9, d10, d11, d12, d13, d14, d15, d16, .val (.int x17)] [])) := by
    intro T L h X eT N Zs x17 d0 od0 d1 od1 d2 od2 d3 od3 d4 od4 d5 od5 d6 od6 d7 od7 d8 od8 d9 od9 d10 od10 d11 od11 d12 od12 d13 od13 d14 od14 d15 od15 d16 od16
    refine Ends.step (u' := (T.setTop (mkF m 174 #[d0, d1, d2, d3, d4, d5, d6, d7, d8, d9, d10, d11, d12, d13, d14, d15, d16, .val (.int x17)] [(.int x17)]))) ?_ (fun _ k => XS.iload X.here hx rfl (hb hby at_172) rfl k)
    by_cases hc174 : x17 = 0
    · refine Eq.mp (congrArg (fun z => Ends p e below s 2 4 (Q0 Z  h0 n0 z) (T.setTop (mkF m 174 #[d0, d1, d2, d3, d4, d5, d6, d7, d8, d9, d10, d11, d12, d13, d14, d15, d16, .val (.int x17)] [(.int x17)]))) (show (F0_172 x17) = F0_181 from (if_pos hc174)).symm) ?_
      refine Ends.step (u' := (T.setTop (mkF m 181 #[d0, d1, d2, d3, d4, d5, d6, d7, d8, d9, d10, d11, d12, d13, d14, d15, d16, .val (.int x17)] []))) ?_ (fun _ k => XS.ifYes X.here hx rfl (pc0 := 174) (pc' := 181) rfl (hb hby at_174) rfl (XT.i0_eq_t hc174) (by decide) (by decide) k)
      exact b181 T _ _ X eT N Zs (d0) od0 (d1) od1 (d2) od2 (d3) od3 (d4) od4 (d5) od5 (d6) od6 (d7) od7 (d8) od8 (d9) od9 (d10) od10 (d11) od11 (d12) od12 (d13) od13 (d14) od14 (d15) od15 (d16) od16 (.val (.int x17)) (Or.inr ⟨_, rfl, rfl⟩)
    · refine Eq.mp (congrArg (fun z => Ends p e below s 2 4 (Q0 Z  h0 n0 z) (T.setTop (mkF m 174 #[d0, d1, d2, d3, d4, d5, d6, d7, d8, d9, d10, d11, d12, d13, d14, d15, d16, .val (.int x17)] [(.int x17)]))) (show (F0_172 x17) = F0_177 from (if_neg hc174)).symm) ?_
      refine Ends.step (u' := (T.setTop (mkF m 177 #[d0, d1, d2, d3, d4, d5, d6, d7, d8, d9, d10, d11, d12, d13, d14, d15, d16, .val (.int x17)] []))) ?_ (fun _ k => XS.ifNo X.here hx rfl (hb hby at_174) rfl (XT.i0_eq_f hc174) k)
      exact b177 T _ _ X eT N Zs (d0) od0 (d1) od1 (d2) od2 (d3) od3 (d4) od4 (d5) od5 (d6) od6 (d7) od7 (d8) od8 (d9) od9 (d10) od10 (d11) od11 (d12) od12 (d13) od13 (d14) od14 (d15) od15 (d16) od16 (.val (.int x17)) (Or.inr ⟨_, rfl, rfl⟩)
  have b165 : ∀ (T : State) (L : List Loc) (h : Heap) (X : Stand p l e room_1 s m #[(.int p0), (.int p1), (.int p2), (.int p3), (.int p4)] below meth c T L 2 4) (eT : T.heap = h) (N : Fr n0 L) (Zs : n0 ≤ h.size) (x15 : Int32) (t0 : Int32) (d0 : Slot) (od0 : OneS d0) (d1 : Slot) (od1 : OneS d1) (d2 : Slot) (od2 : OneS d2) (d3 : Slot) (od3 : OneS d3) (d4 : Slot) (od4 : OneS d4) (d5 : Slot) (od5 : OneS d5) (d6 : Slot) (od6 : OneS d6) (d7 : Slot) (od7 : OneS d7) (d8 : Slot) (od8 : OneS d8) (d9 : Slot) (od9 : OneS d9) (d10 : Slot) (od10 : OneS d10) (d11 : Slot) (od11 : OneS d11) (d12 : Slot) (od12 : OneS d12) (d13 : Slot) (od13 : OneS d13) (d14 : Slot) (od14 : OneS d14) (d16 : Slot) (od16 : OneS d16), Ends p e below s 2 4 (Q0 Z  h0 n0 (F0_165 x15 t0)) (T.setTop (mkF m 165 #[d0, d1, d2, d3, d4, d5, d6, d7, d8, d9, d10, d11, d12, d13, d14, .val (.int x15), d16, .unset] [(.int t0)])) := by
    intro T L h X eT N Zs x15 t0 d0 od0 d1 od1 d2 od2 d3 od3 d4 od4 d5 od5 d6 od6 d7 od7 d8 od8 d9 od9 d10 od10 d11 od11 d12 od12 d13 od13 d14 od14 d16 od16
    refine Ends.step (u' := (T.setTop (mkF m 167 #[d0, d1, d2, d3, d4, d5, d6, d7, d8, d9, d10, d11, d12, d13, d14, .val (.int x15), d16, .val (.int t0)] []))) ?_ (fun _ k => XS.istore X.here hx rfl (hb hby at_165) rfl (l' := #[d0, d1, d2, d3, d4, d5, d6, d7, d8, d9, d10, d11, d12, d13, d14, .val (.int x15), d16, .val (.int t0)]) rfl k)
    refine Ends.step (u' := (T.setTop (mkF m 169 #[d0, d1, d2, d3, d4, d5, d6, d7, d8, d9, d10, d11, d12, d13, d14, .val (.int x15), d16, .val (.int t0)] [(.int x15)]))) ?_ (fun _ k => XS.iload X.here hx rfl (hb hby at_167) rfl k)
    by_cases hc169 : x15 = 0
    · refine Eq.mp (congrArg (fun z => Ends p e below s 2 4 (Q0 Z  h0 n0 z) (T.setTop (mkF m 169 #[d0, d1, d2, d3, d4, d5, d6, d7, d8, d9, d10, d11, d12, d13, d14, .val (.int x15), d16, .val (.int t0)] [(.int x15)]))) (show (F0_165 x15 t0) = F0_181 from (if_pos hc169)).symm) ?_
      refine Ends.step (u' := (T.setTop (mkF m 181 #[d0, d1, d2, d3, d4, d5, d6, d7, d8, d9, d10, d11, d12, d13, d14, .val (.int x15), d16, .val (.int t0)] []))) ?_ (fun _ k => XS.ifYes X.here hx rfl (pc0 := 169) (pc' := 181) rfl (hb hby at_169) rfl (XT.i0_eq_t hc169) (by decide) (by decide) k)
      exact b181 T _ _ X eT N Zs (d0) od0 (d1) od1 (d2) od2 (d3) od3 (d4) od4 (d5) od5 (d6) od6 (d7) od7 (d8) od8 (d9) od9 (d10) od10 (d11) od11 (d12) od12 (d13) od13 (d14) od14 (.val (.int x15)) (Or.inr ⟨_, rfl, rfl⟩) (d16) od16 (.val (.int t0)) (Or.inr ⟨_, rfl, rfl⟩)
    · refine Eq.mp (congrArg (fun z => Ends p e below s 2 4 (Q0 Z  h0 n0 z) (T.setTop (mkF m 169 #[d0, d1, d2, d3, d4, d5, d6, d7, d8, d9, d10, d11, d12, d13, d14, .val (.int x15), d16, .val (.int t0)] [(.int x15)]))) (show (F0_165 x15 t0) = (F0_172 t0) from (if_neg hc169)).symm) ?_
      refine Ends.step (u' := (T.setTop (mkF m 172 #[d0, d1, d2, d3, d4, d5, d6, d7, d8, d9, d10, d11, d12, d13, d14, .val (.int x15), d16, .val (.int t0)] []))) ?_ (fun _ k => XS.ifNo X.here hx rfl (hb hby at_169) rfl (XT.i0_eq_f hc169) k)
      exact b172 T _ _ X eT N Zs t0 (d0) od0 (d1) od1 (d2) od2 (d3) od3 (d4) od4 (d5) od5 (d6) od6 (d7) od7 (d8) od8 (d9) od9 (d10) od10 (d11) od11 (d12) od12 (d13) od13 (d14) od14 (.val (.int x15)) (Or.inr ⟨_, rfl, rfl⟩) (d16) od16
  have b160 : ∀ (T : State) (L : List Loc) (h : Heap) (X : Stand p l e room_1 s m #[(.int p0), (.int p1), (.int p2), (.int p3), (.int p4)] below meth c T L 2 4) (eT : T.heap = h) (N : Fr n0 L) (Zs : n0 ≤ h.size) (x15 : Int32) (d0 : Slot) (od0 : OneS d0) (d1 : Slot) (od1 : OneS d1) (d2 : Slot) (od2 : OneS d2) (d3 : Slot) (od3 : OneS d3) (d4 : Slot) (od4 : OneS d4) (d5 : Slot) (od5 : OneS d5) (d6 : Slot) (od6 : OneS d6) (d7 : Slot) (od7 : OneS d7) (d8 : Slot) (od8 : OneS d8) (d9 : Slot) (od9 : OneS d9) (d10 : Slot) (od10 : OneS d10) (d11 : Slot) (od11 : OneS d11) (d12 : Slot) (od12 : OneS d12) (d13 : Slot) (od13 : OneS d13) (d14 : Slot) (od14 : OneS d14) (d16 : Slot) (od16 : OneS d16), Ends p e below s 2 4 (Q0 Z  h0 n0 (F0_160 x15)) (T.setTop (mkF m 160 #[d0, d1, d2, d3, d4, d5, d6, d7, d8, d9, d10, d11, d12, d13, d14, .val (.int x15), d16, .unset] [])) := by
    intro T L h X eT N Zs x15 d0 od0 d1 od1 d2 od2 d3 od3 d4 od4 d5 od5 d6 od6 d7 od7 d8 od8 d9 od9 d10 od10 d11 od11 d12 od12 d13 od13 d14 od14 d16 od16
    refine Ends.step (u' := (T.setTop (mkF m 161 #[d0, d1, d2, d3, d4, d5, d6, d7, d8, d9, d10, d11, d12, d13, d14, .val (.int x15), d16, .unset] [(.int (1 : Int32))]))) ?_ (fun _ k => XT.iconstV X.here hx rfl (1 : Int32) (hb hby at_160) rfl k)
    refine Ends.step (u' := (T.setTop (mkF m 165 #[d0, d1, d2, d3, d4, d5, d6, d7, d8, d9, d10, d11, d12, d13, d14, .val (.int x15), d16, .unset] [(.int (1 : Int32))]))) ?_ (fun _ k => XS.goto X.here hx rfl (pc0 := 161) (pc' := 165) rfl (hb hby at_161) (by decide) (by decide) k)
    exact b165 T _ _ X eT N Zs x15 (1 : Int32) (d0) od0 (d1) od1 (d2) od2 (d3) od3 (d4) od4 (d5) od5 (d6) od6 (d7) od7 (d8) od8 (d9) od9 (d10) od10 (d11) od11 (d12) od12 (d13) od13 (d14) od14 (d16) od16
  have b164 : ∀ (T : State) (L : List Loc) (h : Heap) (X : Stand p l e room_1 s m #[(.int p0), (.int p1), (.int p2), (.int p3), (.int p4)] below meth c T L 2 4) (eT : T.heap = h) (N : Fr n0 L) (Zs : n0 ≤ h.size) (x15 : Int32) (d0 : Slot) (od0 : OneS d0) (d1 : Slot) (od1 : OneS d1) (d2 : Slot) (od2 : OneS d2) (d3 : Slot) (od3 : OneS d3) (d4 : Slot) (od4 : OneS d4) (d5 : Slot) (od5 : OneS d5) (d6 : Slot) (od6 : OneS d6) (d7 : Slot) (od7 : OneS d7) (d8 : Slot) (od8 : OneS d8) (d9 : Slot) (od9 : OneS d9) (d10 : Slot) (od10 : OneS d10) (d11 : Slot) (od11 : OneS d11) (d12 : Slot) (od12 : OneS d12) (d13 : Slot) (od13 : OneS d13) (d14 : Slot) (od14 : OneS d14) (d16 : Slot) (od16 : OneS d16), Ends p e below s 2 4 (Q0 Z  h0 n0 (F0_164 x15)) (T.setTop (mkF m 164 #[d0, d1, d2, d3, d4, d5, d6, d7, d8, d9, d10, d11, d12, d13, d14, .val (.int x15), d16, .unset] [])) := by
    intro T L h X eT N Zs x15 d0 od0 d1 od1 d2 od2 d3 od3 d4 od4 d5 od5 d6 od6 d7 od7 d8 od8 d9 od9 d10 od10 d11 od11 d12 od12 d13 od13 d14 od14 d16 od16
    refine Ends.step (u' := (T.setTop (mkF m 165 #[d0, d1, d2, d3, d4, d5, d6, d7, d8, d9, d10, d11, d12, d13, d14, .val (.int x15), d16, .unset] [(.int (0 : Int32))]))) ?_ (fun _ k => XT.iconstV X.here hx rfl (0 : Int32) (hb hby at_164) rfl k)
    exact b165 T _ _ X eT N Zs x15 (0 : Int32) (d0) od0 (d1) od1 (d2) od2 (d3) od3 (d4) od4 (d5) od5 (d6) od6 (d7) od7 (d8) od8 (d9) od9 (d10) od10 (d11) od11 (d12) od12 (d13) od13 (d14) od14 (d16) od16
  have b155 : ∀ (T : State) (L : List Loc) (h : Heap) (X : Stand p l e room_1 s m #[(.int p0), (.int p1), (.int p2), (.int p3), (.int p4)] below meth c T L 2 4) (eT : T.heap = h) (N : Fr n0 L) (Zs : n0 ≤ h.size) (x15 : Int32) (x16 : Int32) (t0 : Int32) (d0 : Slot) (od0 : OneS d0) (d1 : Slot) (od1 : OneS d1) (d2 : Slot) (od2 : OneS d2) (d3 : Slot) (od3 : OneS d3) (d4 : Slot) (od4 : OneS d4) (d5 : Slot) (od5 : OneS d5) (d6 : Slot) (od6 : OneS d6) (d7 : Slot) (od7 : OneS d7) (d8 : Slot) (od8 : OneS d8) (d9 : Slot) (od9 : OneS d9) (d10 : Slot) (od10 : OneS d10) (d11 : Slot) (od11 : OneS d11) (d12 : Slot) (od12 : OneS d12) (d13 : Slot) (od13 : OneS d13) (d14 : Slot) (od14 : OneS d14), Ends p e below s 2 4 (Q0 Z  h0 n0 (F0_155 x15 x16 t0)) (T.setTop (mkF m 155 #[d0, d1, d2, d3, d4, d5, d6, d7, d8, d9, d10, d11, d12, d13, d14, .val (.int x15), .val (.int x16), .unset] [(.int t0)])) := by
    intro T L h X eT N Zs x15 x16 t0 d0 od0 d1 od1 d2 od2 d3 od3 d4 od4 d5 od5 d6 od6 d7 od7 d8 od8 d9 od9 d10 od10 d11 od11 d12 od12 d13 od13 d14 od14
    refine Ends.step (u' := (T.setTop (mkF m 157 #[d0, d1, d2, d3, d4, d5, d6, d7, d8, d9, d10, d11, d12, d13, d14, .val (.int x15), .val (.int x16), .unset] [(.int x16), (.int t0)]))) ?_ (fun _ k => XS.iload X.here hx rfl (hb hby at_155) rfl k)
    by_cases hc157 : t0 = x16
    · refine Eq.mp (congrArg (fun z => Ends p e below s 2 4 (Q0 Z  h0 n0 z) (T.setTop (mkF m 157 #[d0, d1, d2, d3, d4, d5, d6, d7, d8, d9, d10, d11, d12, d13, d14, .val (.int x15), .val (.int x16), .unset] [(.int x16), (.int t0)]))) (show (F0_155 x15 x16 t0) = (F0_160 x15) from (if_pos hc157)).symm) ?_
      refine Ends.step (u' := (T.setTop (mkF m 160 #[d0, d1, d2, d3, d4, d5, d6, d7, d8, d9, d10, d11, d12, d13, d14, .val (.int x15), .val (.int x16), .unset] []))) ?_ (fun _ k => XS.icmpNo X.here hx rfl (hb hby at_157) rfl (XT.ii_ne_f hc157) k)
      exact b160 T _ _ X eT N Zs x15 (d0) od0 (d1) od1 (d2) od2 (d3) od3 (d4) od4 (d5) od5 (d6) od6 (d7) od7 (d8) od8 (d9) od9 (d10) od10 (d11) od11 (d12) od12 (d13) od13 (d14) od14 (.val (.int x16)) (Or.inr ⟨_, rfl, rfl⟩)
    · refine Eq.mp (congrArg (fun z => Ends p e below s 2 4 (Q0 Z  h0 n0 z) (T.setTop (mkF m 157 #[d0, d1, d2, d3, d4, d5, d6, d7, d8, d9, d10, d11, d12, d13, d14, .val (.int x15), .val (.int x16), .unset] [(.int x16), (.int t0)]))) (show (F0_155 x15 x16 t0) = (F0_164 x15) from (if_neg hc157)).symm) ?_
      refine Ends.step (u' := (T.setTop (mkF m 164 #[d0, d1, d2, d3, d4, d5, d6, d7, d8, d9, d10, d11, d12, d13, d14, .val (.int x15), .val (.int x16), .unset] []))) ?_ (fun _ k => XS.icmpYes X.here hx rfl (pc0 := 157) (pc' := 164) rfl (hb hby at_157) rfl (XT.ii_ne_t hc157) (by decide) (by decide) k)
      exact b164 T _ _ X eT N Zs x15 (d0) od0 (d1) od1 (d2) od2 (d3) od3 (d4) od4 (d5) od5 (d6) od6 (d7) od7 (d8) od8 (d9) od9 (d10) od10 (d11) od11 (d12) od12 (d13) od13 (d14) od14 (.val (.int x16)) (Or.inr ⟨_, rfl, rfl⟩)
  have b150 : ∀ (T : State) (L : List Loc) (h : Heap) (X : Stand p l e room_1 s m #[(.int p0), (.int p1), (.int p2), (.int p3), (.int p4)] below meth c T L 2 4) (eT : T.heap = h) (N : Fr n0 L) (Zs : n0 ≤ h.size) (x15 : Int32) (x16 : Int32) (d0 : Slot) (od0 : OneS d0) (d1 : Slot) (od1 : OneS d1) (d2 : Slot) (od2 : OneS d2) (d3 : Slot) (od3 : OneS d3) (d4 : Slot) (od4 : OneS d4) (d5 : Slot) (od5 : OneS d5) (d6 : Slot) (od6 : OneS d6) (d7 : Slot) (od7 : OneS d7) (d8 : Slot) (od8 : OneS d8) (d9 : Slot) (od9 : OneS d9) (d10 : Slot) (od10 : OneS d10) (d11 : Slot) (od11 : OneS d11) (d12 : Slot) (od12 : OneS d12) (d13 : Slot) (od13 : OneS d13) (d14 : Slot) (od14 : OneS d14), Ends p e below s 2 4 (Q0 Z  h0 n0 (F0_150 x15 x16)) (T.setTop (mkF m 150 #[d0, d1, d2, d3, d4, d5, d6, d7, d8, d9, d10, d11, d12, d13, d14, .val (.int x15), .val (.int x16), .unset] [])) := by
    intro T L h X eT N Zs x15 x16 d0 od0 d1 od1 d2 od2 d3 od3 d4 od4 d5 od5 d6 od6 d7 od7 d8 od8 d9 od9 d10 od10 d11 od11 d12 od12 d13 od13 d14 od14
    refine Ends.step (u' := (T.setTop (mkF m 151 #[d0, d1, d2, d3, d4, d5, d6, d7, d8, d9, d10, d11, d12, d13, d14, .val (.int x15), .val (.int x16), .unset] [(.int (1 : Int32))]))) ?_ (fun _ k => XT.iconstV X.here hx rfl (1 : Int32) (hb hby at_150) rfl k)
    refine Ends.step (u' := (T.setTop (mkF m 155 #[d0, d1, d2, d3, d4, d5, d6, d7, d8, d9, d10, d11, d12, d13, d14, .val (.int x15), .val (.int x16), .unset] [(.int (1 : Int32))]))) ?_ (fun _ k => XS.goto X.here hx rfl (pc0 := 151) (pc' := 155) rfl (hb hby at_151) (by decide) (by decide) k)
    exact b155 T _ _ X eT N Zs x15 x16 (1 : Int32) (d0) od0 (d1) od1 (d2) od2 (d3) od3 (d4) od4 (d5) od5 (d6) od6 (d7) od7 (d8) od8 (d9) od9 (d10) od10 (d11) od11 (d12) od12 (d13) od13 (d14) od14
  have b154 : ∀ (T : State) (L : List Loc) (h : Heap) (X : Stand p l e room_1 s m #[(.int p0), (.int p1), (.int p2), (.int p3), (.int p4)] below meth c T L 2 4) (eT : T.heap = h) (N : Fr n0 L) (Zs : n0 ≤ h.size) (x15 : Int32) (x16 : Int32) (d0 : Slot) (od0 : OneS d0) (d1 : Slot) (od1 : OneS d1) (d2 : Slot) (od2 : OneS d2) (d3 : Slot) (od3 : OneS d3) (d4 : Slot) (od4 : OneS d4) (d5 : Slot) (od5 : OneS d5) (d6 : Slot) (od6 : OneS d6) (d7 : Slot) (od7 : OneS d7) (d8 : Slot) (od8 : OneS d8) (d9 : Slot) (od9 : OneS d9) (d10 : Slot) (od10 : OneS d10) (d11 : Slot) (od11 : OneS d11) (d12 : Slot) (od12 : OneS d12) (d13 : Slot) (od13 : OneS d13) (d14 : Slot) (od14 : OneS d14), Ends p e below s 2 4 (Q0 Z  h0 n0 (F0_154 x15 x16)) (T.setTop (mkF m 154 #[d0, d1, d2, d3, d4, d5, d6, d7, d8, d9, d10, d11, d12, d13, d14, .val (.int x15), .val (.int x16), .unset] [])) := by
    intro T L h X eT N Zs x15 x16 d0 od0 d1 od1 d2 od2 d3 od3 d4 od4 d5 od5 d6 od6 d7 od7 d8 od8 d9 od9 d10 od10 d11 od11 d12 od12 d13 od13 d14 od14
    refine Ends.step (u' := (T.setTop (mkF m 155 #[d0, d1, d2, d3, d4, d5, d6, d7, d8, d9, d10, d11, d12, d13, d14, .val (.int x15), .val (.int x16), .unset] [(.int (0 : Int32))]))) ?_ (fun _ k => XT.iconstV X.here hx rfl (0 : Int32) (hb hby at_154) rfl k)
    exact b155 T _ _ X eT N Zs x15 x16 (0 : Int32) (d0) od0 (d1) od1 (d2) od2 (d3) od3 (d4) od4 (d5) od5 (d6) od6 (d7) od7 (d8) od8 (d9) od9 (d10) od10 (d11) od11 (d12) od12 (d13) od13 (d14) od14
  have b141 : ∀ (T : State) (L : List Loc) (h : Heap) (X : Stand p l e room_1 s m #[(.int p0), (.int p1), (.int p2), (.int p3), (.int p4)] below meth c T L 2 4) (eT : T.heap = h) (N : Fr n0 L) (Zs : n0 ≤ h.size) (x12 : Int32) (x13 : Int32) (x15 : Int32) (t0 : Int32) (d0 : Slot) (od0 : OneS d0) (d1 : Slot) (od1 : OneS d1) (d2 : Slot) (od2 : OneS d2) (d3 : Slot) (od3 : OneS d3) (d4 : Slot) (od4 : OneS d4) (d5 : Slot) (od5 : OneS d5) (d6 : Slot) (od6 : OneS d6) (d7 : Slot) (od7 : OneS d7) (d8 : Slot) (od8 : OneS d8) (d9 : Slot) (od9 : OneS d9) (d10 : Slot) (od10 : OneS d10) (d11 : Slot) (od11 : OneS d11) (d14 : Slot) (od14 : OneS d14), Ends p e below s 2 4 (Q0 Z  h0 n0 (F0_141 x12 x13 x15 t0)) (T.setTop (mkF m 141 #[d0, d1, d2, d3, d4, d5, d6, d7, d8, d9, d10, d11, .val (.int x12), .val (.int x13), d14, .val (.int x15), .unset, .unset] [(.int t0)])) := by
    intro T L h X eT N Zs x12 x13 x15 t0 d0 od0 d1 od1 d2 od2 d3 od3 d4 od4 d5 od5 d6 od6 d7 od7 d8 od8 d9 od9 d10 od10 d11 od11 d14 od14
    refine Ends.step (u' := (T.setTop (mkF m 143 #[d0, d1, d2, d3, d4, d5, d6, d7, d8, d9, d10, d11, .val (.int x12), .val (.int x13), d14, .val (.int x15), .val (.int t0), .unset] []))) ?_ (fun _ k => XS.istore X.here hx rfl (hb hby at_141) rfl (l' := #[d0, d1, d2, d3, d4, d5, d6, d7, d8, d9, d10, d11, .val (.int x12), .val (.int x13), d14, .val (.int x15), .val (.int t0), .unset]) rfl k)
    refine Ends.step (u' := (T.setTop (mkF m 145 #[d0, d1, d2, d3, d4, d5, d6, d7, d8, d9, d10, d11, .val (.int x12), .val (.int x13), d14, .val (.int x15), .val (.int t0), .unset] [(.int x12)]))) ?_ (fun _ k => XS.iload X.here hx rfl (hb hby at_143) rfl k)
    refine Ends.step (u' := (T.setTop (mkF m 147 #[d0, d1, d2, d3, d4, d5, d6, d7, d8, d9, d10, d11, .val (.int x12), .val (.int x13), d14, .val (.int x15), .val (.int t0), .unset] [(.int x13), (.int x12)]))) ?_ (fun _ k => XS.iload X.here hx rfl (hb hby at_145) rfl k)
    by_cases hc147 : x12 = x13
    · refine Eq.mp (congrArg (fun z => Ends p e below s 2 4 (Q0 Z  h0 n0 z) (T.setTop (mkF m 147 #[d0, d1, d2, d3, d4, d5, d6, d7, d8, d9, d10, d11, .val (.int x12), .val (.int x13), d14, .val (.int x15), .val (.int t0), .unset] [(.int x13), (.int x12)]))) (show (F0_141 x12 x13 x15 t0) = (F0_150 x15 t0) from (if_pos hc147)).symm) ?_
      refine Ends.step (u' := (T.setTop (mkF m 150 #[d0, d1, d2, d3, d4, d5, d6, d7, d8, d9, d10, d11, .val (.int x12), .val (.int x13), d14, .val (.int x15), .val (.int t0), .unset] []))) ?_ (fun _ k => XS.icmpNo X.here hx rfl (hb hby at_147) rfl (XT.ii_ne_f hc147) k)
      exact b150 T _ _ X eT N Zs x15 t0 (d0) od0 (d1) od1 (d2) od2 (d3) od3 (d4) od4 (d5) od5 (d6) od6 (d7) od7 (d8) od8 (d9) od9 (d10) od10 (d11) od11 (.val (.int x12)) (Or.inr ⟨_, rfl, rfl⟩) (.val (.int x13)) (Or.inr ⟨_, rfl, rfl⟩) (d14) od14
    · refine Eq.mp (congrArg (fun z => Ends p e below s 2 4 (Q0 Z  h0 n0 z) (T.setTop (mkF m 147 #[d0, d1, d2, d3, d4, d5, d6, d7, d8, d9, d10, d11, .val (.int x12), .val (.int x13), d14, .val (.int x15), .val (.int t0), .unset] [(.int x13), (.int x12)]))) (show (F0_141 x12 x13 x15 t0) = (F0_154 x15 t0) from (if_neg hc147)).symm) ?_
      refine Ends.step (u' := (T.setTop (mkF m 154 #[d0, d1, d2, d3, d4, d5, d6, d7, d8, d9, d10, d11, .val (.int x12), .val (.int x13), d14, .val (.int x15), .val (.int t0), .unset] []))) ?_ (fun _ k => XS.icmpYes X.here hx rfl (pc0 := 147) (pc' := 154) rfl (hb hby at_147) rfl (XT.ii_ne_t hc147) (by decide) (by decide) k)
      exact b154 T _ _ X eT N Zs x15 t0 (d0) od0 (d1) od1 (d2) od2 (d3) od3 (d4) od4 (d5) od5 (d6) od6 (d7) od7 (d8) od8 (d9) od9 (d10) od10 (d11) od11 (.val (.int x12)) (Or.inr ⟨_, rfl, rfl⟩) (.val (.int x13)) (Or.inr ⟨_, rfl, rfl⟩) (d14) od14
  have b136 : ∀ (T : State) (L : List Loc) (h : Heap) (X : Stand p l e room_1 s m #[(.int p0), (.int p1), (.int p2), (.int p3), (.int p4)] below meth c T L 2 4) (eT : T.heap = h) (N : Fr n0 L) (Zs : n0 ≤ h.size) (x12 : Int32) (x13 : Int32) (x15 : Int32) (d0 : Slot) (od0 : OneS d0) (d1 : Slot) (od1 : OneS d1) (d2 : Slot) (od2 : OneS d2) (d3 : Slot) (od3 : OneS d3) (d4 : Slot) (od4 : OneS d4) (d5 : Slot) (od5 : OneS d5) (d6 : Slot) (od6 : OneS d6) (d7 : Slot) (od7 : OneS d7) (d8 : Slot) (od8 : OneS d8) (d9 : Slot) (od9 : OneS d9) (d10 : Slot) (od10 : OneS d10) (d11 : Slot) (od11 : OneS d11) (d14 : Slot) (od14 : OneS d14), Ends p e below s 2 4 (Q0 Z  h0 n0 (F0_136 x12 x13 x15)) (T.setTop (mkF m 136 #[d0, d1, d2, d3, d4, d5, d6, d7, d8, d9, d10, d11, .val (.int x12), .val (.int x13), d14, .val (.int x15), .unset, .unset] [])) := by
    intro T L h X eT N Zs x12 x13 x15 d0 od0 d1 od1 d2 od2 d3 od3 d4 od4 d5 od5 d6 od6 d7 od7 d8 od8 d9 od9 d10 od10 d11 od11 d14 od14
    refine Ends.step (u' := (T.setTop (mkF m 137 #[d0, d1, d2, d3, d4, d5, d6, d7, d8, d9, d10, d11, .val (.int x12), .val (.int x13), d14, .val (.int x15), .unset, .unset] [(.int (1 : Int32))]))) ?_ (fun _ k => XT.iconstV X.here hx rfl (1 : Int32) (hb hby at_136) rfl k)
    refine Ends.step (u' := (T.setTop (mkF m 141 #[d0, d1, d2, d3, d4, d5, d6, d7, d8, d9, d10, d11, .val (.int x12), .val (.int x13), d14, .val (.int x15), .unset, .unset] [(.int (1 : Int32))]))) ?_ (fun _ k => XS.goto X.here hx rfl (pc0 := 137) (pc' := 141) rfl (hb hby at_137) (by decide) (by decide) k)
    exact b141 T _ _ X eT N Zs x12 x13 x15 (1 : Int32) (d0) od0 (d1) od1 (d2) od2 (d3) od3 (d4) od4 (d5) od5 (d6) od6 (d7) od7 (d8) od8 (d9) od9 (d10) od10 (d11) od11 (d14) od14
  have b140 : ∀ (T : State) (L : List Loc) (h : Heap) (X : Stand p l e room_1 s m #[(.int p0), (.int p1), (.int p2), (.int p3), (.int p4)] below meth c T L 2 4) (eT : T.heap = h) (N : Fr n0 L) (Zs : n0 ≤ h.size) (x12 : Int32) (x13 : Int32) (x15 : Int32) (d0 : Slot) (od0 : OneS d0) (d1 : Slot) (od1 : OneS d1) (d2 : Slot) (od2 : OneS d2) (d3 : Slot) (od3 : OneS d3) (d4 : Slot) (od4 : OneS d4) (d5 : Slot) (od5 : OneS d5) (d6 : Slot) (od6 : OneS d6) (d7 : Slot) (od7 : OneS d7) (d8 : Slot) (od8 : OneS d8) (d9 : Slot) (od9 : OneS d9) (d10 : Slot) (od10 : OneS d10) (d11 : Slot) (od11 : OneS d11) (d14 : Slot) (od14 : OneS d14), Ends p e below s 2 4 (Q0 Z  h0 n0 (F0_140 x12 x13 x15)) (T.setTop (mkF m 140 #[d0, d1, d2, d3, d4, d5, d6, d7, d8, d9, d10, d11, .val (.int x12), .val (.int x13), d14, .val (.int x15), .unset, .unset] [])) := by
    intro T L h X eT N Zs x12 x13 x15 d0 od0 d1 od1 d2 od2 d3 od3 d4 od4 d5 od5 d6 od6 d7 od7 d8 od8 d9 od9 d10 od10 d11 od11 d14 od14
    refine Ends.step (u' := (T.setTop (mkF m 141 #[d0, d1, d2, d3, d4, d5, d6, d7, d8, d9, d10, d11, .val (.int x12), .val (.int x13), d14, .val (.int x15), .unset, .unset] [(.int (0 : Int32))]))) ?_ (fun _ k => XT.iconstV X.here hx rfl (0 : Int32) (hb hby at_140) rfl k)
    exact b141 T _ _ X eT N Zs x12 x13 x15 (0 : Int32) (d0) od0 (d1) od1 (d2) od2 (d3) od3 (d4) od4 (d5) od5 (d6) od6 (d7) od7 (d8) od8 (d9) od9 (d10) od10 (d11) od11 (d14) od14
  have b129 : ∀ (T : State) (L : List Loc) (h : Heap) (X : Stand p l e room_1 s m #[(.int p0), (.int p1), (.int p2), (.int p3), (.int p4)] below meth c T L 2 4) (eT : T.heap = h) (N : Fr n0 L) (Zs : n0 ≤ h.size) (x6 : Int32) (x8 : Int32) (x12 : Int32) (x13 : Int32) (x15 : Int32) (d0 : Slot) (od0 : OneS d0) (d1 : Slot) (od1 : OneS d1) (d2 : Slot) (od2 : OneS d2) (d3 : Slot) (od3 : OneS d3) (d4 : Slot) (od4 : OneS d4) (d5 : Slot) (od5 : OneS d5) (d7 : Slot) (od7 : OneS d7) (d9 : Slot) (od9 : OneS d9) (d10 : Slot) (od10 : OneS d10) (d11 : Slot) (od11 : OneS d11) (d14 : Slot) (od14 : OneS d14), Ends p e below s 2 4 (Q0 Z  h0 n0 (F0_129 x6 x8 x12 x13 x15)) (T.setTop (mkF m 129 #[d0, d1, d2, d3, d4, d5, .val (.int x6), d7, .val (.int x8), d9, d10, d11, .val (.int x12), .val (.int x13), d14, .val (.int x15), .unset, .unset] [])) := by
    intro T L h X eT N Zs x6 x8 x12 x13 x15 d0 od0 d1 od1 d2 od2 d3 od3 d4 od4 d5 od5 d7 od7 d9 od9 d10 od10 d11 od11 d14 od14
    refine Ends.step (u' := (T.setTop (mkF m 131 #[d0, d1, d2, d3, d4, d5, .val (.int x6), d7, .val (.int x8), d9, d10, d11, .val (.int x12), .val (.int x13), d14, .val (.int x15), .unset, .unset] [(.int x6)]))) ?_ (fun _ k => XS.iload X.here hx rfl (hb hby at_129) rfl k)
    refine Ends.step (u' := (T.setTop (mkF m 133 #[d0, d1, d2, d3, d4, d5, .val (.int x6), d7, .val (.int x8), d9, d10, d11, .val (.int x12), .val (.int x13), d14, .val (.int x15), .unset, .unset] [(.int x8), (.int x6)]))) ?_ (fun _ k => XS.iload X.here hx rfl (hb hby at_131) rfl k)
    by_cases hc133 : x6 = x8
    · refine Eq.mp (congrArg (fun z => Ends p e below s 2 4 (Q0 Z  h0 n0 z) (T.setTop (mkF m 133 #[d0, d1, d2, d3, d4, d5, .val (.int x6), d7, .val (.int x8), d9, d10, d11, .val (.int x12), .val (.int x13), d14, .val (.int x15), .unset, .unset] [(.int x8), (.int x6)]))) (show (F0_129 x6 x8 x12 x13 x15) = (F0_136 x12 x13 x15) from (if_pos hc133)).symm) ?_
      refine Ends.step (u' := (T.setTop (mkF m 136 #[d0, d1, d2, d3, d4, d5, .val (.int x6), d7, .val (.int x8), d9, d10, d11, .val (.int x12), .val (.int x13), d14, .val (.int x15), .unset, .unset] []))) ?_ (fun _ k => XS.icmpNo X.here hx rfl (hb hby at_133) rfl (XT.ii_ne_f hc133) k)
      exact b136 T _ _ X eT N Zs x12 x13 x15 (d0) od0 (d1) od1 (d2) od2 (d3) od3 (d4) od4 (d5) od5 (.val (.int x6)) (Or.inr ⟨_, rfl, rfl⟩) (d7) od7 (.val (.int x8)) (Or.inr ⟨_, rfl, rfl⟩) (d9) od9 (d10) od10 (d11) od11 (d14) od14
    · refine Eq.mp (congrArg (fun z => Ends p e below s 2 4 (Q0 Z  h0 n0 z) (T.setTop (mkF m 133 #[d0, d1, d2, d3, d4, d5, .val (.int x6), d7, .val (.int x8), d9, d10, d11, .val (.int x12), .val (.int x13), d14, .val (.int x15), .unset, .unset] [(.int x8), (.int x6)]))) (show (F0_129 x6 x8 x12 x13 x15) = (F0_140 x12 x13 x15) from (if_neg hc133)).symm) ?_
      refine Ends.step (u' := (T.setTop (mkF m 140 #[d0, d1, d2, d3, d4, d5, .val (.int x6), d7, .val (.int x8), d9, d10, d11, .val (.int x12), .val (.int x13), d14, .val (.int x15), .unset, .unset] []))) ?_ (fun _ k => XS.icmpYes X.here hx rfl (pc0 := 133) (pc' := 140) rfl (hb hby at_133) rfl (XT.ii_ne_t hc133) (by decide) (by decide) k)
      exact b140 T _ _ X eT N Zs x12 x13 x15 (d0) od0 (d1) od1 (d2) od2 (d3) od3 (d4) od4 (d5) od5 (.val (.int x6)) (Or.inr ⟨_, rfl, rfl⟩) (d7) od7 (.val (.int x8)) (Or.inr ⟨_, rfl, rfl⟩) (d9) od9 (d10) od10 (d11) od11 (d14) od14
  have b120 : ∀ (T : State) (L : List Loc) (h : Heap) (X : Stand p l e room_1 s m #[(.int p0), (.int p1), (.int p2), (.int p3), (.int p4)] below meth c T L 2 4) (eT : T.heap = h) (N : Fr n0 L) (Zs : n0 ≤ h.size) (x5 : Int32) (x6 : Int32) (x7 : Int32) (x8 : Int32) (x12 : Int32) (x13 : Int32) (t0 : Int32) (d0 : Slot) (od0 : OneS d0) (d1 : Slot) (od1 : OneS d1) (d2 : Slot) (od2 : OneS d2) (d3 : Slot) (od3 : OneS d3) (d4 : Slot) (od4 : OneS d4) (d9 : Slot) (od9 : OneS d9) (d10 : Slot) (od10 : OneS d10) (d11 : Slot) (od11 : OneS d11) (d14 : Slot) (od14 : OneS d14), Ends p e below s 2 4 (Q0 Z  h0 n0 (F0_120 x5 x6 x7 x8 x12 x13 t0)) (T.setTop (mkF m 120 #[d0, d1, d2, d3, d4, .val (.int x5), .val (.int x6), .val (.int x7), .val (.int x8), d9, d10, d11, .val (.int x12), .val (.int x13), d14, .unset, .unset, .unset] [(.int t0)])) := by
    intro T L h X eT N Zs x5 x6 x7 x8 x12 x13 t0 d0 od0 d1 od1 d2 od2 d3 od3 d4 od4 d9 od9 d10 od10 d11 od11 d14 od14
    refine Ends.step (u' := (T.setTop (mkF m 122 #[d0, d1, d2, d3, d4, .val (.int x5), .val (.int x6), .val (.int x7), .val (.int x8), d9, d10, d11, .val (.int x12), .val (.int x13), d14, .val (.int t0), .unset, .unset] []))) ?_ (fun _ k => XS.istore X.here hx rfl (hb hby at_120) rfl (l' := #[d0, d1, d2, d3, d4, .val (.int x5), .val (.int x6), .val (.int x7), .val (.int x8), d9, d10, d11, .val (.int x12), .val (.int x13), d14, .val (.int t0), .unset, .unset]) rfl k)
    refine Ends.step (u' := (T.setTop (mkF m 124 #[d0, d1, d2, d3, d4, .val (.int x5), .val (.int x6), .val (.int x7), .val (.int x8), d9, d10, d11, .val (.int x12), .val (.int x13), d14, .val (.int t0), .unset, .unset] [(.int x5)]))) ?_ (fun _ k => XS.iload X.here hx rfl (hb hby at_122) rfl k)
    refine Ends.step (u' := (T.setTop (mkF m 126 #[d0, d1, d2, d3, d4, .val (.int x5), .val (.int x6), .val (.int x7), .val (.int x8), d9, d10, d11, .val (.int x12), .val (.int x13), d14, .val (.int t0), .unset, .unset] [(.int x7), (.int x5)]))) ?_ (fun _ k => XS.iload X.here hx rfl (hb hby at_124) rfl k)
    by_cases hc126 : x5 = x7
    · refine Eq.mp (congrArg (fun z => Ends p e below s 2 4 (Q0 Z  h0 n0 z) (T.setTop (mkF m 126 #[d0, d1, d2, d3, d4, .val (.int x5), .val (.int x6), .val (.int x7), .val (.int x8), d9, d10, d11, .val (.int x12), .val (.int x13), d14, .val (.int t0), .unset, .unset] [(.int x7), (.int x5)]))) (show (F0_120 x5 x6 x7 x8 x12 x13 t0) = (F0_129 x6 x8 x12 x13 t0) from (if_pos hc126)).symm) ?_
      refine Ends.step (u' := (T.setTop (mkF m 129 #[d0, d1, d2, d3, d4, .val (.int x5), .val (.int x6), .val (.int x7), .val (.int x8), d9, d10, d11, .val (.int x12), .val (.int x13), d14, .val (.int t0), .unset, .unset] []))) ?_ (fun _ k => XS.icmpNo X.here hx rfl (hb hby at_126) rfl (XT.ii_ne_f hc126) k)
      exact b129 T _ _ X eT N Zs x6 x8 x12 x13 t0 (d0) od0 (d1) od1 (d2) od2 (d3) od3 (d4) od4 (.val (.int x5)) (Or.inr ⟨_, rfl, rfl⟩) (.val (.int x7)) (Or.inr ⟨_, rfl, rfl⟩) (d9) od9 (d10) od10 (d11) od11 (d14) od14
    · refine Eq.mp (congrArg (fun z => Ends p e below s 2 4 (Q0 Z  h0 n0 z) (T.setTop (mkF m 126 #[d0, d1, d2, d3, d4, .val (.int x5), .val (.int x6), .val (.int x7), .val (.int x8), d9, d10, d11, .val (.int x12), .val (.int x13), d14, .val (.int t0), .unset, .unset] [(.int x7), (.int x5)]))) (show (F0_120 x5 x6 x7 x8 x12 x13 t0) = (F0_140 x12 x13 t0) from (if_neg hc126)).symm) ?_
      refine Ends.step (u' := (T.setTop (mkF m 140 #[d0, d1, d2, d3, d4, .val (.int x5), .val (.int x6), .val (.int x7), .val (.int x8), d9, d10, d11, .val (.int x12), .val (.int x13), d14, .val (.int t0), .unset, .unset] []))) ?_ (fun _ k => XS.icmpYes X.here hx rfl (pc0 := 126) (pc' := 140) rfl (hb hby at_126) rfl (XT.ii_ne_t hc126) (by decide) (by decide) k)
      exact b140 T _ _ X eT N Zs x12 x13 t0 (d0) od0 (d1) od1 (d2) od2 (d3) od3 (d4) od4 (.val (.int x5)) (Or.inr ⟨_, rfl, rfl⟩) (.val (.int x6)) (Or.inr ⟨_, rfl, rfl⟩) (.val (.int x7)) (Or.inr ⟨_, rfl, rfl⟩) (.val (.int x8)) (Or.inr ⟨_, rfl, rfl⟩) (d9) od9 (d10) od10 (d11) od11 (d14) od14
  have b115 : ∀ (T : State) (L : List Loc) (h : Heap) (X : Stand p l e room_1 s m #[(.int p0), (.int p1), (.int p2), (.int p3), (.int p4)] below meth c T L 2 4) (eT : T.heap = h) (N : Fr n0 L) (Zs : n0 ≤ h.size) (x5 : Int32) (x6 : Int32) (x7 : Int32) (x8 : Int32) (x12 : Int32) (x13 : Int32) (d0 : Slot) (od0 : OneS d0) (d1 : Slot) (od1 : OneS d1) (d2 : Slot) (od2 : OneS d2) (d3 : Slot) (od3 : OneS d3) (d4 : Slot) (od4 : OneS d4) (d9 : Slot) (od9 : OneS d9) (d10 : Slot) (od10 : OneS d10) (d11 : Slot) (od11 : OneS d11) (d14 : Slot) (od14 : OneS d14), Ends p e below s 2 4 (Q0 Z  h0 n0 (F0_115 x5 x6 x7 x8 x12 x13)) (T.setTop (mkF m 115 #[d0, d1, d2, d3, d4, .val (.int x5), .val (.int x6), .val (.int x7), .val (.int x8), d9, d10, d11, .val (.int x12), .val (.int x13), d14, .unset, .unset, .unset] [])) := by
    intro T L h X eT N Zs x5 x6 x7 x8 x12 x13 d0 od0 d1 od1 d2 od2 d3 od3 d4 od4 d9 od9 d10 od10 d11 od11 d14 od14
    refine Ends.step (u' := (T.setTop (mkF m 116 #[d0, d1, d2, d3, d4, .val (.int x5), .val (.int x6), .val (.int x7), .val (.int x8), d9, d10, d11, .val (.int x12), .val (.int x13), d14, .unset, .unset, .unset] [(.int (1 : Int32))]))) ?_ (fun _ k => XT.iconstV X.here hx rfl (1 : Int32) (hb hby at_115) rfl k)
    refine Ends.step (u' := (T.setTop (mkF m 120 #[d0, d1, d2, d3, d4, .val (.int x5), .val (.int x6), .val (.int x7), .val (.int x8), d9, d10, d11, .val (.int x12), .val (.int x13), d14, .unset, .unset, .unset] [(.int (1 : Int32))]))) ?_ (fun _ k => XS.goto X.here hx rfl (pc0 := 116) (pc' := 120) rfl (hb hby at_116) (by decide) (by decide) k)
    exact b120 T _ _ X eT N Zs x5 x6 x7 x8 x12 x13 (1 : Int32) (d0) od0 (d1) od1 (d2) od2 (d3) od3 (d4) od4 (d9) od9 (d10) od10 (d11) od11 (d14) od14
  have b119 : ∀ (T : State) (L : List Loc) (h : Heap) (X : Stand p l e room_1 s m #[(.int p0), (.int p1), (.int p2), (.int p3), (.int p4)] below meth c T L 2 4) (eT : T.heap = h) (N : Fr n0 L) (Zs : n0 ≤ h.size) (x5 : Int32) (x6 : Int32) (x7 : Int32) (x8 : Int32) (x12 : Int32) (x13 : Int32) (d0 : Slot) (od0 : OneS d0) (d1 : Slot) (od1 : OneS d1) (d2 : Slot) (od2 : OneS d2) (d3 : Slot) (od3 : OneS d3) (d4 : Slot) (od4 : OneS d4) (d9 : Slot) (od9 : OneS d9) (d10 : Slot) (od10 : OneS d10) (d11 : Slot) (od11 : OneS d11) (d14 : Slot) (od14 : OneS d14), Ends p e below s 2 4 (Q0 Z  h0 n0 (F0_119 x5 x6 x7 x8 x12 x13)) (T.setTop (mkF m 119 #[d0, d1, d2, d3, d4, .val (.int x5), .val (.int x6), .val (.int x7), .val (.int x8), d9, d10, d11, .val (.int x12), .val (.int x13), d14, .unset, .unset, .unset] [])) := by
    intro T L h X eT N Zs x5 x6 x7 x8 x12 x13 d0 od0 d1 od1 d2 od2 d3 od3 d4 od4 d9 od9 d10 od10 d11 od11 d14 od14
    refine Ends.step (u' := (T.setTop (mkF m 120 #[d0, d1, d2, d3, d4, .val (.int x5), .val (.int x6), .val (.int x7), .val (.int x8), d9, d10, d11, .val (.int x12), .val (.int x13), d14, .unset, .unset, .unset] [(.int (0 : Int32))]))) ?_ (fun _ k => XT.iconstV X.here hx rfl (0 : Int32) (hb hby at_119) rfl k)
    exact b120 T _ _ X eT N Zs x5 x6 x7 x8 x12 x13 (0 : Int32) (d0) od0 (d1) od1 (d2) od2 (d3) od3 (d4) od4 (d9) od9 (d10) od10 (d11) od11 (d14) od14
  have b108 : ∀ (T : State) (L : List Loc) (h : Heap) (X : Stand p l e room_1 s m #[(.int p0), (.int p1), (.int p2), (.int p3), (.int p4)] below meth c T L 2 4) (eT : T.heap = h) (N : Fr n0 L) (Zs : n0 ≤ h.size) (x5 : Int32) (x6 : Int32) (x7 : Int32) (x8 : Int32) (x12 : Int32) (x13 : Int32) (x14 : Int32) (d0 : Slot) (od0 : OneS d0) (d1 : Slot) (od1 : OneS d1) (d2 : Slot) (od2 : OneS d2) (d3 : Slot) (od3 : OneS d3) (d4 : Slot) (od4 : OneS d4) (d9 : Slot) (od9 : OneS d9) (d10 : Slot) (od10 : OneS d10) (d11 : Slot) (od11 : OneS d11), Ends p e below s 2 4 (Q0 Z  h0 n0 (F0_108 x5 x6 x7 x8 x12 x13 x14)) (T.setTop (mkF m 108 #[d0, d1, d2, d3, d4, .val (.int x5), .val (.int x6), .val (.int x7), .val (.int x8), d9, d10, d11, .val (.int x12), .val (.int x13), .val (.int x14), .unset, .unset, .unset] [])) := by
    intro T L h X eT N Zs x5 x6 x7 x8 x12 x13 x14 d0 od0 d1 od1 d2 od2 d3 od3 d4 od4 d9 od9 d10 od10 d11 od11
    refine Ends.step (u' := (T.setTop (mkF m 110 #[d0, d1, d2, d3, d4, .val (.int x5), .val (.int x6), .val (.int x7), .val (.int x8), d9, d10, d11, .val (.int x12), .val (.int x13), .val (.int x14), .unset, .unset, .unset] [(.int x12)]))) ?_ (fun _ k => XS.iload X.here hx rfl (hb hby at_108) rfl k)
    refine Ends.step (u' := (T.setTop (mkF m 112 #[d0, d1, d2, d3, d4, .val (.int x5), .val (.int x6), .val (.int x7), .val (.int x8), d9, d10, d11, .val (.int x12), .val (.int x13), .val (.int x14), .unset, .unset, .unset] [(.int x14), (.int x12)]))) ?_ (fun _ k => XS.iload X.here hx rfl (hb hby at_110) rfl k)
    by_cases hc112 : x12 = x14
    · refine Eq.mp (congrArg (fun z => Ends p e below s 2 4 (Q0 Z  h0 n0 z) (T.setTop (mkF m 112 #[d0, d1, d2, d3, d4, .val (.int x5), .val (.int x6), .val (.int x7), .val (.int x8), d9, d10, d11, .val (.int x12), .val (.int x13), .val (.int x14), .unset, .unset, .unset] [(.int x14), (.int x12)]))) (show (F0_108 x5 x6 x7 x8 x12 x13 x14) = (F0_115 x5 x6 x7 x8 x12 x13) from (if_pos hc112)).symm) ?_
      refine Ends.step (u' := (T.setTop (mkF m 115 #[d0, d1, d2, d3, d4, .val (.int x5), .val (.int x6), .val (.int x7), .val (.int x8), d9, d10, d11, .val (.int x12), .val (.int x13), .val (.int x14), .unset, .unset, .unset] []))) ?_ (fun _ k => XS.icmpNo X.here hx rfl (hb hby at_112) rfl (XT.ii_ne_f hc112) k)
      exact b115 T _ _ X eT N Zs x5 x6 x7 x8 x12 x13 (d0) od0 (d1) od1 (d2) od2 (d3) od3 (d4) od4 (d9) od9 (d10) od10 (d11) od11 (.val (.int x14)) (Or.inr ⟨_, rfl, rfl⟩)
    · refine Eq.mp (congrArg (fun z => Ends p e below s 2 4 (Q0 Z  h0 n0 z) (T.setTop (mkF m 112 #[d0, d1, d2, d3, d4, .val (.int x5), .val (.int x6), .val (.int x7), .val (.int x8), d9, d10, d11, .val (.int x12), .val (.int x13), .val (.int x14), .unset, .unset, .unset] [(.int x14), (.int x12)]))) (show (F0_108 x5 x6 x7 x8 x12 x13 x14) = (F0_119 x5 x6 x7 x8 x12 x13) from (if_neg hc112)).symm) ?_
      refine Ends.step (u' := (T.setTop (mkF m 119 #[d0, d1, d2, d3, d4, .val (.int x5), .val (.int x6), .val (.int x7), .val (.int x8), d9, d10, d11, .val (.int x12), .val (.int x13), .val (.int x14), .unset, .unset, .unset] []))) ?_ (fun _ k => XS.icmpYes X.here hx rfl (pc0 := 112) (pc' := 119) rfl (hb hby at_112) rfl (XT.ii_ne_t hc112) (by decide) (by decide) k)
      exact b119 T _ _ X eT N Zs x5 x6 x7 x8 x12 x13 (d0) od0 (d1) od1 (d2) od2 (d3) od3 (d4) od4 (d9) od9 (d10) od10 (d11) od11 (.val (.int x14)) (Or.inr ⟨_, rfl, rfl⟩)
  have b90 : ∀ (T : State) (L : List Loc) (h : Heap) (X : Stand p l e room_1 s m #[(.int p0), (.int p1), (.int p2), (.int p3), (.int p4)] below meth c T L 2 4) (eT : T.heap = h) (N : Fr n0 L) (Zs : n0 ≤ h.size) (x5 : Int32) (x6 : Int32) (x7 : Int32) (x8 : Int32) (x11 : Int32) (x12 : Int32) (x13 : Int32) (d0 : Slot) (od0 : OneS d0) (d1 : Slot) (od1 : OneS d1) (d2 : Slot) (od2 : OneS d2) (d3 : Slot) (od3 : OneS d3) (d4 : Slot) (od4 : OneS d4) (d9 : Slot) (od9 : OneS d9) (d10 : Slot) (od10 : OneS d10), Ends p e below s 2 4 (Q0 Z  h0 n0 (F0_90 x5 x6 x7 x8 x11 x12 x13)) (T.setTop (mkF m 90 #[d0, d1, d2, d3, d4, .val (.int x5), .val (.int x6), .val (.int x7), .val (.int x8), d9, d10, .val (.int x11), .val (.int x12), .val (.int x13), .unset, .unset, .unset, .unset] [])) := by
    intro T L h X eT N Zs x5 x6 x7 x8 x11 x12 x13 d0 od0 d1 od1 d2 od2 d3 od3 d4 od4 d9 od9 d10 od10
    refine Ends.step (u' := (T.setTop (mkF m 92 #[d0, d1, d2, d3, d4, .val (.int x5), .val (.int x6), .val (.int x7), .val (.int x8), d9, d10, .val (.int x11), .val (.int x12), .val (.int x13), .unset, .unset, .unset, .unset] [(.int x5)]))) ?_ (fun _ k => XS.iload X.here hx rfl (hb hby at_90) rfl k)
    refine Ends.step (u' := (T.setTop (mkF m 94 #[d0, d1, d2, d3, d4, .val (.int x5), .val (.int x6), .val (.int x7), .val (.int x8), d9, d10, .val (.int x11), .val (.int x12), .val (.int x13), .unset, .unset, .unset, .unset] [(.int (65536 : Int32)), (.int x5)]))) ?_ (fun _ k => X.ldcI hx hown (mvT hZ (hw _ (List.mem_of_getElem? (i := 26) rfl))) rfl (hb hby at_92) k)
    refine Ends.step (u' := (T.setTop (mkF m 95 #[d0, d1, d2, d3, d4, .val (.int x5), .val (.int x6), .val (.int x7), .val (.int x8), d9, d10, .val (.int x11), .val (.int x12), .val (.int x13), .unset, .unset, .unset, .unset] [(.int (x5 * (65536 : Int32)))]))) ?_ (fun _ k => XS.imul X.here hx rfl (hb hby at_94) rfl k)
    refine Ends.step (u' := (T.setTop (mkF m 97 #[d0, d1, d2, d3, d4, .val (.int x5), .val (.int x6), .val (.int x7), .val (.int x8), d9, d10, .val (.int x11), .val (.int x12), .val (.int x13), .unset, .unset, .unset, .unset] [(.int x11), (.int (x5 * (65536 : Int32)))]))) ?_ (fun _ k => XS.iload X.here hx rfl (hb hby at_95) rfl k)
    refine Ends.step (u' := (T.setTop (mkF m 98 #[d0, d1, d2, d3, d4, .val (.int x5), .val (.int x6), .val (.int x7), .val (.int x8), d9, d10, .val (.int x11), .val (.int x12), .val (.int x13), .unset, .unset, .unset, .unset] [(.int ((x5 * (65536 : Int32)) * x11))]))) ?_ (fun _ k => XS.imul X.here hx rfl (hb hby at_97) rfl k)
    refine Ends.step (u' := (T.setTop (mkF m 100 #[d0, d1, d2, d3, d4, .val (.int x5), .val (.int x6), .val (.int x7), .val (.int x8), d9, d10, .val (.int x11), .val (.int x12), .val (.int x13), .unset, .unset, .unset, .unset] [(.int x6), (.int ((x5 * (65536 : Int32)) * x11))]))) ?_ (fun _ k => XS.iload X.here hx rfl (hb hby at_98) rfl k)
    refine Ends.step (u' := (T.setTop (mkF m 101 #[d0, d1, d2, d3, d4, .val (.int x5), .val (.int x6), .val (.int x7), .val (.int x8), d9, d10, .val (.int x11), .val (.int x12), .val (.int x13), .unset, .unset, .unset, .unset] [(.int (1 : Int32)), (.int x6), (.int ((x5 * (65536 : Int32)) * x11))]))) ?_ (fun _ k => XT.iconstV X.here hx rfl (1 : Int32) (hb hby at_100) rfl k)
    refine Ends.step (u' := (T.setTop (mkF m 102 #[d0, d1, d2, d3, d4, .val (.int x5), .val (.int x6), .val (.int x7), .val (.int x8), d9, d10, .val (.int x11), .val (.int x12), .val (.int x13), .unset, .unset, .unset, .unset] [(.int (x6 + (1 : Int32))), (.int ((x5 * (65536 : Int32)) * x11))]))) ?_ (fun _ k => XS.iadd X.here hx rfl (hb hby at_101) rfl k)
    refine Ends.step (u' := (T.setTop (mkF m 104 #[d0, d1, d2, d3, d4, .val (.int x5), .val (.int x6), .val (.int x7), .val (.int x8), d9, d10, .val (.int x11), .val (.int x12), .val (.int x13), .unset, .unset, .unset, .unset] [(.int x11), (.int (x6 + (1 : Int32))), (.int ((x5 * (65536 : Int32)) * x11))]))) ?_ (fun _ k => XS.iload X.here hx rfl (hb hby at_102) rfl k)
    refine Ends.step (u' := (T.setTop (mkF m 105 #[d0, d1, d2, d3, d4, .val (.int x5), .val (.int x6), .val (.int x7), .val (.int x8), d9, d10, .val (.int x11), .val (.int x12), .val (.int x13), .unset, .unset, .unset, .unset] [(.int ((x6 + (1 : Int32)) * x11)), (.int ((x5 * (65536 : Int32)) * x11))]))) ?_ (fun _ k => XS.imul X.here hx rfl (hb hby at_104) rfl k)
    refine Ends.step (u' := (T.setTop (mkF m 106 #[d0, d1, d2, d3, d4, .val (.int x5), .val (.int x6), .val (.int x7), .val (.int x8), d9, d10, .val (.int x11), .val (.int x12), .val (.int x13), .unset, .unset, .unset, .unset] [(.int (((x5 * (65536 : Int32)) * x11) + ((x6 + (1 : Int32)) * x11)))]))) ?_ (fun _ k => XS.iadd X.here hx rfl (hb hby at_105) rfl k)
    refine Ends.step (u' := (T.setTop (mkF m 108 #[d0, d1, d2, d3, d4, .val (.int x5), .val (.int x6), .val (.int x7), .val (.int x8), d9, d10, .val (.int x11), .val (.int x12), .val (.int x13), .val (.int (((x5 * (65536 : Int32)) * x11) + ((x6 + (1 : Int32)) * x11))), .unset, .unset, .unset] []))) ?_ (fun _ k => XS.istore X.here hx rfl (hb hby at_106) rfl (l' := #[d0, d1, d2, d3, d4, .val (.int x5), .val (.int x6), .val (.int x7), .val (.int x8), d9, d10, .val (.int x11), .val (.int x12), .val (.int x13), .val (.int (((x5 * (65536 : Int32)) * x11) + ((x6 + (1 : Int32)) * x11))), .unset, .unset, .unset]) rfl k)
    exact b108 T _ _ X eT N Zs x5 x6 x7 x8 x12 x13 (((x5 * (65536 : Int32)) * x11) + ((x6 + (1 : Int32)) * x11)) (d0) od0 (d1) od1 (d2) od2 (d3) od3 (d4) od4 (d9) od9 (d10) od10 (.val (.int x11)) (Or.inr ⟨_, rfl, rfl⟩)
  have b83 : ∀ (T : State) (L : List Loc) (h : Heap) (X : Stand p l e room_1 s m #[(.int p0), (.int p1), (.int p2), (.int p3), (.int p4)] below meth c T L 2 4) (eT : T.heap = h) (N : Fr n0 L) (Zs : n0 ≤ h.size) (cq59_state : Int32) (cq59_top : Int32) (x5 : Int32) (x6 : Int32) (x7 : Int32) (x8 : Int32) (x11 : Int32) (x12 : Int32) (d0 : Slot) (od0 : OneS d0) (d1 : Slot) (od1 : OneS d1) (d2 : Slot) (od2 : OneS d2) (d3 : Slot) (od3 : OneS d3) (d4 : Slot) (od4 : OneS d4) (d9 : Slot) (od9 : OneS d9) (a_q59 : Addr) (g_q59 : n0 ≤ a_q59) (E_q59 : Exa Z h a_q59 "com/example/holywell/holywell/pds/Head") (F_q59_state : Fld Z h a_q59 "com/example/holywell/holywell/pds/Head" "state" "I" (.int cq59_state)) (F_q59_top : Fld Z h a_q59 "com/example/holywell/holywell/pds/Head" "top" "I" (.int cq59_top)), Ends p e below s 2 4 (Q0 Z  h0 n0 (F0_83 cq59_state cq59_top x5 x6 x7 x8 x11 x12)) (T.setTop (mkF m 83 #[d0, d1, d2, d3, d4, .val (.int x5), .val (.int x6), .val (.int x7), .val (.int x8), d9, .val (.ref a_q59), .val (.int x11), .val (.int x12), .unset, .unset, .unset, .unset, .unset] [])) := by
    intro T L h X eT N Zs cq59_state cq59_top x5 x6 x7 x8 x11 x12 d0 od0 d1 od1 d2 od2 d3 od3 d4 od4 d9 od9 a_q59 g_q59 E_q59 F_q59_state F_q59_top
    refine Ends.step (u' := (T.setTop (mkF m 85 #[d0, d1, d2, d3, d4, .val (.int x5), .val (.int x6), .val (.int x7), .val (.int x8), d9, .val (.ref a_q59), .val (.int x11), .val (.int x12), .unset, .unset, .unset, .unset, .unset] [(.ref a_q59)]))) ?_ (fun _ k => XS.aload X.here hx rfl (hb hby at_83) rfl rfl k)
    refine Ends.callV X hx hZ hown (hw _ (List.mem_of_getElem? (i := 20) rfl)) (hw _ (List.mem_of_getElem? (i := 21) rfl)) (hw _ (List.mem_of_getElem? (i := 23) rfl)) (hw _ (List.mem_of_getElem? (i := 22) rfl)) (hw _ (List.mem_of_getElem? (i := 3) rfl)) (hw _ (List.mem_of_getElem? (i := 24) rfl)) (by decide) (rm4 l Z a0 hw cq59_state cq59_top a_q59 h n0 Zs E_q59 F_q59_state F_q59_top) 0 (by decide) (by decide) eT a_q59 E_q59 (g := (mkF m 85 #[d0, d1, d2, d3, d4, .val (.int x5), .val (.int x6), .val (.int x7), .val (.int x8), d9, .val (.ref a_q59), .val (.int x11), .val (.int x12), .unset, .unset, .unset, .unset, .unset] [(.ref a_q59)])) rfl (by rw [hml]; rfl)  [] [] (lenOf pd_2 rfl) rfl (by show 2 * 0 + _ ≤ _; exact Nat.le_of_eq rfl) (hb hby at_85) rfl (by decide) (by decide) (fun v1 T1 L1 X1 hQ1 => ?_)
    obtain ⟨rfl, Nq1, e1⟩ := hQ1
    have N1 := Fr.app N Nq1
    show Ends p e below s _ _ _ (T1.setTop (mkF m 88 #[d0, d1, d2, d3, d4, .val (.int x5), .val (.int x6), .val (.int x7), .val (.int x8), d9, .val (.ref a_q59), .val (.int x11), .val (.int x12), .unset, .unset, .unset, .unset, .unset] [(.int (F4 cq59_state cq59_top))]))
    refine Ends.step (u' := (T1.setTop (mkF m 90 #[d0, d1, d2, d3, d4, .val (.int x5), .val (.int x6), .val (.int x7), .val (.int x8), d9, .val (.ref a_q59), .val (.int x11), .val (.int x12), .val (.int (F4 cq59_state cq59_top)), .unset, .unset, .unset, .unset] []))) ?_ (fun _ k => XS.istore X1.here hx rfl (hb hby at_88) rfl (l' := #[d0, d1, d2, d3, d4, .val (.int x5), .val (.int x6), .val (.int x7), .val (.int x8), d9, .val (.ref a_q59), .val (.int x11), .val (.int x12), .val (.int (F4 cq59_state cq59_top)), .unset, .unset, .unset, .unset]) rfl k)
    exact b90 T1 _ _ X1 e1 N1 Zs x5 x6 x7 x8 x11 x12 (F4 cq59_state cq59_top) (d0) od0 (d1) od1 (d2) od2 (d3) od3 (d4) od4 (d9) od9 (.val (.ref a_q59)) (Or.inr ⟨_, rfl, rfl⟩)
  have b46 : ∀ (T : State) (L : List Loc) (h : Heap) (X : Stand p l e room_1 s m #[(.int p0), (.int p1), (.int p2), (.int p3), (.int p4)] below meth c T L 0 0) (eT : T.heap = h) (N : Fr n0 L) (Zs : n0 ≤ h.size) (x5 : Int32) (x6 : Int32) (x7 : Int32) (x8 : Int32) (d0 : Slot) (od0 : OneS d0) (d1 : Slot) (od1 : OneS d1) (d2 : Slot) (od2 : OneS d2) (d3 : Slot) (od3 : OneS d3) (d4 : Slot) (od4 : OneS d4) (ok : (O0_46 x5 x6 x7 x8)), Ends p e below s 2 4 (Q0 Z  h0 n0 (F0_46 x5 x6 x7 x8)) (T.setTop (mkF m 46 #[d0, d1, d2, d3, d4, .val (.int x5), .val (.int x6), .val (.int x7), .val (.int x8), .unset, .unset, .unset, .unset, .unset, .unset, .unset, .unset, .unset] [])) := by
    intro T L h X eT N Zs x5 x6 x7 x8 d0 od0 d1 od1 d2 od2 d3 od3 d4 od4 ok
    obtain ⟨o1, o2, ok⟩ := ok
    refine Ends.newO X hx hZ hown (hw _ (List.mem_of_getElem? (i := 1) rfl)) (hw _ (List.mem_of_getElem? (i := 2) rfl)) (hw _ (List.mem_of_getElem? (i := 3) rfl)) eT (g := (mkF m 46 #[d0, d1, d2, d3, d4, .val (.int x5), .val (.int x6), .val (.int x7), .val (.int x8), .unset, .unset, .unset, .unset, .unset, .unset, .unset, .unset, .unset] [])) rfl (hb hby at_46) (by decide) (by decide) (fun T2 h2 a2 X2 e2 E2 q2 Y2 D2 => ?_)
    have Fd3 : Fld Z h2 a2 "com/example/holywell/holywell/pds/Head" "state" "I" (.int (0 : Int32)) := D2 (Or.inr (hw _ (List.mem_of_getElem? (i := 16) rfl))) (ty := .int) (by decide)
    have Fd4 : Fld Z h2 a2 "com/example/holywell/holywell/pds/Head" "top" "I" (.int (0 : Int32)) := D2 (Or.inr (hw _ (List.mem_of_getElem? (i := 18) rfl))) (ty := .int) (by decide)
    have g5 : n0 ≤ a2 := q2 ▸ Zs
    have Z6 := Nat.le_trans Zs E2.1
    show Ends p e below s _ _ _ (T2.setTop (mkF m 49 #[d0, d1, d2, d3, d4, .val (.int x5), .val (.int x6), .val (.int x7), .val (.int x8), .unset, .unset, .unset, .unset, .unset, .unset, .unset, .unset, .unset] [(.ref a2)]))
    refine Ends.step (u' := (T2.setTop (mkF m 50 #[d0, d1, d2, d3, d4, .val (.int x5), .val (.int x6), .val (.int x7), .val (.int x8), .unset, .unset, .unset, .unset, .unset, .unset, .unset, .unset, .unset] [(.ref a2), (.ref a2)]))) ?_ (fun _ k => XS.dup X2.here hx rfl (hb hby at_49) rfl rfl k)
    refine Ends.step (u' := (T2.setTop (mkF m 52 #[d0, d1, d2, d3, d4, .val (.int x5), .val (.int x6), .val (.int x7), .val (.int x8), .unset, .unset, .unset, .unset, .unset, .unset, .unset, .unset, .unset] [(.int x5), (.ref a2), (.ref a2)]))) ?_ (fun _ k => XS.iload X2.here hx rfl (hb hby at_50) rfl k)
    refine Ends.step (u' := (T2.setTop (mkF m 54 #[d0, d1, d2, d3, d4, .val (.int x5), .val (.int x6), .val (.int x7), .val (.int x8), .unset, .unset, .unset, .unset, .unset, .unset, .unset, .unset, .unset] [(.int x6), (.int x5), (.ref a2), (.ref a2)]))) ?_ (fun _ k => XS.iload X2.here hx rfl (hb hby at_52) rfl k)
    refine Ends.callC X2 hx hZ (y := (⟨"com/example/holywell/holywell/pds/Head", "<init>", "(II)V"⟩ : MethodName)) rfl hown (hw _ (List.mem_of_getElem? (i := 4) rfl)) (hw _ (List.mem_of_getElem? (i := 5) rfl)) (hw _ (List.mem_of_getElem? (i := 3) rfl)) (hw _ (List.mem_of_getElem? (i := 6) rfl)) (by decide) (rm1 l Z a0 hw x5 x6 (0 : Int32) (0 : Int32) a2 h2 n0 Z6 Y2 Fd3 Fd4 g5 o1) 1 (by decide) (by decide) e2  (g := (mkF m 54 #[d0, d1, d2, d3, d4, .val (.int x5), .val (.int x6), .val (.int x7), .val (.int x8), .unset, .unset, .unset, .unset, .unset, .unset, .unset, .unset, .unset] [(.int x6), (.int x5), (.ref a2), (.ref a2)])) rfl (by rw [hml]; rfl) a2 [(.int x5), (.int x6)] [(.ref a2)] (lenOf pd_1 rfl) rfl (by show 2 * 0 + _ ≤ _; exact Nat.le_of_eq rfl) (hb hby at_54) rfl (by decide) (by decide) (fun v7 T7 L7 X7 hQ7 => ?_)
    obtain ⟨rfl, Nq7, Kq7, Fd8, Fd9⟩ := hQ7
    have N7 := Fr.app N Nq7
    show Ends p e below s _ _ _ (T7.setTop (mkF m 57 #[d0, d1, d2, d3, d4, .val (.int x5), .val (.int x6), .val (.int x7), .val (.int x8), .unset, .unset, .unset, .unset, .unset, .unset, .unset, .unset, .unset] [(.ref a2)]))
    have E10 := Y2.keep Kq7
    have Z11 := Nat.le_trans Z6 Kq7.1
    refine Ends.step (u' := (T7.setTop (mkF m 59 #[d0, d1, d2, d3, d4, .val (.int x5), .val (.int x6), .val (.int x7), .val (.int x8), .val (.ref a2), .unset, .unset, .unset, .unset, .unset, .unset, .unset, .unset] []))) ?_ (fun _ k => XS.astore X7.here hx rfl (hb hby at_57) rfl rfl (l' := #[d0, d1, d2, d3, d4, .val (.int x5), .val (.int x6), .val (.int x7), .val (.int x8), .val (.ref a2), .unset, .unset, .unset, .unset, .unset, .unset, .unset, .unset]) rfl k)
    refine Ends.newO X7 hx hZ hown (hw _ (List.mem_of_getElem? (i := 1) rfl)) (hw _ (List.mem_of_getElem? (i := 2) rfl)) (hw _ (List.mem_of_getElem? (i := 3) rfl)) rfl (g := (mkF m 59 #[d0, d1, d2, d3, d4, .val (.int x5), .val (.int x6), .val (.int x7), .val (.int x8), .val (.ref a2), .unset, .unset, .unset, .unset, .unset, .unset, .unset, .unset] [])) rfl (hb hby at_59) (by decide) (by decide) (fun T12 h12 a12 X12 e12 E12 q12 Y12 D12 => ?_)
    have Fd13 : Fld Z h12 a12 "com/example/holywell/holywell/pds/Head" "state" "I" (.int (0 : Int32)) := D12 (Or.inr (hw _ (List.mem_of_getElem? (i := 16) rfl))) (ty := .int) (by decide)
    have Fd14 : Fld Z h12 a12 "com/example/holywell/holywell/pds/Head" "top" "I" (.int (0 : Int32)) := D12 (Or.inr (hw _ (List.mem_of_getElem? (i := 18) rfl))) (ty := .int) (by decide)
    have ne15 : a2 ≠ a12 := q12 ▸ Nat.ne_of_lt E10.lt
    have E16 := E10.ext E12
    have Fd17 := Fd8.ext E12
    have Fd18 := Fd9.ext E12
    have g19 : n0 ≤ a12 := q12 ▸ Z11
    have Z20 := Nat.le_trans Z11 E12.1
    show Ends p e below s _ _ _ (T12.setTop (mkF m 62 #[d0, d1, d2, d3, d4, .val (.int x5), .val (.int x6), .val (.int x7), .val (.int x8), .val (.ref a2), .unset, .unset, .unset, .unset, .unset, .unset, .unset, .unset] [(.ref a12)]))
    refine Ends.step (u' := (T12.setTop (mkF m 63 #[d0, d1, d2, d3, d4, .val (.int x5), .val (.int x6), .val (.int x7), .val (.int x8), .val (.ref a2), .unset, .unset, .unset, .unset, .unset, .unset, .unset, .unset] [(.ref a12), (.ref a12)]))) ?_ (fun _ k => XS.dup X12.here hx rfl (hb hby at_62) rfl rfl k)
    refine Ends.step (u' := (T12.setTop (mkF m 65 #[d0, d1, d2, d3, d4, .val (.int x5), .val (.int x6), .val (.int x7), .val (.int x8), .val (.ref a2), .unset, .unset, .unset, .unset, .unset, .unset, .unset, .unset] [(.int x7), (.ref a12), (.ref a12)]))) ?_ (fun _ k => XS.iload X12.here hx rfl (hb hby at_63) rfl k)
    refine Ends.step (u' := (T12.setTop (mkF m 67 #[d0, d1, d2, d3, d4, .val (.int x5), .val (.int x6), .val (.int x7), .val (.int x8), .val (.ref a2), .unset, .unset, .unset, .unset, .unset, .unset, .unset, .unset] [(.int x8), (.int x7), (.ref a12), (.ref a12)]))) ?_ (fun _ k => XS.iload X12.here hx rfl (hb hby at_65) rfl k)
    refine Ends.callC X12 hx hZ (y := (⟨"com/example/holywell/holywell/pds/Head", "<init>", "(II)V"⟩ : MethodName)) rfl hown (hw _ (List.mem_of_getElem? (i := 4) rfl)) (hw _ (List.mem_of_getElem? (i := 5) rfl)) (hw _ (List.mem_of_getElem? (i := 3) rfl)) (hw _ (List.mem_of_getElem? (i := 6) rfl)) (by decide) (rm1 l Z a0 hw x7 x8 (0 : Int32) (0 : Int32) a12 h12 n0 Z20 Y12 Fd13 Fd14 g19 o2) 1 (by decide) (by decide) e12  (g := (mkF m 67 #[d0, d1, d2, d3, d4, .val (.int x5), .val (.int x6), .val (.int x7), .val (.int x8), .val (.ref a2), .unset, .unset, .unset, .unset, .unset, .unset, .unset, .unset] [(.int x8), (.int x7), (.ref a12), (.ref a12)])) rfl (by rw [hml]; rfl) a12 [(.int x7), (.int x8)] [(.ref a12)] (lenOf pd_1 rfl) rfl (by show 2 * 0 + _ ≤ _; exact Nat.le_of_eq rfl) (hb hby at_67) rfl (by decide) (by decide) (fun v21 T21 L21 X21 hQ21 => ?_)
    obtain ⟨rfl, Nq21, Kq21, Fd22, Fd23⟩ := hQ21
    have N21 := Fr.app N7 Nq21
    show Ends p e below s _ _ _ (T21.setTop (mkF m 70 #[d0, d1, d2, d3, d4, .val (.int x5), .val (.int x6), .val (.int x7), .val (.int x8), .val (.ref a2), .unset, .unset, .unset, .unset, .unset, .unset, .unset, .unset] [(.ref a12)]))
    have E24 := E16.keep Kq21
    have Fd25 := Fd17.keep Kq21 (ninS ne15 nin0)
    have Fd26 := Fd18.keep Kq21 (ninS ne15 nin0)
    have E27 := Y12.keep Kq21
    have Z28 := Nat.le_trans Z20 Kq21.1
    refine Ends.step (u' := (T21.setTop (mkF m 72 #[d0, d1, d2, d3, d4, .val (.int x5), .val (.int x6), .val (.int x7), .val (.int x8), .val (.ref a2), .val (.ref a12), .unset, .unset, .unset, .unset, .unset, .unset, .unset] []))) ?_ (fun _ k => XS.astore X21.here hx rfl (hb hby at_70) rfl rfl (l' := #[d0, d1, d2, d3, d4, .val (.int x5), .val (.int x6), .val (.int x7), .val (.int x8), .val (.ref a2), .val (.ref a12), .unset, .unset, .unset, .unset, .unset, .unset, .unset]) rfl k)
    refine Ends.step (u' := (T21.setTop (mkF m 74 #[d0, d1, d2, d3, d4, .val (.int x5), .val (.int x6), .val (.int x7), .val (.int x8), .val (.ref a2), .val (.ref a12), .unset, .unset, .unset, .unset, .unset, .unset, .unset] [(.int (-1640531527 : Int32))]))) ?_ (fun _ k => X21.ldcI hx hown (mvT hZ (hw _ (List.mem_of_getElem? (i := 19) rfl))) rfl (hb hby at_72) k)
    refine Ends.step (u' := (T21.setTop (mkF m 76 #[d0, d1, d2, d3, d4, .val (.int x5), .val (.int x6), .val (.int x7), .val (.int x8), .val (.ref a2), .val (.ref a12), .val (.int (-1640531527 : Int32)), .unset, .unset, .unset, .unset, .unset, .unset] []))) ?_ (fun _ k => XS.istore X21.here hx rfl (hb hby at_74) rfl (l' := #[d0, d1, d2, d3, d4, .val (.int x5), .val (.int x6), .val (.int x7), .val (.int x8), .val (.ref a2), .val (.ref a12), .val (.int (-1640531527 : Int32)), .unset, .unset, .unset, .unset, .unset, .unset]) rfl k)
    refine Ends.step (u' := (T21.setTop (mkF m 78 #[d0, d1, d2, d3, d4, .val (.int x5), .val (.int x6), .val (.int x7), .val (.int x8), .val (.ref a2), .val (.ref a12), .val (.int (-1640531527 : Int32)), .unset, .unset, .unset, .unset, .unset, .unset] [(.ref a2)]))) ?_ (fun _ k => XS.aload X21.here hx rfl (hb hby at_76) rfl rfl k)
    refine Ends.callV X21 hx hZ hown (hw _ (List.mem_of_getElem? (i := 20) rfl)) (hw _ (List.mem_of_getElem? (i := 21) rfl)) (hw _ (List.mem_of_getElem? (i := 23) rfl)) (hw _ (List.mem_of_getElem? (i := 22) rfl)) (hw _ (List.mem_of_getElem? (i := 3) rfl)) (hw _ (List.mem_of_getElem? (i := 24) rfl)) (by decide) (rm4 l Z a0 hw (F1 x5 x6 (0 : Int32) (0 : Int32)).1 (F1 x5 x6 (0 : Int32) (0 : Int32)).2 a2 T21.heap n0 Z28 E24 Fd25 Fd26) 0 (by decide) (by decide) rfl a2 E24 (g := (mkF m 78 #[d0, d1, d2, d3, d4, .val (.int x5), .val (.int x6), .val (.int x7), .val (.int x8), .val (.ref a2), .val (.ref a12), .val (.int (-1640531527 : Int32)), .unset, .unset, .unset, .unset, .unset, .unset] [(.ref a2)])) rfl (by rw [hml]; rfl)  [] [] (lenOf pd_2 rfl) rfl (by show 2 * 0 + _ ≤ _; exact Nat.le_of_eq rfl) (hb hby at_78) rfl (by decide) (by decide) (fun v29 T29 L29 X29 hQ29 => ?_)
    obtain ⟨rfl, Nq29, e29⟩ := hQ29
    have N29 := Fr.app N21 Nq29
    show Ends p e below s _ _ _ (T29.setTop (mkF m 81 #[d0, d1, d2, d3, d4, .val (.int x5), .val (.int x6), .val (.int x7), .val (.int x8), .val (.ref a2), .val (.ref a12), .val (.int (-1640531527 : Int32)), .unset, .unset, .unset, .unset, .unset, .unset] [(.int (F4 (F1 x5 x6 (0 : Int32) (0 : Int32)).1 (F1 x5 x6 (0 : Int32) (0 : Int32)).2))]))
    refine Ends.step (u' := (T29.setTop (mkF m 83 #[d0, d1, d2, d3, d4, .val (.int x5), .val (.int x6), .val (.int x7), .val (.int x8), .val (.ref a2), .val (.ref a12), .val (.int (-1640531527 : Int32)), .val (.int (F4 (F1 x5 x6 (0 : Int32) (0 : Int32)).1 (F1 x5 x6 (0 : Int32) (0 : Int32)).2)), .unset, .unset, .unset, .unset, .unset] []))) ?_ (fun _ k => XS.istore X29.here hx rfl (hb hby at_81) rfl (l' := #[d0, d1, d2, d3, d4, .val (.int x5), .val (.int x6), .val (.int x7), .val (.int x8), .val (.ref a2), .val (.ref a12), .val (.int (-1640531527 : Int32)), .val (.int (F4 (F1 x5 x6 (0 : Int32) (0 : Int32)).1 (F1 x5 x6 (0 : Int32) (0 : Int32)).2)), .unset, .unset, .unset, .unset, .unset]) rfl k)
    exact b83 T29 _ _ X29 e29 N29 Z28 (F1 x7 x8 (0 : Int32) (0 : Int32)).1 (F1 x7 x8 (0 : Int32) (0 : Int32)).2 x5 x6 x7 x8 (-1640531527 : Int32) (F4 (F1 x5 x6 (0 : Int32) (0 : Int32)).1 (F1 x5 x6 (0 : Int32) (0 : Int32)).2) (d0) od0 (d1) od1 (d2) od2 (d3) od3 (d4) od4 (.val (.ref a2)) (Or.inr ⟨_, rfl, rfl⟩) a12 g19 E27 Fd22 Fd23
  have b20 : ∀ (T : State) (L : List Loc) (h : Heap) (X : Stand p l e room_1 s m #[(.int p0), (.int p1), (.int p2), (.int p3), (.int p4)] below meth c T L 0 0) (eT : T.heap = h) (N : Fr n0 L) (Zs : n0 ≤ h.size) (x5 : Int32) (x6 : Int32) (d0 : Slot) (od0 : OneS d0) (d1 : Slot) (od1 : OneS d1) (d2 : Slot) (od2 : OneS d2) (d3 : Slot) (od3 : OneS d3) (d4 : Slot) (od4 : OneS d4) (ok : (O0_20 x5 x6)), Ends p e below s 2 4 (Q0 Z  h0 n0 (F0_20 x5 x6)) (T.setTop (mkF m 20 #[d0, d1, d2, d3, d4, .val (.int x5), .val (.int x6), .unset, .unset, .unset, .unset, .unset, .unset, .unset, .unset, .unset, .unset, .unset] [])) := by
    intro T L h X eT N Zs x5 x6 d0 od0 d1 od1 d2 od2 d3 od3 d4 od4 ok
    refine Ends.step (u' := (T.setTop (mkF m 22 #[d0, d1, d2, d3, d4, .val (.int x5), .val (.int x6), .unset, .unset, .unset, .unset, .unset, .unset, .unset, .unset, .unset, .unset, .unset] [(.int x5)]))) ?_ (fun _ k => XS.iload X.here hx rfl (hb hby at_20) rfl k)
    refine Ends.step (u' := (T.setTop (mkF m 24 #[d0, d1, d2, d3, d4, .val (.int x5), .val (.int x6), .val (.int x5), .unset, .unset, .unset, .unset, .unset, .unset, .unset, .unset, .unset, .unset] []))) ?_ (fun _ k => XS.istore X.here hx rfl (hb hby at_22) rfl (l' := #[d0, d1, d2, d3, d4, .val (.int x5), .val (.int x6), .val (.int x5), .unset, .unset, .unset, .unset, .unset, .unset, .unset, .unset, .unset, .unset]) rfl k)
    refine Ends.step (u' := (T.setTop (mkF m 26 #[d0, d1, d2, d3, d4, .val (.int x5), .val (.int x6), .val (.int x5), .unset, .unset, .unset, .unset, .unset, .unset, .unset, .unset, .unset, .unset] [(.int x6)]))) ?_ (fun _ k => XS.iload X.here hx rfl (hb hby at_24) rfl k)
    refine Ends.step (u' := (T.setTop (mkF m 28 #[d0, d1, d2, d3, d4, .val (.int x5), .val (.int x6), .val (.int x5), .val (.int x6), .unset, .unset, .unset, .unset, .unset, .unset, .unset, .unset, .unset] []))) ?_ (fun _ k => XS.istore X.here hx rfl (hb hby at_26) rfl (l' := #[d0, d1, d2, d3, d4, .val (.int x5), .val (.int x6), .val (.int x5), .val (.int x6), .unset, .unset, .unset, .unset, .unset, .unset, .unset, .unset, .unset]) rfl k)
    refine Ends.step (u' := (T.setTop (mkF m 46 #[d0, d1, d2, d3, d4, .val (.int x5), .val (.int x6), .val (.int x5), .val (.int x6), .unset, .unset, .unset, .unset, .unset, .unset, .unset, .unset, .unset] []))) ?_ (fun _ k => XS.goto X.here hx rfl (pc0 := 28) (pc' := 46) rfl (hb hby at_28) (by decide) (by decide) k)
    exact b46 T _ _ X eT N Zs x5 x6 x5 x6 (d0) od0 (d1) od1 (d2) od2 (d3) od3 (d4) od4 ok
  have b37 : ∀ (T : State) (L : List Loc) (h : Heap) (X : Stand p l e room_1 s m #[(.int p0), (.int p1), (.int p2), (.int p3), (.int p4)] below meth c T L 0 0) (eT : T.heap = h) (N : Fr n0 L) (Zs : n0 ≤ h.size) (x4 : Int32) (x5 : Int32) (x6 : Int32) (x7 : Int32) (d0 : Slot) (od0 : OneS d0) (d1 : Slot) (od1 : OneS d1) (d2 : Slot) (od2 : OneS d2) (d3 : Slot) (od3 : OneS d3) (ok : (O0_37 x4 x5 x6 x7)), Ends p e below s 2 4 (Q0 Z  h0 n0 (F0_37 x4 x5 x6 x7)) (T.setTop (mkF m 37 #[d0, d1, d2, d3, .val (.int x4), .val (.int x5), .val (.int x6), .val (.int x7), .unset, .unset, .unset, .unset, .unset, .unset, .unset, .unset, .unset, .unset] [])) := by
    intro T L h X eT N Zs x4 x5 x6 x7 d0 od0 d1 od1 d2 od2 d3 od3 ok
    refine Ends.step (u' := (T.setTop (mkF m 39 #[d0, d1, d2, d3, .val (.int x4), .val (.int x5), .val (.int x6), .val (.int x7), .unset, .unset, .unset, .unset, .unset, .unset, .unset, .unset, .unset, .unset] [(.int x4)]))) ?_ (fun _ k => XS.iload X.here hx rfl (hb hby at_37) rfl k)
    refine Ends.step (u' := (T.setTop (mkF m 41 #[d0, d1, d2, d3, .val (.int x4), .val (.int x5), .val (.int x6), .val (.int x7), .unset, .unset, .unset, .unset, .unset, .unset, .unset, .unset, .unset, .unset] [(.int (65535 : Int32)), (.int x4)]))) ?_ (fun _ k => X.ldcI hx hown (mvT hZ (hw _ (List.mem_of_getElem? (i := 0) rfl))) rfl (hb hby at_39) k)
    refine Ends.step (u' := (T.setTop (mkF m 42 #[d0, d1, d2, d3, .val (.int x4), .val (.int x5), .val (.int x6), .val (.int x7), .unset, .unset, .unset, .unset, .unset, .unset, .unset, .unset, .unset, .unset] [(.int (x4 &&& (65535 : Int32)))]))) ?_ (fun _ k => XS.iand X.here hx rfl (hb hby at_41) rfl k)
    refine Ends.step (u' := (T.setTop (mkF m 43 #[d0, d1, d2, d3, .val (.int x4), .val (.int x5), .val (.int x6), .val (.int x7), .unset, .unset, .unset, .unset, .unset, .unset, .unset, .unset, .unset, .unset] [(.int (1 : Int32)), (.int (x4 &&& (65535 : Int32)))]))) ?_ (fun _ k => XT.iconstV X.here hx rfl (1 : Int32) (hb hby at_42) rfl k)
    refine Ends.step (u' := (T.setTop (mkF m 44 #[d0, d1, d2, d3, .val (.int x4), .val (.int x5), .val (.int x6), .val (.int x7), .unset, .unset, .unset, .unset, .unset, .unset, .unset, .unset, .unset, .unset] [(.int ((x4 &&& (65535 : Int32)) - (1 : Int32)))]))) ?_ (fun _ k => XS.isub X.here hx rfl (hb hby at_43) rfl k)
    refine Ends.step (u' := (T.setTop (mkF m 46 #[d0, d1, d2, d3, .val (.int x4), .val (.int x5), .val (.int x6), .val (.int x7), .val (.int ((x4 &&& (65535 : Int32)) - (1 : Int32))), .unset, .unset, .unset, .unset, .unset, .unset, .unset, .unset, .unset] []))) ?_ (fun _ k => XS.istore X.here hx rfl (hb hby at_44) rfl (l' := #[d0, d1, d2, d3, .val (.int x4), .val (.int x5), .val (.int x6), .val (.int x7), .val (.int ((x4 &&& (65535 : Int32)) - (1 : Int32))), .unset, .unset, .unset, .unset, .unset, .unset, .unset, .unset, .unset]) rfl k)
    exact b46 T _ _ X eT N Zs x5 x6 x7 ((x4 &&& (65535 : Int32)) - (1 : Int32)) (d0) od0 (d1) od1 (d2) od2 (d3) od3 (.val (.int x4)) (Or.inr ⟨_, rfl, rfl⟩) ok
  have b31 : ∀ (T : State) (L : List Loc) (h : Heap) (X : Stand p l e room_1 s m #[(.int p0), (.int p1), (.int p2), (.int p3), (.int p4)] below meth c T L 0 0) (eT : T.heap = h) (N : Fr n0 L) (Zs : n0 ≤ h.size) (x3 : Int32) (x4 : Int32) (x5 : Int32) (x6 : Int32) (d0 : Slot) (od0 : OneS d0) (d1 : Slot) (od1 : OneS d1) (d2 : Slot) (od2 : OneS d2) (ok : (O0_31 x3 x4 x5 x6)), Ends p e below s 2 4 (Q0 Z  h0 n0 (F0_31 x3 x4 x5 x6)) (T.setTop (mkF m 31 #[d0, d1, d2, .val (.int x3), .val (.int x4), .val (.int x5), .val (.int x6), .unset, .unset, .unset, .unset, .unset, .unset, .unset, .unset, .unset, .unset, .unset] [])) := by
    intro T L h X eT N Zs x3 x4 x5 x6 d0 od0 d1 od1 d2 od2 ok
    refine Ends.step (u' := (T.setTop (mkF m 32 #[d0, d1, d2, .val (.int x3), .val (.int x4), .val (.int x5), .val (.int x6), .unset, .unset, .unset, .unset, .unset, .unset, .unset, .unset, .unset, .unset, .unset] [(.int x3)]))) ?_ (fun _ k => XS.iloadN X.here hx rfl (hb hby at_31) rfl k)
    refine Ends.step (u' := (T.setTop (mkF m 34 #[d0, d1, d2, .val (.int x3), .val (.int x4), .val (.int x5), .val (.int x6), .unset, .unset, .unset, .unset, .unset, .unset, .unset, .unset, .unset, .unset, .unset] [(.int (65535 : Int32)), (.int x3)]))) ?_ (fun _ k => X.ldcI hx hown (mvT hZ (hw _ (List.mem_of_getElem? (i := 0) rfl))) rfl (hb hby at_32) k)
    refine Ends.step (u' := (T.setTop (mkF m 35 #[d0, d1, d2, .val (.int x3), .val (.int x4), .val (.int x5), .val (.int x6), .unset, .unset, .unset, .unset, .unset, .unset, .unset, .unset, .unset, .unset, .unset] [(.int (x3 &&& (65535 : Int32)))]))) ?_ (fun _ k => XS.iand X.here hx rfl (hb hby at_34) rfl k)
    refine Ends.step (u' := (T.setTop (mkF m 37 #[d0, d1, d2, .val (.int x3), .val (.int x4), .val (.int x5), .val (.int x6), .val (.int (x3 &&& (65535 : Int32))), .unset, .unset, .unset, .unset, .unset, .unset, .unset, .unset, .unset, .unset] []))) ?_ (fun _ k => XS.istore X.here hx rfl (hb hby at_35) rfl (l' := #[d0, d1, d2, .val (.int x3), .val (.int x4), .val (.int x5), .val (.int x6), .val (.int (x3 &&& (65535 : Int32))), .unset, .unset, .unset, .unset, .unset, .unset, .unset, .unset, .unset, .unset]) rfl k)
    exact b37 T _ _ X eT N Zs x4 x5 x6 (x3 &&& (65535 : Int32)) (d0) od0 (d1) od1 (d2) od2 (.val (.int x3)) (Or.inr ⟨_, rfl, rfl⟩) ok
  have b14 : ∀ (T : State) (L : List Loc) (h : Heap) (X : Stand p l e room_1 s m #[(.int p0), (.int p1), (.int p2), (.int p3), (.int p4)] below meth c T L 0 0) (eT : T.heap = h) (N : Fr n0 L) (Zs : n0 ≤ h.size) (x2 : Int32) (x3 : Int32) (x4 : Int32) (x5 : Int32) (x6 : Int32) (d0 : Slot) (od0 : OneS d0) (d1 : Slot) (od1 : OneS d1) (ok : (O0_14 x2 x3 x4 x5 x6)), Ends p e below s 2 4 (Q0 Z  h0 n0 (F0_14 x2 x3 x4 x5 x6)) (T.setTop (mkF m 14 #[d0, d1, .val (.int x2), .val (.int x3), .val (.int x4), .val (.int x5), .val (.int x6), .unset, .unset, .unset, .unset, .unset, .unset, .unset, .unset, .unset, .unset, .unset] [])) := by
    intro T L h X eT N Zs x2 x3 x4 x5 x6 d0 od0 d1 od1 ok
    obtain ⟨okt, okf⟩ := ok
    refine Ends.step (u' := (T.setTop (mkF m 15 #[d0, d1, .val (.int x2), .val (.int x3), .val (.int x4), .val (.int x5), .val (.int x6), .unset, .unset, .unset, .unset, .unset, .unset, .unset, .unset, .unset, .unset, .unset] [(.int x2)]))) ?_ (fun _ k => XS.iloadN X.here hx rfl (hb hby at_14) rfl k)
    refine Ends.step (u' := (T.setTop (mkF m 16 #[d0, d1, .val (.int x2), .val (.int x3), .val (.int x4), .val (.int x5), .val (.int x6), .unset, .unset, .unset, .unset, .unset, .unset, .unset, .unset, .unset, .unset, .unset] [(.int (1 : Int32)), (.int x2)]))) ?_ (fun _ k => XT.iconstV X.here hx rfl (1 : Int32) (hb hby at_15) rfl k)
    refine Ends.step (u' := (T.setTop (mkF m 17 #[d0, d1, .val (.int x2), .val (.int x3), .val (.int x4), .val (.int x5), .val (.int x6), .unset, .unset, .unset, .unset, .unset, .unset, .unset, .unset, .unset, .unset, .unset] [(.int (x2 &&& (1 : Int32)))]))) ?_ (fun _ k => XS.iand X.here hx rfl (hb hby at_16) rfl k)
    by_cases hc17 : (x2 &&& (1 : Int32)) = 0
    · refine Eq.mp (congrArg (fun z => Ends p e below s 2 4 (Q0 Z  h0 n0 z) (T.setTop (mkF m 17 #[d0, d1, .val (.int x2), .val (.int x3), .val (.int x4), .val (.int x5), .val (.int x6), .unset, .unset, .unset, .unset, .unset, .unset, .unset, .unset, .unset, .unset, .unset] [(.int (x2 &&& (1 : Int32)))]))) (show (F0_14 x2 x3 x4 x5 x6) = (F0_31 x3 x4 x5 x6) from (if_pos hc17)).symm) ?_
      refine Ends.step (u' := (T.setTop (mkF m 31 #[d0, d1, .val (.int x2), .val (.int x3), .val (.int x4), .val (.int x5), .val (.int x6), .unset, .unset, .unset, .unset, .unset, .unset, .unset, .unset, .unset, .unset, .unset] []))) ?_ (fun _ k => XS.ifYes X.here hx rfl (pc0 := 17) (pc' := 31) rfl (hb hby at_17) rfl (XT.i0_eq_t hc17) (by decide) (by decide) k)
      exact b31 T _ _ X eT N Zs x3 x4 x5 x6 (d0) od0 (d1) od1 (.val (.int x2)) (Or.inr ⟨_, rfl, rfl⟩) (okt hc17)
    · refine Eq.mp (congrArg (fun z => Ends p e below s 2 4 (Q0 Z  h0 n0 z) (T.setTop (mkF m 17 #[d0, d1, .val (.int x2), .val (.int x3), .val (.int x4), .val (.int x5), .val (.int x6), .unset, .unset, .unset, .unset, .unset, .unset, .unset, .unset, .unset, .unset, .unset] [(.int (x2 &&& (1 : Int32)))]))) (show (F0_14 x2 x3 x4 x5 x6) = (F0_20 x5 x6) from (if_neg hc17)).symm) ?_
      refine Ends.step (u' := (T.setTop (mkF m 20 #[d0, d1, .val (.int x2), .val (.int x3), .val (.int x4), .val (.int x5), .val (.int x6), .unset, .unset, .unset, .unset, .unset, .unset, .unset, .unset, .unset, .unset, .unset] []))) ?_ (fun _ k => XS.ifNo X.here hx rfl (hb hby at_17) rfl (XT.i0_eq_f hc17) k)
      exact b20 T _ _ X eT N Zs x5 x6 (d0) od0 (d1) od1 (.val (.int x2)) (Or.inr ⟨_, rfl, rfl⟩) (.val (.int x3)) (Or.inr ⟨_, rfl, rfl⟩) (.val (.int x4)) (Or.inr ⟨_, rfl, rfl⟩) (okf hc17)
  have b6 : ∀ (T : State) (L : List Loc) (h : Heap) (X : Stand p l e room_1 s m #[(.int p0), (.int p1), (.int p2), (.int p3), (.int p4)] below meth c T L 0 0) (eT : T.heap = h) (N : Fr n0 L) (Zs : n0 ≤ h.size) (x1 : Int32) (x2 : Int32) (x3 : Int32) (x4 : Int32) (x5 : Int32) (d0 : Slot) (od0 : OneS d0) (ok : (O0_6 x1 x2 x3 x4 x5)), Ends p e below s 2 4 (Q0 Z  h0 n0 (F0_6 x1 x2 x3 x4 x5)) (T.setTop (mkF m 6 #[d0, .val (.int x1), .val (.int x2), .val (.int x3), .val (.int x4), .val (.int x5), .unset, .unset, .unset, .unset, .unset, .unset, .unset, .unset, .unset, .unset, .unset, .unset] [])) := by
    intro T L h X eT N Zs x1 x2 x3 x4 x5 d0 od0 ok
    refine Ends.step (u' := (T.setTop (mkF m 7 #[d0, .val (.int x1), .val (.int x2), .val (.int x3), .val (.int x4), .val (.int x5), .unset, .unset, .unset, .unset, .unset, .unset, .unset, .unset, .unset, .unset, .unset, .unset] [(.int x1)]))) ?_ (fun _ k => XS.iloadN X.here hx rfl (hb hby at_6) rfl k)
    refine Ends.step (u' := (T.setTop (mkF m 9 #[d0, .val (.int x1), .val (.int x2), .val (.int x3), .val (.int x4), .val (.int x5), .unset, .unset, .unset, .unset, .unset, .unset, .unset, .unset, .unset, .unset, .unset, .unset] [(.int (65535 : Int32)), (.int x1)]))) ?_ (fun _ k => X.ldcI hx hown (mvT hZ (hw _ (List.mem_of_getElem? (i := 0) rfl))) rfl (hb hby at_7) k)
    refine Ends.step (u' := (T.setTop (mkF m 10 #[d0, .val (.int x1), .val (.int x2), .val (.int x3), .val (.int x4), .val (.int x5), .unset, .unset, .unset, .unset, .unset, .unset, .unset, .unset, .unset, .unset, .unset, .unset] [(.int (x1 &&& (65535 : Int32)))]))) ?_ (fun _ k => XS.iand X.here hx rfl (hb hby at_9) rfl k)
    refine Ends.step (u' := (T.setTop (mkF m 11 #[d0, .val (.int x1), .val (.int x2), .val (.int x3), .val (.int x4), .val (.int x5), .unset, .unset, .unset, .unset, .unset, .unset, .unset, .unset, .unset, .unset, .unset, .unset] [(.int (1 : Int32)), (.int (x1 &&& (65535 : Int32)))]))) ?_ (fun _ k => XT.iconstV X.here hx rfl (1 : Int32) (hb hby at_10) rfl k)
    refine Ends.step (u' := (T.setTop (mkF m 12 #[d0, .val (.int x1), .val (.int x2), .val (.int x3), .val (.int x4), .val (.int x5), .unset, .unset, .unset, .unset, .unset, .unset, .unset, .unset, .unset, .unset, .unset, .unset] [(.int ((x1 &&& (65535 : Int32)) - (1 : Int32)))]))) ?_ (fun _ k => XS.isub X.here hx rfl (hb hby at_11) rfl k)
    refine Ends.step (u' := (T.setTop (mkF m 14 #[d0, .val (.int x1), .val (.int x2), .val (.int x3), .val (.int x4), .val (.int x5), .val (.int ((x1 &&& (65535 : Int32)) - (1 : Int32))), .unset, .unset, .unset, .unset, .unset, .unset, .unset, .unset, .unset, .unset, .unset] []))) ?_ (fun _ k => XS.istore X.here hx rfl (hb hby at_12) rfl (l' := #[d0, .val (.int x1), .val (.int x2), .val (.int x3), .val (.int x4), .val (.int x5), .val (.int ((x1 &&& (65535 : Int32)) - (1 : Int32))), .unset, .unset, .unset, .unset, .unset, .unset, .unset, .unset, .unset, .unset, .unset]) rfl k)
    exact b14 T _ _ X eT N Zs x2 x3 x4 x5 ((x1 &&& (65535 : Int32)) - (1 : Int32)) (d0) od0 (.val (.int x1)) (Or.inr ⟨_, rfl, rfl⟩) ok
  refine Ends.step (u' := (s₁.setTop (mkF m 0 #[.val (.int p0), .val (.int p1), .val (.int p2), .val (.int p3), .val (.int p4), .unset, .unset, .unset, .unset, .unset, .unset, .unset, .unset, .unset, .unset, .unset, .unset, .unset] []))) ?_ (fun _ k => castTop (ef_0 m p0 p1 p2 p3 p4) k)
  refine Ends.step (u' := (s₁.setTop (mkF m 1 #[.val (.int p0), .val (.int p1), .val (.int p2), .val (.int p3), .val (.int p4), .unset, .unset, .unset, .unset, .unset, .unset, .unset, .unset, .unset, .unset, .unset, .unset, .unset] [(.int p0)]))) ?_ (fun _ k => XS.iloadN X0.here hx rfl (hb hby at_0) rfl k)
  refine Ends.step (u' := (s₁.setTop (mkF m 3 #[.val (.int p0), .val (.int p1), .val (.int p2), .val (.int p3), .val (.int p4), .unset, .unset, .unset, .unset, .unset, .unset, .unset, .unset, .unset, .unset, .unset, .unset, .unset] [(.int (65535 : Int32)), (.int p0)]))) ?_ (fun _ k => X0.ldcI hx hown (mvT hZ (hw _ (List.mem_of_getElem? (i := 0) rfl))) rfl (hb hby at_1) k)
  refine Ends.step (u' := (s₁.setTop (mkF m 4 #[.val (.int p0), .val (.int p1), .val (.int p2), .val (.int p3), .val (.int p4), .unset, .unset, .unset, .unset, .unset, .unset, .unset, .unset, .unset, .unset, .unset, .unset, .unset] [(.int (p0 &&& (65535 : Int32)))]))) ?_ (fun _ k => XS.iand X0.here hx rfl (hb hby at_3) rfl k)
  refine Ends.step (u' := (s₁.setTop (mkF m 6 #[.val (.int p0), .val (.int p1), .val (.int p2), .val (.int p3), .val (.int p4), .val (.int (p0 &&& (65535 : Int32))), .unset, .unset, .unset, .unset, .unset, .unset, .unset, .unset, .unset, .unset, .unset, .unset] []))) ?_ (fun _ k => XS.istore X0.here hx rfl (hb hby at_4) rfl (l' := #[.val (.int p0), .val (.int p1), .val (.int p2), .val (.int p3), .val (.int p4), .val (.int (p0 &&& (65535 : Int32))), .unset, .unset, .unset, .unset, .unset, .unset, .unset, .unset, .unset, .unset, .unset, .unset]) rfl k)
  exact b6 s₁ _ _ X0 e0 N0 Z0 p1 p2 p3 p4 (p0 &&& (65535 : Int32)) (.val (.int p0)) (Or.inr ⟨_, rfl, rfl⟩) ok
theorem own_toInt (x : Int32) (h : x.toBitVec.toNat < 2 ^ 31) : x.toInt = x.toBitVec.toNat := by
  show x.toBitVec.toInt = _
  rw [BitVec.toInt_eq_toNat_cond, if_pos (by omega)]
theorem own_nonneg (x : Int32) (h : 0 ≤ x.toInt) : x.toBitVec.toNat < 2 ^ 31 := by
  have h' : 0 ≤ x.toBitVec.toInt := h
  rw [BitVec.toInt_eq_toNat_cond] at h'
  split at h' <;> omega
theorem own_band (x c : Int32) (hc : 0 ≤ c.toInt) : 0 ≤ (x &&& c).toInt ∧ (x &&& c).toInt ≤ c.toInt := by
  have hb := own_nonneg c hc
  have e : (x &&& c).toBitVec.toNat = x.toBitVec.toNat &&& c.toBitVec.toNat := by rw [Int32.toBitVec_and, BitVec.toNat_and]
  have l : x.toBitVec.toNat &&& c.toBitVec.toNat ≤ c.toBitVec.toNat := Nat.and_le_right
  rw [own_toInt (x &&& c) (by omega), own_toInt c hb, e]
  omega
theorem own_inb (j : Int32) (n : Nat) (h0 : 0 ≤ j.toInt) (h1 : j.toInt < n) : inb j n := by
  intro h
  rcases h with h | h
  · rw [Int32.lt_iff_toInt_lt] at h
    have : (0 : Int32).toInt = 0 := rfl
    omega
  · simp only [Int32.toNatClampNeg] at h
    omega
theorem own_enc (s u : Int32) (hs : s.toBitVec.toNat < 65536) (hu : u.toBitVec.toNat < 65536) : ((s <<< ((16 : Int32) &&& 31)) ^^^ u) = s * 65536 + u ∧ (s * 65536 + u).toBitVec.toNat = s.toBitVec.toNat * 65536 + u.toBitVec.toNat := by
  have e1 : (s <<< ((16 : Int32) &&& 31)).toBitVec = s.toBitVec <<< 16 := by
    rw [Int32.toBitVec_shiftLeft]; rfl
  have e2 : (s * 65536 + u).toBitVec.toNat = s.toBitVec.toNat * 65536 + u.toBitVec.toNat := by
    rw [Int32.toBitVec_add, Int32.toBitVec_mul, BitVec.toNat_add, BitVec.toNat_mul]
    show (s.toBitVec.toNat * 65536 % 2 ^ 32 + u.toBitVec.toNat) % 2 ^ 32 = _
    omega
  refine ⟨?_, e2⟩
  apply Int32.toBitVec_inj.mp
  apply BitVec.eq_of_toNat_eq
  rw [e2, Int32.toBitVec_xor, e1, BitVec.toNat_xor, BitVec.toNat_shiftLeft]
  generalize s.toBitVec.toNat = a at *
  generalize u.toBitVec.toNat = b at *
  have h3 : a <<< 16 % 2 ^ 32 = a <<< 16 := Nat.mod_eq_of_lt (by rw [Nat.shiftLeft_eq]; omega)
  rw [h3]
  have h4 : a <<< 16 + b = a <<< 16 ||| b := Nat.shiftLeft_add_eq_or_of_lt (by omega) a
  have h5 : a <<< 16 ^^^ b = a <<< 16 ||| b := by
    apply Nat.eq_of_testBit_eq
    intro i
    rw [Nat.testBit_xor, Nat.testBit_or, Nat.testBit_shiftLeft]
    by_cases q : 16 ≤ i
    · have : b.testBit i = false := Nat.testBit_lt_two_pow (Nat.lt_of_lt_of_le hu (Nat.pow_le_pow_right (by decide) q : 2 ^ 16 ≤ 2 ^ i))
      simp [this]
    · simp [q]
  rw [h5, ← h4, Nat.shiftLeft_eq]
theorem own_mul_inj (x y : Int32) (h : x * (-1640531527 : Int32) = y * (-1640531527 : Int32)) : x = y := by
  have e : (-1640531527 : Int32) * (340573321 : Int32) = 1 := by decide +kernel
  have := congrArg (fun z => z * (340573321 : Int32)) h
  simp only [Int32.mul_assoc, e, Int32.mul_one] at this
  exact this
theorem own_1 : nar .boolean 1 = 1 := rfl
theorem own_46 (s u s2 u2 : Int32) (hs : s.toBitVec.toNat < 65536) (hu : u.toBitVec.toNat < 65536) (hs2 : s2.toBitVec.toNat < 65536) (hu2 : u2.toBitVec.toNat < 65536)
    (h1 : ¬ s < 0) (h2 : ¬ s2 < 0) (h3 : ¬ u - 1 < -1) (h4 : ¬ u2 - 1 < -1) : F0_46 s (u - 1) s2 (u2 - 1) = 1 := by
  have f1 : F1 s (u - 1) 0 0 = (s, u - 1) := by simp only [F1, if_neg h1, F1_8, if_neg h3, F1_28]
  have f2 : F1 s2 (u2 - 1) 0 0 = (s2, u2 - 1) := by simp only [F1, if_neg h2, F1_8, if_neg h4, F1_28]
  have k1 : F4 s (u - 1) = (s * 65536 + u) * (-1640531527 : Int32) := by
    simp only [F4, Int32.sub_add_cancel, (own_enc s u hs hu).1]
  have k2 : F4 s2 (u2 - 1) = (s2 * 65536 + u2) * (-1640531527 : Int32) := by
    simp only [F4, Int32.sub_add_cancel, (own_enc s2 u2 hs2 hu2).1]
  have e : F0_46 s (u - 1) s2 (u2 - 1) = F0_90 s (u - 1) s2 (u2 - 1) (-1640531527 : Int32) (F4 s (u - 1)) (F4 s2 (u2 - 1)) := by
    simp only [F0_46, f1, f2, F0_83]
  rw [e, k1, k2]
  have e3 : ((s * (65536 : Int32)) * (-1640531527 : Int32)) + ((u - 1 + (1 : Int32)) * (-1640531527 : Int32)) = (s * 65536 + u) * (-1640531527 : Int32) := by
    rw [Int32.sub_add_cancel, Int32.add_mul]
  show F0_108 s (u - 1) s2 (u2 - 1) _ _ (((s * (65536 : Int32)) * (-1640531527 : Int32)) + ((u - 1 + (1 : Int32)) * (-1640531527 : Int32))) = 1
  rw [e3]
  simp only [F0_108, if_true, F0_115, F0_120, F0_129, F0_136, F0_140, F0_141]
  have inj : (s * 65536 + u) * (-1640531527 : Int32) = (s2 * 65536 + u2) * (-1640531527 : Int32) → s = s2 ∧ u = u2 := fun h => by
    have h := congrArg (fun z => z.toBitVec.toNat) (own_mul_inj _ _ h)
    simp only [(own_enc s u hs hu).2, (own_enc s2 u2 hs2 hu2).2] at h
    have a : s.toBitVec.toNat = s2.toBitVec.toNat := by omega
    have b : u.toBitVec.toNat = u2.toBitVec.toNat := by omega
    exact ⟨Int32.toBitVec_inj.mp (BitVec.eq_of_toNat_eq a), Int32.toBitVec_inj.mp (BitVec.eq_of_toNat_eq b)⟩
  by_cases p : s = s2
  · rw [if_pos p]
    by_cases q : u = u2
    · rw [if_pos (by rw [q]), if_pos (by rw [p, q])]
      rfl
    · rw [if_neg (fun z => q (by have := congrArg (fun w => w + (1 : Int32)) z; simpa only [Int32.sub_add_cancel] using this)), if_neg (fun z => q (inj z).2)]
      rfl
  · rw [if_neg p, if_neg (fun z => p (inj z).1)]
    rfl
theorem own_m (x : Int32) : (x &&& 65535).toBitVec.toNat < 65536 ∧ ¬ (x &&& 65535) < 0 ∧ ¬ (x &&& 65535) - 1 < -1 := by
  have h := own_band x 65535 (by decide)
  have e : (65535 : Int32).toInt = 65535 := rfl
  have n := own_nonneg _ h.1
  have t := own_toInt _ n
  refine ⟨by omega, ?_, ?_⟩
  · rw [Int32.lt_iff_toInt_lt]
    show ¬ _ < (0 : Int)
    omega
  · rw [Int32.lt_iff_toInt_lt, Int32.toInt_sub, Int.bmod_eq_of_le (by show _ ≤ _ - (1 : Int); omega) (by show _ - (1 : Int) < _; omega)]
    show ¬ _ - (1 : Int) < (-1 : Int)
    omega
theorem own_O1 (s u : Int32) (h1 : ¬ s < 0) (h3 : ¬ u < -1) : O1 s u 0 0 := ⟨fun q => absurd q h1, fun _ => ⟨fun q => absurd q h3, fun _ => trivial⟩⟩
theorem own_law (i0 : Int32) (i1 : Int32) (i2 : Int32) (i3 : Int32) (i4 : Int32) : O0 i0 i1 i2 i3 i4 ∧ F0 i0 i1 i2 i3 i4 = 1 := by
  obtain ⟨a1, a2, a3⟩ := own_m i0
  obtain ⟨b1, b2, b3⟩ := own_m i1
  obtain ⟨c1, c2, c3⟩ := own_m i3
  obtain ⟨d1, d2, d3⟩ := own_m i4
  refine ⟨⟨fun _ => ⟨own_O1 _ _ a2 b3, own_O1 _ _ c2 d3, trivial⟩, fun _ => ⟨own_O1 _ _ a2 b3, own_O1 _ _ a2 b3, trivial⟩⟩, ?_⟩
  simp only [F0, F0_6, F0_14, F0_31, F0_37, F0_20]
  rw [own_46 _ _ _ _ a1 b1 c1 d1 a2 c2 b3 d3, own_46 _ _ _ _ a1 b1 a1 b1 a2 a2 b3 b3, ite_self]
set_option maxRecDepth 65536 in
set_option maxHeartbeats 40000000 in
theorem comes_1 {Post : Tables → Env → Array Value → State → Outcome → State → Prop} (hpost : ∀ tb e args s v u, (limb_1_1.after args s (.returned v) u = true ∧ limb_1_2.after args s (.returned v) u = true ∧ True) → FrameEnd s (.returned v) u (Jvm.fieldLocs frame_1_writes args s ++ Jvm.arrayLocs frame_1_arrays args s ++ Jvm.staticLocs frame_1_statics s) 16 128 → Post tb e args s (.returned v) u) :
    ArmFor flags0 classFile x code maxLocals ret World_1 tables_1 room_1 Calls_1 rest_1 Pre_1 Post := by
  intro l hfl _ _ p e ha hc hk s m args below hf hA hF happ hP
  obtain ⟨hcalls, hrest, hpre⟩ := hP
  obtain ⟨-, -, -, hnamed, -, -, -, hat⟩ := (Spec.applies_iff hf).mp happ
  obtain ⟨hg, hn⟩ := and_e (Cond.before_iff.mp (show (Jvm.Cond.and given_1 narrow_1).before args s = true from hpre))
  obtain ⟨h1, r0⟩ := and_e hg
  obtain ⟨k0, r1⟩ := and_e r0
  obtain ⟨k1, r2⟩ := and_e r1
  obtain ⟨k2, r3⟩ := and_e r2
  obtain ⟨k3, r4⟩ := and_e r3
  obtain ⟨w0, w1, w2, w3, w4, rfl⟩ : ∃ w0 w1 w2 w3 w4 : Value, args = #[w0, w1, w2, w3, w4] := by
    have hs : args.size = 5 := by simpa [Cond.value, given_1] using h1
    obtain ⟨L⟩ := args
    match L, hs with
    | [w0, w1, w2, w3, w4], _ => exact ⟨w0, w1, w2, w3, w4, rfl⟩
  have hw := fun d (hd : d ∈ tables_1) => atoms_spec (ws := Jvm.Cond.code x code maxLocals ret :: tables_1) hat d (List.mem_cons_of_mem _ hd)
  obtain ⟨i0, e0⟩ := is_v k0
  obtain rfl : w0 = (.int i0) := Option.some.inj e0
  obtain ⟨i1, e1⟩ := is_v k1
  obtain rfl : w1 = (.int i1) := Option.some.inj e1
  obtain ⟨i2, e2⟩ := is_v k2
  obtain rfl : w2 = (.int i2) := Option.some.inj e2
  obtain ⟨i3, e3⟩ := is_v k3
  obtain rfl : w3 = (.int i3) := Option.some.inj e3
  obtain ⟨i4, e4⟩ := is_v r4
  obtain rfl : w4 = (.int i4) := Option.some.inj e4
  obtain ⟨ok, val⟩ := own_law i0 i1 i2 i3 i4
  obtain ⟨n, o, h1, h2, h3, _, L, rfl, ⟨rfl, N⟩, hq⟩ := rm0 l s _ hw i0 i1 i2 i3 i4 s.heap s.heap.size (Nat.le_refl _) ok p e ha hc hk s m _ below hf ((Spec.applies_iff_loose hf).mp happ).1 ⟨rfl, State.Warmed39.refl s, rfl⟩ trivial
  refine ⟨n, _, h1, h2, h3, hpost _ _ _ _ _ _ ⟨Cond.after_iff.mpr rfl, Cond.after_iff.mpr (eq_i res_at (Term.int_eval (1)) (by rw [val])), trivial⟩ ⟨hq.1, hq.2.1, (hq.2.2.sift fun y hy => Or.inr (N y hy)).mono (by decide) (by decide)⟩⟩
theorem main_1_1 : Claimed_1_1 := comes_1 fun _ _ _ _ _ _ h hF => ⟨h.1, hF⟩
theorem main_1_2 : Claimed_1_2 := comes_1 fun _ _ _ _ _ _ h hF => ⟨h.2.1, hF⟩
end Jvm.Pilot.@@N@@
namespace Jvm.Pilot.@@N@@
open Jvm Jvm.ClassFile Sem Op Lib Jvm.Free Jvm.Stand Jvm.Pilot.@@N@@.Jvm.D
/-! MADE BY PROGRAM (witnessworld.py) out of the Statement's table words and the real class files: 10 classes; the members and pool entries that the words name. The judged class is class 1, her method 1. -/
namespace start1
open Jvm.ClassFile
def u (s : String) : CpInfo := .utf8 (stringToUtf16 s)
/-- a pool by its gaps: so many unusable entries, then the entry; so many at the end -/
def gap : Nat → List CpInfo → List CpInfo
  | 0, r => r
  | n + 1, r => .unusable :: gap n r
def poolList (es : List (Nat × CpInfo)) (last : Nat) : List CpInfo := es.foldr (fun e r => gap e.1 (e.2 :: r)) (gap last [])
def pool (es : List (Nat × CpInfo)) (last : Nat) : Array CpInfo := ⟨poolList es last⟩
def fileOf (pool : Array CpInfo) (this : Nat) (attrs : Array Attribute := #[]) (ms : Array MethodInfo := #[]) (fl : Nat := 33) (sup : Nat := 0) (ifs : Array Nat := #[]) (fds : Array FieldInfo := #[]) : ClassFile where
  minorVersion := 0
  majorVersion := 65
  constantPool := pool
  accessFlags := fl
  thisClass := this
  superClass := sup
  interfaces := ifs
  fields := fds
  methods := ms
  attributes := attrs
def plain (name : String) (sup : Option ClassId) : Class where
  name := name
  kind := .ordinary
  loader := none
  accessFlags := 33
  super := sup
  interfaces := #[]
  cf := none
  fields := #[]
  methods := #[]
  instanceTypes := #[]
  staticTypes := #[]
  resolved := #[]
  callSites := []
  init := .initialized
  statics := none
  mirror := none

def pool0 : Array CpInfo := pool [(5, u "<init>"), (0, u "()V"), (1, .class_ 10), (1, u "java/lang/Object")] 113

def k0c0 : Code := { maxStack := 0, maxLocals := 1, code := object_method_1_code, exceptionTable := #[], attributes := #[] }
def k0m0 : Method := { name := "<init>", desc := "()V", sig := { parameters := [], returnType := none }, accessFlags := 1, code := some k0c0 }
/-- java/lang/Object -/
def k0 : Class := { plain "java/lang/Object" none with
  accessFlags := 33
  interfaces := #[]
  cf := some (fileOf pool0 8 #[] #[{ accessFlags := 1, nameIndex := 5, descriptorIndex := 6, attributes := #[] }] 33 0 #[] #[])
  fields := #[]
  methods := #[k0m0]
  instanceTypes := #[]
  staticTypes := #[]
  resolved := Array.replicate 124 none
  statics := none }

def pool1 : Array CpInfo := pool [(2, .class_ 4), (1, u "java/lang/Object"), (0, u "<init>"), (0, u "()V"), (0, .integer 65535), (0, .class_ 9), (0, u "com/example/holywell/holywell/pds/Head"), (0, .methodref 8 11), (0, .nameAndType 5 12), (0, u "(II)V"), (0, .integer 2654435769), (0, .methodref 8 15), (0, .nameAndType 16 17), (0, u "hashCode"), (0, u "()I"), (0, .integer 65536), (0, .class_ 20), (0, u "com/example/holywell/holywell/pds/HeadHashCodePinLaw"), (2, u "law"), (0, u "(IIIII)Z")] 3

def k1m0 : Method := { name := "<init>", desc := "()V", sig := { parameters := [], returnType := none }, accessFlags := 1, code := none }
def k1c1 : Code := { maxStack := 4, maxLocals := 18, code := code, exceptionTable := #[], attributes := #[] }
def k1m1 : Method := { name := "law", desc := "(IIIII)Z", sig := { parameters := [.int, .int, .int, .int, .int], returnType := some .boolean }, accessFlags := 9, code := some k1c1 }
/-- com/example/holywell/holywell/pds/HeadHashCodePinLaw -/
def k1 : Class := { plain "com/example/holywell/holywell/pds/HeadHashCodePinLaw" (some 0) with
  accessFlags := 49
  interfaces := #[]
  cf := some (fileOf pool1 19 #[] #[{ accessFlags := 1, nameIndex := 5, descriptorIndex := 6, attributes := #[] }, { accessFlags := 9, nameIndex := 23, descriptorIndex := 24, attributes := #[] }] 49 2 #[] #[])
  fields := #[]
  methods := #[k1m0, k1m1]
  instanceTypes := #[]
  staticTypes := #[]
  resolved := Array.replicate 28 none
  statics := none }

def pool2 : Array CpInfo := pool [(1, .methodref 2 3), (0, .class_ 4), (0, .nameAndType 5 6), (0, u "java/lang/Object"), (0, u "<init>"), (0, u "()V"), (0, .class_ 8), (0, u "java/lang/Record")] 13

def k2c0 : Code := { maxStack := 1, maxLocals := 1, code := jdk_30_method_1_code, exceptionTable := #[], attributes := #[] }
def k2m0 : Method := { name := "<init>", desc := "()V", sig := { parameters := [], returnType := none }, accessFlags := 4, code := some k2c0 }
/-- java/lang/Record -/
def k2 : Class := { plain "java/lang/Record" (some 0) with
  accessFlags := 1057
  interfaces := #[]
  cf := some (fileOf pool2 7 #[] #[{ accessFlags := 4, nameIndex := 5, descriptorIndex := 6, attributes := #[] }] 1057 2 #[] #[])
  fields := #[]
  methods := #[k2m0]
  instanceTypes := #[]
  staticTypes := #[]
  resolved := Array.replicate 22 none
  statics := none }

def pool3 : Array CpInfo := pool [(1, .methodref 2 3), (0, .class_ 4), (0, .nameAndType 5 6), (0, u "java/lang/Record"), (0, u "<init>"), (0, u "()V"), (11, .fieldref 19 20), (0, .class_ 21), (0, .nameAndType 22 23), (0, u "com/example/holywell/holywell/pds/Head"), (0, u "state"), (0, u "I"), (0, .fieldref 19 25), (0, .nameAndType 26 23), (0, u "top"), (0, .integer 2654435769), (8, u "(II)V"), (4, u "hashCode"), (0, u "()I")] 31

def k3c0 : Code := { maxStack := 4, maxLocals := 3, code := prog_48_method_1_code, exceptionTable := #[], attributes := #[] }
def k3m0 : Method := { name := "<init>", desc := "(II)V", sig := { parameters := [.int, .int], returnType := none }, accessFlags := 1, code := some k3c0 }
def k3c1 : Code := { maxStack := 3, maxLocals := 1, code := prog_48_method_2_code, exceptionTable := #[], attributes := #[] }
def k3m1 : Method := { name := "hashCode", desc := "()I", sig := { parameters := [], returnType := some .int }, accessFlags := 1, code := some k3c1 }
/-- com/example/holywell/holywell/pds/Head -/
def k3 : Class := { plain "com/example/holywell/holywell/pds/Head" (some 2) with
  accessFlags := 49
  interfaces := #[]
  cf := some (fileOf pool3 19 #[] #[{ accessFlags := 1, nameIndex := 5, descriptorIndex := 36, attributes := #[] }, { accessFlags := 1, nameIndex := 41, descriptorIndex := 42, attributes := #[] }] 49 2 #[] #[{ accessFlags := 18, nameIndex := 22, descriptorIndex := 23, attributes := #[] }, { accessFlags := 18, nameIndex := 26, descriptorIndex := 23, attributes := #[] }])
  fields := #[{ name := "state", type := .int, accessFlags := 18, slot := 0, constantValue := 0 }, { name := "top", type := .int, accessFlags := 18, slot := 1, constantValue := 0 }]
  methods := #[k3m0, k3m1]
  instanceTypes := #[.int, .int]
  staticTypes := #[]
  resolved := Array.replicate 74 none
  statics := none }

def pool4 : Array CpInfo := pool [(1, u "java/lang/Cloneable"), (0, .class_ 1), (0, u "java/lang/Object"), (0, .class_ 3)] 3

/-- java/lang/Cloneable -/
def k4 : Class := { plain "java/lang/Cloneable" (some 0) with
  accessFlags := 1537
  interfaces := #[]
  cf := some (fileOf pool4 2 #[] #[] 1537 4 #[] #[])
  fields := #[]
  methods := #[]
  instanceTypes := #[]
  staticTypes := #[]
  resolved := Array.replicate 8 none
  statics := none }

def pool5 : Array CpInfo := pool [(1, u "java/io/Serializable"), (0, .class_ 1), (0, u "java/lang/Object"), (0, .class_ 3)] 3

/-- java/io/Serializable -/
def k5 : Class := { plain "java/io/Serializable" (some 0) with
  accessFlags := 1537
  interfaces := #[]
  cf := some (fileOf pool5 2 #[] #[] 1537 4 #[] #[])
  fields := #[]
  methods := #[]
  instanceTypes := #[]
  staticTypes := #[]
  resolved := Array.replicate 8 none
  statics := none }

/-- the primitive byte -/
def k6 : Class := { plain "byte" none with kind := .primitive 'B', accessFlags := 0x411 }
/-- [B -/
def k7 : Class := { plain "[B" (some 0) with kind := .array 6 .byte, interfaces := #[4, 5], accessFlags := 1041 }

/-- the primitive int -/
def k8 : Class := { plain "int" none with kind := .primitive 'I', accessFlags := 0x411 }
/-- [I -/
def k9 : Class := { plain "[I" (some 0) with kind := .array 8 .int, interfaces := #[4, 5], accessFlags := 1041 }

def heap : Heap := #[]
def classes : Array Class := #[k0, k1, k2, k3, k4, k5, k6, k7, k8, k9]
def interned : List (Array UInt16 × Addr) := []
def slotsUsed : Nat := 0
def theMethod : MethodId := ⟨1, 1⟩
def args0 : Array Value := #[.int 5, .int 7, .int 3, .int 2, .int 9]
def aboutOver (below : List Frame) : State where
  vm := { classes := classes, interned := interned.toArray }
  heap := heap
  slotsUsed := slotsUsed
  threads := #[{ frames := .invoking theMethod args0 :: below }]
def below0 : List Frame := [.native { method := ⟨0, 0⟩, args := #[] }]
def about1 : State := aboutOver below0
def p0 : Program := .bare "" "" ""
def e0 : Env := launch0.env 0 0 0
theorem w_frames : about1.frames = Frame.invoking theMethod args0 :: below0 := rfl
set_option maxRecDepth 65536 in
theorem w_args : argsFit about1.vm theMethod args0 = true := by decide +kernel
set_option maxRecDepth 65536 in
theorem w_heap : heapFits about1 = true := by decide +kernel
set_option maxRecDepth 65536 in
theorem w_runnable : about1.curStatus? = some .runnable := by decide +kernel
set_option maxRecDepth 65536 in
theorem w_alone : about1.alone = true := by decide +kernel
set_option maxRecDepth 65536 in
theorem w_named : about1.methodNamed? x = some theMethod := by decide +kernel
set_option maxRecDepth 65536 in
theorem w_hears : about1.hears theMethod below0 = true := by decide +kernel
set_option maxRecDepth 65536 in
theorem w_ripe : about1.ripe theMethod args0 below0 = true := by decide +kernel
theorem w_running : about1.status = .running := rfl
set_option maxRecDepth 65536 in
theorem w_room : about1.hasRoom e0.platform room_1 = true :=
  launch0.hasRoom_least _ room_1 (by decide +kernel) (by decide +kernel) (by decide +kernel) (by decide +kernel) (by decide +kernel) (by decide +kernel)
theorem allAtoms_all (ts : List Jvm.Cond) (a : Array Jvm.Value) (st : Jvm.State) : (allAtoms ts).before a st = ts.all (fun c => c.before a st) := by
  induction ts with
  | nil => rfl
  | cons c t ih =>
    show (Jvm.Cond.and c (allAtoms t)).before a st = _
    rw [Jvm.Cond.before_and, ih, List.all_cons]
def words1 : List Jvm.Cond := Jvm.Cond.code x code maxLocals ret :: tables_1
/-- a 'code' word, met by the world's own term for the bytes: nothing is compared byte by byte -/
theorem code_word {y : MethodName} {bytes : ByteArray} {mx : Nat} {rt : Option FieldType} {a : Array Value} {s : State} {m : MethodId} {meth : Method} {c : Code} (h1 : s.methodNamed? y = some m) (h2 : s.vm.method? m = some meth) (h3 : meth.code = some c) (h4 : c.code = bytes)
    (h5 : (c.maxLocals == mx && c.exceptionTable.isEmpty && decide (c.maxStack ≤ mostOperands) && decide (meth.sig.returnType = rt) && !meth.locks && decide (parseMethodDescriptor y.desc = some meth.sig)) = true) : (Jvm.Cond.code y bytes mx rt).before a s = true := by
  simp only [Bool.and_eq_true, beq_iff_eq, Bool.not_eq_true', decide_eq_true_eq] at h5
  obtain ⟨⟨⟨⟨⟨g1, g2⟩, g3⟩, g4⟩, g5⟩, g6⟩ := h5
  simp [Cond.before, Cond.holds, Cond.value, h1, h2, h3, h4, g1, g2, g3, g4, g5, g6]
def isCode : Jvm.Cond → Bool
  | .code _ _ _ _ => true
  | _ => false
theorem all_split {L : List Jvm.Cond} {P : Jvm.Cond → Bool} (h1 : L.all (fun c => isCode c || P c) = true) (h2 : ∀ c ∈ L.filter isCode, P c = true) : L.all P = true := by
  refine List.all_eq_true.mpr fun c hc => ?_
  have h := List.all_eq_true.mp h1 c hc
  rcases Bool.eq_false_or_eq_true (isCode c) with hi | hi
  · exact h2 c (List.mem_filter.mpr ⟨hc, hi⟩)
  · simpa [hi] using h
set_option maxRecDepth 65536 in
theorem w_c0 : (Jvm.Cond.code x code maxLocals ret).before args0 about1 = true := code_word (m := ⟨1, 1⟩) (meth := k1m1) (c := k1c1) (by decide +kernel) rfl rfl rfl (by decide +kernel)
set_option maxRecDepth 65536 in
theorem w_c1 : (Jvm.Cond.code ({ cls := "com/example/holywell/holywell/pds/Head", name := "<init>", desc := "(II)V" } : Jvm.MethodName) prog_48_method_1_code (3 : Nat) (Option.none : Option Jvm.ClassFile.FieldType)).before args0 about1 = true := code_word (m := ⟨3, 0⟩) (meth := k3m0) (c := k3c0) (by decide +kernel) rfl rfl rfl (by decide +kernel)
set_option maxRecDepth 65536 in
theorem w_c2 : (Jvm.Cond.code ({ cls := "java/lang/Record", name := "<init>", desc := "()V" } : Jvm.MethodName) jdk_30_method_1_code (1 : Nat) (Option.none : Option Jvm.ClassFile.FieldType)).before args0 about1 = true := code_word (m := ⟨2, 0⟩) (meth := k2m0) (c := k2c0) (by decide +kernel) rfl rfl rfl (by decide +kernel)
set_option maxRecDepth 65536 in
theorem w_c3 : (Jvm.Cond.code ({ cls := "java/lang/Object", name := "<init>", desc := "()V" } : Jvm.MethodName) object_method_1_code (1 : Nat) (Option.none : Option Jvm.ClassFile.FieldType)).before args0 about1 = true := code_word (m := ⟨0, 0⟩) (meth := k0m0) (c := k0c0) (by decide +kernel) rfl rfl rfl (by decide +kernel)
set_option maxRecDepth 65536 in
theorem w_c4 : (Jvm.Cond.code ({ cls := "com/example/holywell/holywell/pds/Head", name := "hashCode", desc := "()I" } : Jvm.MethodName) prog_48_method_2_code (1 : Nat) (Option.some Jvm.ClassFile.FieldType.int)).before args0 about1 = true := code_word (m := ⟨3, 1⟩) (meth := k3m1) (c := k3c1) (by decide +kernel) rfl rfl rfl (by decide +kernel)
def codes1 : List Jvm.Cond := [Jvm.Cond.code x code maxLocals ret, Jvm.Cond.code ({ cls := "com/example/holywell/holywell/pds/Head", name := "<init>", desc := "(II)V" } : Jvm.MethodName) prog_48_method_1_code (3 : Nat) (Option.none : Option Jvm.ClassFile.FieldType), Jvm.Cond.code ({ cls := "java/lang/Record", name := "<init>", desc := "()V" } : Jvm.MethodName) jdk_30_method_1_code (1 : Nat) (Option.none : Option Jvm.ClassFile.FieldType), Jvm.Cond.code ({ cls := "java/lang/Object", name := "<init>", desc := "()V" } : Jvm.MethodName) object_method_1_code (1 : Nat) (Option.none : Option Jvm.ClassFile.FieldType), Jvm.Cond.code ({ cls := "com/example/holywell/holywell/pds/Head", name := "hashCode", desc := "()I" } : Jvm.MethodName) prog_48_method_2_code (1 : Nat) (Option.some Jvm.ClassFile.FieldType.int)]
set_option maxRecDepth 65536 in
theorem codes_eq : words1.filter isCode = codes1 := rfl
theorem w_codes : ∀ c ∈ words1.filter isCode, c.before args0 about1 = true := by
  rw [codes_eq]
  intro c hc
  simp only [codes1, List.mem_cons, List.not_mem_nil, or_false] at hc
  rcases hc with rfl | rfl | rfl | rfl | rfl
  · exact w_c0
  · exact w_c1
  · exact w_c2
  · exact w_c3
  · exact w_c4
set_option maxRecDepth 65536 in
theorem w_t1 : (words1.take 24).all (fun c => isCode c || c.before args0 about1) = true := by decide +kernel
set_option maxRecDepth 65536 in
theorem w_t2 : (words1.drop 24).all (fun c => isCode c || c.before args0 about1) = true := by decide +kernel
theorem w_tables : (allAtoms (Jvm.Cond.code x code maxLocals ret :: tables_1)).before args0 about1 = true := by
  rw [allAtoms_all]
  show words1.all (fun c => c.before args0 about1) = true
  refine all_split ?_ w_codes
  rw [← List.take_append_drop 24 words1, List.all_append, w_t1, w_t2]
  rfl
set_option maxRecDepth 65536 in
theorem w_case : (Jvm.Cond.and given_1 narrow_1).before args0 about1 = true := by decide +kernel
theorem w_applies : (headSpec (Jvm.Cond.code x code maxLocals ret :: tables_1) room_1).applies x e0.platform about1 = true :=
  (Spec.applies_iff w_frames).mpr ⟨w_running, w_runnable, w_alone, w_named, w_hears, w_ripe, w_room, w_tables⟩
theorem atStart : AtStart classFile x code maxLocals ret World_1 tables_1 room_1 Calls_1 rest_1 Pre_1 launch0 p0 e0 about1 theMethod args0 below0 :=
  ⟨lists_1, trivial, launch0.admits_env _ _ _, launch0.least_env, fairChoices_fair.cas, fairChoices_fair.clock, w_frames, w_args, w_heap, w_applies, trivial, trivial, w_case⟩
end start1
theorem witness_1 : WitnessClaimed_1 := ⟨start1.p0, start1.e0, start1.about1, start1.theMethod, start1.args0, start1.below0, start1.atStart⟩
end Jvm.Pilot.@@N@@
