import JvmDerived
import JvmDerived.Pilot.@@N@@Statement
import JvmDerived.Pilot.@@N@@Code
set_option linter.unusedVariables false
set_option linter.unusedSimpArgs false
namespace Jvm.RoadKit
open Sem ClassFile Op Lib Jvm.Stand Jvm.Free Jvm.LawKit
section New
variable {p : Program} {l : Launch} {e : Env} {R : Room} {s : State} {m : MethodId} {args : Array Value} {below : List Frame} {meth : Method} {c : Code} {T : State} {locs : List Loc} {cells slots : Nat}
theorem retI (X : Stand p l e R s m args below meth c T locs cells slots) (hx : p.tables.exec = Jvm.exec) {pc : Nat} {Ls : Array Slot} {z : Int32} {rest : List Value} (hret : meth.sig.returnType = some .int) (hd : decode c.code pc = .ok (.ireturn, 1)) {fs : List Frame}
    (hl : ∀ (f : JFrame) (acts : List Action), f.method = m → f.locked = none → f.entered = [] → (doReturn e (T.setTop f) acts (some (.int z))).1 = T.setFrames fs) : Steps p.tables e below (T.setTop (mkF m pc Ls (.int z :: rest))) (T.setFrames fs) := by
  have hm' : T.vm.method? m = some meth := X.method'
  have hn : narrow .int (.int z) = .int z := rfl
  show Steps p.tables e below (T.setTop { method := m, pc := pc, locals := Ls, stack := _ :: rest, locked := none }) _
  jvm_step X.here [X.here.top, hx, hd, hm', hret, hn]
  first | (intro acts; rw [hl _ acts rfl rfl rfl]) | rw [hl _ _ rfl rfl rfl]
  exact Steps.refl _
end New
end Jvm.RoadKit
namespace Jvm.Pilot.@@N@@
open Jvm Jvm.ClassFile Sem Op Lib Jvm.Free Jvm.Stand Jvm.LawKit Jvm.RoadKit Bundle Jvm.Pilot.@@N@@.Jvm.D
/-! ### the frame of this text: 'Ends': the run from u ends in a return that Q says -/
section OwnFrame
variable {p : Program} {l : Launch} {e : Env} {R : Room} {s : State} {m : MethodId} {args : Array Value} {below : List Frame} {meth : Method} {c : Code} {T : State} {locs : List Loc} {cells slots cs ss : Nat} {Z : State} {a0 : Array Value} {h h' : Heap} {Q : Option Value → Heap → List Loc → Prop} {u u' : State}
def Ends (p : Program) (e : Env) (below : List Frame) (s : State) (cs ss : Nat) (Q : Option Value → Heap → List Loc → Prop) (u : State) : Prop :=
  ∃ t v L, Steps p.tables e below u t ∧ t.status = .running ∧ Ended t below (.returned v) ∧ Q v t.heap L ∧ s.WarmedH t.vm ∧ s.sameButNew ({ t with vm := s.vm } : State) L cs ss
theorem Ends.step (h : Ends p e below s cs ss Q u') (k : ∀ t, Steps p.tables e below u' t → Steps p.tables e below u t) : Ends p e below s cs ss Q u := by
  obtain ⟨t, v, L, h1, r⟩ := h; exact ⟨t, v, L, k t h1, r⟩
theorem Ends.ret (X : Stand p l e R s m args below meth c T locs cells slots) {v : Option Value} (hv : meth.sig.returnType = none → v = none) (hlk : meth.locks = false)
    (k : ∀ fs, (∀ (f : JFrame) (acts : List Action), f.method = m → f.locked = none → f.entered = [] → (doReturn e (T.setTop f) acts v).1 = T.setFrames fs) → Steps p.tables e below u (T.setFrames fs))
    (hc : cells ≤ cs) (hs : slots ≤ ss) (hq : Q v T.heap locs) : Ends p e below s cs ss Q u := by
  obtain ⟨fs, hr, hrun, hended, hW, hsame⟩ := X.leave (v := v) hv hlk
  exact ⟨T.setFrames fs, v, locs, k fs hr, hrun, hended, hq, hW, hsame.mono hc hs⟩
/-- what a body promises -/
abbrev Meets (l : Launch) (Z : State) (y : MethodName) (bytes : ByteArray) (maxL : Nat) (ret : Option FieldType) (ws : List Jvm.Cond) (rm : Room) (as' : Array Value) (h : Heap) (Q : Option Value → Heap → List Loc → Prop) (cs ss : Nat) : Prop :=
  MetFree l y (head1 (Jvm.Cond.code y bytes maxL ret :: ws) rm) (fun a U => a = as' ∧ Z.Warmed39 U.vm ∧ U.heap = h) (fun _ _ _ _ _ => True) (fun _ U o U' => ∃ v L, o = .returned v ∧ Q v U'.heap L ∧ FrameEnd U o U' L cs ss)
theorem Meets.of {y : MethodName} {bytes : ByteArray} {maxL : Nat} {ret : Option FieldType} {ws : List Jvm.Cond} {rm : Room} {as' : Array Value} (pn : plainFor y = true)
    (k : ∀ (p : Program) (e : Env) (s : State) (m : MethodId) (below : List Frame) (meth : Method) (c : Code) (s₁ : State), p.tables.exec = Jvm.exec → c.code = bytes → c.maxLocals = maxL → Z.Warmed39 s.vm → s.vm.findClass y.cls = some m.cls → meth.name = y.name → meth.sig.returnType = ret → meth.locks = false →
      Stand p l e rm s m as' below meth c s₁ [] 0 0 → s₁.heap = h → Ends p e below s cs ss Q (s₁.setTop (entryFrame m as' maxL))) : Meets l Z y bytes maxL ret ws rm as' h Q cs ss := by
  refine MetFree.of_bodySF pn hisR ?_
  intro p e s m args below meth c s₁ Bd hml0 hP hK
  obtain ⟨rfl, hZ, hh⟩ := hP
  obtain ⟨t, v, L, h1, h2, h3, h4, h5, h6⟩ := k p e s m below meth c s₁ Bd.exec Bd.bytes hml0 hZ (findClass_of_methodNamed Bd.named) (name_of_methodNamed Bd.named Bd.method).1 Bd.returns (BodyLoose.notSynchronized Bd) (Stand.of_body Bd) (by rw [← hh, Bd.state]; rfl)
  exact ⟨t, .returned v, h1, h2, h3, v, L, rfl, h4, ⟨_, rfl⟩, h5, h6⟩
theorem Ends.callS (X : Stand p l e R s m args below meth c T locs cells slots) (hx : p.tables.exec = Jvm.exec) (hZ : Z.Warmed39 s.vm) {own : String} {index : Nat} {y : MethodName} {bytes : ByteArray} {maxL : Nat} {ret : Option FieldType}
    (hown : s.vm.findClass own = some m.cls) (w1 : (Jvm.Cond.methodLink own index y).before a0 Z = true) (w2 : (Jvm.Cond.static y).before a0 Z = true) (w3 : (Jvm.Cond.initialized y.cls).before a0 Z = true) (w4 : (Jvm.Cond.code y bytes maxL ret).before a0 Z = true)
    (hy : y.cls ≠ "java/lang/invoke/MethodHandle" ∧ y.cls ≠ "java/lang/invoke/VarHandle") {rm : Room} {as' : Array Value} {Q' : Option Value → Heap → List Loc → Prop} (hM : Meets l Z y bytes maxL ret [] rm as' h Q' rm.cells rm.slots)
    (W : Nat) (hf : rm.frames + 1 ≤ R.frames) (hl : W + (maxL + 11) + rm.locals ≤ R.locals) (eT : T.heap = h) {g : JFrame} (hg : g.method = m) (hsize : g.locals.size = c.maxLocals) (argsL rest : List Value)
    (hlen : ∀ sig, parseMethodDescriptor y.desc = some sig → argsL.length = sig.parameters.length) (hstack : g.stack = argsL.reverse ++ rest) (hW : 2 * g.monitorRoom + (rest.map fun v => v.category).sum ≤ W) (hdg : decode c.code g.pc = .ok (.invokestatic index, 3))
    (ha : argsL.toArray = as') (hc : cells + rm.cells ≤ R.cells) (hs : slots + rm.slots ≤ R.slots)
    (k : ∀ v T' L, Stand p l e R s m args below meth c T' (locs ++ L) (cells + rm.cells) (slots + rm.slots) → Q' v T'.heap L → Ends p e below s cs ss Q (T'.setTop { g with pc := g.pc + 3, stack := v.toList ++ rest })) : Ends p e below s cs ss Q (T.setTop g) := by
  obtain ⟨v, _, ⟨T', L', k', n'⟩, -, X', ⟨Lc, hQ, rfl, rfl, rfl⟩, st⟩ := Jvm.LawKit.callS X hx (y := y) hown (mvT hZ w1) (mvT hZ w2) (mvT hZ w3) (mvT hZ w4) hy (backOf (W := W) hM hZ w4 w3 hf hl) hg hsize (argsL := argsL) (rest := rest) hlen hstack hW hdg (fun _ _ => ⟨ha, eT, hc, hs⟩)
  exact (k v T' Lc X' hQ).step st
theorem Ends.callC (X : Stand p l e R s m args below meth c T locs cells slots) (hx : p.tables.exec = Jvm.exec) (hZ : Z.Warmed39 s.vm) {own : String} {index : Nat} {y : MethodName} {bytes : ByteArray} {maxL : Nat} (hy1 : y.name = "<init>")
    (hown : s.vm.findClass own = some m.cls) (w1 : (Jvm.Cond.methodLink own index y).before a0 Z = true) (w2 : (Jvm.Cond.instanceMethod y).before a0 Z = true) (w3 : (Jvm.Cond.initialized y.cls).before a0 Z = true) (w4 : (Jvm.Cond.code y bytes maxL none).before a0 Z = true)
    (hy : y.cls ≠ "java/lang/invoke/MethodHandle" ∧ y.cls ≠ "java/lang/invoke/VarHandle") {rm : Room} {as' : Array Value} {Q' : Option Value → Heap → List Loc → Prop} (hM : Meets l Z y bytes maxL none [] rm as' h Q' rm.cells rm.slots)
    (W : Nat) (hf : rm.frames + 1 ≤ R.frames) (hl : W + (maxL + 11) + rm.locals ≤ R.locals) (eT : T.heap = h) {g : JFrame} (hg : g.method = m) (hsize : g.locals.size = c.maxLocals) (a : Addr) (argsL rest : List Value)
    (hlen : ∀ sig, parseMethodDescriptor y.desc = some sig → argsL.length = sig.parameters.length) (hstack : g.stack = argsL.reverse ++ .ref a :: rest) (hW : 2 * g.monitorRoom + (rest.map fun v => v.category).sum ≤ W) (hdg : decode c.code g.pc = .ok (.invokespecial index, 3))
    (ha : (.ref a :: argsL).toArray = as') (hc : cells + rm.cells ≤ R.cells) (hs : slots + rm.slots ≤ R.slots)
    (k : ∀ v T' L, Stand p l e R s m args below meth c T' (locs ++ L) (cells + rm.cells) (slots + rm.slots) → Q' v T'.heap L → Ends p e below s cs ss Q (T'.setTop { g with pc := g.pc + 3, stack := v.toList ++ rest })) : Ends p e below s cs ss Q (T.setTop g) := by
  obtain ⟨v, _, ⟨T', L', k', n'⟩, -, X', ⟨Lc, hQ, rfl, rfl, rfl⟩, st⟩ := X.specialBack hx (y := y) hy1 hown (mvT hZ w1) (mvT hZ w2) (mvT hZ w4) hy (backOf (W := W) hM hZ w4 w3 hf hl) hg hsize (Steps.refl _) (a := a) (argsL := argsL) (rest := rest) hlen hstack hW hdg (fun _ _ => ⟨ha, eT, hc, hs⟩)
  exact (k v T' Lc X' hQ).step (fun _ q => st.trans q)
theorem Ends.callV (X : Stand p l e R s m args below meth c T locs cells slots) (hx : p.tables.exec = Jvm.exec) (hZ : Z.Warmed39 s.vm) {own C : String} {index : Nat} {y : MethodName} {bytes : ByteArray} {maxL : Nat} {ret : Option FieldType}
    (hown : s.vm.findClass own = some m.cls) (w1 : (Jvm.Cond.methodLink own index y).before a0 Z = true) (wd : (Jvm.Cond.declares y).before a0 Z = true) (wsel : (Jvm.Cond.selects C y y).before a0 Z = true) (w2 : (Jvm.Cond.instanceMethod y).before a0 Z = true) (w3 : (Jvm.Cond.initialized y.cls).before a0 Z = true) (w4 : (Jvm.Cond.code y bytes maxL ret).before a0 Z = true)
    (hy : y.cls ≠ "java/lang/invoke/MethodHandle" ∧ y.cls ≠ "java/lang/invoke/VarHandle") {rm : Room} {as' : Array Value} {Q' : Option Value → Heap → List Loc → Prop} (hM : Meets l Z y bytes maxL ret [] rm as' h Q' rm.cells rm.slots)
    (W : Nat) (hf : rm.frames + 1 ≤ R.frames) (hl : W + (maxL + 11) + rm.locals ≤ R.locals) (eT : T.heap = h) (a : Addr) (E : Exa Z h a C) {g : JFrame} (hg : g.method = m) (hsize : g.locals.size = c.maxLocals) (argsL rest : List Value)
    (hlen : ∀ sig, parseMethodDescriptor y.desc = some sig → argsL.length = sig.parameters.length) (hstack : g.stack = argsL.reverse ++ .ref a :: rest) (hW : 2 * g.monitorRoom + (rest.map fun v => v.category).sum ≤ W) (hdg : decode c.code g.pc = .ok (.invokevirtual index, 3))
    (ha : (.ref a :: argsL).toArray = as') (hc : cells + rm.cells ≤ R.cells) (hs : slots + rm.slots ≤ R.slots)
    (k : ∀ v T' L, Stand p l e R s m args below meth c T' (locs ++ L) (cells + rm.cells) (slots + rm.slots) → Q' v T'.heap L → Ends p e below s cs ss Q (T'.setTop { g with pc := g.pc + 3, stack := v.toList ++ rest })) : Ends p e below s cs ss Q (T.setTop g) := by
  obtain ⟨cq, kq, q1, q2, q3⟩ := isOf (T := T) hZ eT E
  obtain ⟨v, _, ⟨T', L', k', n'⟩, -, X', ⟨Lc, hQ, rfl, rfl, rfl⟩, st⟩ := X.virtualBack hx (y := y) (z := y) hown (mvT hZ w1) (mvT hZ wd) (notFace_of_selects (args := #[]) (mvT hZ wsel)) (mvT hZ wsel) (mvT hZ w2) hy (backOf (W := W) hM hZ w4 w3 hf hl) q1 q3 hg hsize (Steps.refl _) (argsL := argsL) (rest := rest) hlen hstack hW hdg (fun _ _ => ⟨ha, eT, hc, hs⟩)
  exact (k v T' Lc X' hQ).step (fun _ q => st.trans q)
/-! ### arrays of small numbers: what each place holds, as a function -/
def Ar (Z : State) (h : Heap) (a : Addr) (ty : FieldType) (n : Nat) (f : Nat → Int32) : Prop := ∃ cl : Cell, Arr Z h a cl ty ∧ cl.slots.size = n ∧ n < 2 ^ 31 ∧ ∀ i, i < n → cl.slots[i]? = some (.int (f i))
def upd (f : Nat → Int32) (j : Nat) (v : Int32) : Nat → Int32 := fun i => if i = j then v else f i
def inb (j : Int32) (n : Nat) : Prop := ¬ (j < 0 ∨ n ≤ j.toNatClampNeg)
variable {a b : Addr} {ty : FieldType} {n sl : Nat} {f : Nat → Int32} {v : Value} {wsA : List Addr}
theorem Ar.lt (A : Ar Z h a ty n f) : a < h.size := by obtain ⟨cl, A1, -⟩ := A; exact A1.lt
theorem Ar.ext (A : Ar Z h a ty n f) (E : Ext h h') : Ar Z h' a ty n f := by obtain ⟨cl, A1, r⟩ := A; exact ⟨cl, A1.ext E, r⟩
theorem Ar.other (A : Ar Z h b ty n f) (W : Wr h h' a sl v) (q : b ≠ a) : Ar Z h' b ty n f := by obtain ⟨cl, A1, r⟩ := A; exact ⟨cl, A1.other W q, r⟩
theorem Ar.keep (A : Ar Z h a ty n f) (K : Keep h h' wsA) (q : a ∉ wsA) : Ar Z h' a ty n f := by obtain ⟨cl, A1, r⟩ := A; exact ⟨cl, ⟨K.2.1 a cl A1.1 q, A1.2⟩, r⟩
theorem Ar.small (A : Ar Z h a ty n f) : n < 2 ^ 31 := by obtain ⟨cl, A1, -, r, -⟩ := A; exact r
theorem Ar.set {j : Int32} {x : Int32} (A : Ar Z h a ty n f) (W : Wr h h' a j.toNatClampNeg (.int x)) : Ar Z h' a ty n (upd f j.toNatClampNeg x) := by
  obtain ⟨cl, A1, r1, r2, r3⟩ := A
  refine ⟨_, A1.same W, by rw [sz_set]; exact r1, r2, fun i hi => ?_⟩
  by_cases q : i = j.toNatClampNeg
  · subst q; simp [Cell.setSlot, upd, r1, hi]
  · simp only [Cell.setSlot, upd, if_neg q]; rw [Array.getElem?_setIfInBounds_ne (fun z => q z.symm)]; exact r3 i hi
theorem Ar.new {cA : ClassId} {k : Int32} (A : Arr Z h a (newA cA ty k) ty) (q : ¬ k < 0) (hd : defaultValue ty = .int 0) : Ar Z h a ty k.toNatClampNeg (fun _ => 0) :=
  ⟨_, A, sz_new _ _ _, (back32 q).2, fun i hi => by simp [newA, hi, hd]⟩
theorem Ends.newA (X : Stand p l e R s m args below meth c T locs cells slots) (hx : p.tables.exec = Jvm.exec) (hZ : Z.Warmed39 s.vm) {aty : ArrayType} (w : (Jvm.Cond.arrayClass (newarray.typeOf aty)).before a0 Z = true) (eT : T.heap = h) {g : JFrame} (hg : g.method = m) (hd : decode c.code g.pc = .ok (.newarray aty, 2)) {k : Int32} {rest : List Value} (hs : g.stack = .int k :: rest)
    (hdf : defaultValue (newarray.typeOf aty) = .int 0) (hn : ¬ k < 0) (cap : Nat) (hcap : k.toNatClampNeg ≤ cap) (hb : cap * 8 ≤ 536870912) (hc : cells + 1 ≤ R.cells) (hl : slots + cap ≤ R.slots)
    (kk : ∀ T' h' a, Stand p l e R s m args below meth c T' locs (cells + 1) (slots + cap) → T'.heap = h' → Ext h h' → h.size = a → Ar Z h' a (newarray.typeOf aty) k.toNatClampNeg (fun _ => 0) → Ends p e below s cs ss Q (T'.setTop { g with pc := g.pc + 2, stack := .ref a :: rest })) : Ends p e below s cs ss Q (T.setTop g) := by
  obtain ⟨T', h', cA, X', e', E, A, st⟩ := newP X hx hZ w eT hg hd hs hn hcap hb hc hl
  exact (kk T' h' h.size X' e' E rfl (Ar.new A hn hdf)).step st
theorem Ends.iaload (X : Stand p l e R s m args below meth c T locs cells slots) (hx : p.tables.exec = Jvm.exec) (hZ : Z.Warmed39 s.vm) (eT : T.heap = h) (A : Ar Z h a .int n f) {j : Int32} (hj : inb j n) {g : JFrame} (hg : g.method = m) {rest : List Value} (hs : g.stack = .int j :: .ref a :: rest) (hd : decode c.code g.pc = .ok (.iaload, 1))
    (k : Ends p e below s cs ss Q (T.setTop { g with pc := g.pc + 1, stack := .int (f j.toNatClampNeg) :: rest })) : Ends p e below s cs ss Q (T.setTop g) := by
  obtain ⟨cl, A1, r1, -, r3⟩ := A
  subst r1
  exact k.step (X.iaload hx (by rw [eT]; exact A1.1) (State.isArrayOf_alike hZ.alike A1.2.1) A1.2.2 hj (r3 _ (Nat.lt_of_not_le fun q => hj (Or.inr q))) hg hs hd)
theorem Ends.baload (X : Stand p l e R s m args below meth c T locs cells slots) (hx : p.tables.exec = Jvm.exec) (hZ : Z.Warmed39 s.vm) (eT : T.heap = h) (A : Ar Z h a .byte n f) {j : Int32} (hj : inb j n) {g : JFrame} (hg : g.method = m) {rest : List Value} (hs : g.stack = .int j :: .ref a :: rest) (hd : decode c.code g.pc = .ok (.baload, 1))
    (k : Ends p e below s cs ss Q (T.setTop { g with pc := g.pc + 1, stack := .int (f j.toNatClampNeg) :: rest })) : Ends p e below s cs ss Q (T.setTop g) := by
  obtain ⟨cl, A1, r1, -, r3⟩ := A
  subst r1
  exact k.step (X.baloadBytes hx (by rw [eT]; exact A1.1) (State.isArrayOf_alike hZ.alike A1.2.1) A1.2.2 hj (r3 _ (Nat.lt_of_not_le fun q => hj (Or.inr q))) hg hs hd)
theorem Ends.arrlen (X : Stand p l e R s m args below meth c T locs cells slots) (hx : p.tables.exec = Jvm.exec) (hZ : Z.Warmed39 s.vm) (eT : T.heap = h) (A : Ar Z h a ty n f) {g : JFrame} (hg : g.method = m) {rest : List Value} (hs : g.stack = .ref a :: rest) (hd : decode c.code g.pc = .ok (.arraylength, 1))
    (k : Ends p e below s cs ss Q (T.setTop { g with pc := g.pc + 1, stack := .int (Nat.toInt32 n) :: rest })) : Ends p e below s cs ss Q (T.setTop g) := by
  obtain ⟨cl, A1, r1, -, r3⟩ := A
  subst r1
  exact k.step (X.arraylength hx (by rw [eT]; exact A1.1) (State.isArrayOf_alike hZ.alike A1.2.1) hg hs hd)
theorem Ends.iastore (X : Stand p l e R s m args below meth c T locs cells slots) (hx : p.tables.exec = Jvm.exec) (hZ : Z.Warmed39 s.vm) (eT : T.heap = h) (A : Ar Z h a .int n f) {j x : Int32} (hj : inb j n) {n0 : Nat} (N : Fr n0 locs) (ge : n0 ≤ a) {g : JFrame} (hg : g.method = m) {rest : List Value} (hs : g.stack = .int x :: .int j :: .ref a :: rest) (hd : decode c.code g.pc = .ok (.iastore, 1))
    (k : ∀ T' h' sl, Stand p l e R s m args below meth c T' (locs ++ [⟨a, sl⟩]) cells slots → T'.heap = h' → Fr n0 (locs ++ [⟨a, sl⟩]) → Wr h h' a sl (.int x) → Ar Z h' a .int n (upd f j.toNatClampNeg x) → Ends p e below s cs ss Q (T'.setTop { g with pc := g.pc + 1, stack := rest })) : Ends p e below s cs ss Q (T.setTop g) := by
  obtain ⟨cl, A1, r1, r2, r3⟩ := A
  obtain ⟨T', h', X', e', W, st⟩ := stI X hx hZ eT A1 (by rw [r1]; exact hj) hg hs hd
  exact (k T' h' _ X' e' (Fr.snoc X' N ge) W (Ar.set ⟨cl, A1, r1, r2, r3⟩ W)).step st
theorem Ends.bastore (X : Stand p l e R s m args below meth c T locs cells slots) (hx : p.tables.exec = Jvm.exec) (hZ : Z.Warmed39 s.vm) (eT : T.heap = h) (A : Ar Z h a .byte n f) {j x : Int32} (hj : inb j n) {n0 : Nat} (N : Fr n0 locs) (ge : n0 ≤ a) {g : JFrame} (hg : g.method = m) {rest : List Value} (hs : g.stack = .int x :: .int j :: .ref a :: rest) (hd : decode c.code g.pc = .ok (.bastore, 1))
    (k : ∀ T' h' sl, Stand p l e R s m args below meth c T' (locs ++ [⟨a, sl⟩]) cells slots → T'.heap = h' → Fr n0 (locs ++ [⟨a, sl⟩]) → Wr h h' a sl (.int (nar .byte x)) → Ar Z h' a .byte n (upd f j.toNatClampNeg (nar .byte x)) → Ends p e below s cs ss Q (T'.setTop { g with pc := g.pc + 1, stack := rest })) : Ends p e below s cs ss Q (T.setTop g) := by
  obtain ⟨cl, A1, r1, r2, r3⟩ := A
  obtain ⟨T', h', X', e', W, st⟩ := stB X hx hZ eT A1 (by rw [r1]; exact hj) hg hs hd
  exact (k T' h' _ X' e' (Fr.snoc X' N ge) W (Ar.set ⟨cl, A1, r1, r2, r3⟩ W)).step st
theorem Ends.getF (X : Stand p l e R s m args below meth c T locs cells slots) (hx : p.tables.exec = Jvm.exec) (hZ : Z.Warmed39 s.vm) {own O fn d : String} {index : Nat} (hown : s.vm.findClass own = some m.cls) (w : (Jvm.Cond.fieldLink own index O fn d).before a0 Z = true) (eT : T.heap = h) (F : Fld Z h a O fn d v) {g : JFrame} (hg : g.method = m) {rest : List Value} (hs : g.stack = .ref a :: rest) (hd : decode c.code g.pc = .ok (.getfield index, 3))
    (k : ∀ T', Stand p l e R s m args below meth c T' locs cells slots → T'.heap = h → Ends p e below s cs ss Q (T'.setTop { g with pc := g.pc + 3, stack := v :: rest })) : Ends p e below s cs ss Q (T.setTop g) := by
  obtain ⟨T', X', e', st⟩ := Jvm.RoadKit.getF X hx hZ hown (host := "") (Or.inl w) Via.refl eT F hg hs hd
  exact (k T' X' e').step st
theorem Ends.putF (X : Stand p l e R s m args below meth c T locs cells slots) (hx : p.tables.exec = Jvm.exec) (hZ : Z.Warmed39 s.vm) {own O fn d : String} {index kk : Nat} {tf : FieldType} {old : Value} (hown : s.vm.findClass own = some m.cls) (w : (Jvm.Cond.fieldLink own index O fn d).before a0 Z = true) (eT : T.heap = h) (F : Fld Z h a O fn d old) (E : Exa Z h a O) (L : (Jvm.Cond.lays O O fn d).before a0 Z = true ∨ ((Jvm.Cond.laysFinal O O fn d).before a0 Z = true ∧ own = O ∧ meth.name = "<init>")) (wi : (Jvm.Cond.instantiable O kk).before a0 Z = true)
    (hty : parseFieldDescriptor d = some tf) (hn : narrow tf v = v) (hf : fits tf v = true) {n0 : Nat} (N : Fr n0 locs) (ge : n0 ≤ a) {g : JFrame} (hg : g.method = m) {rest : List Value} (hs : g.stack = v :: .ref a :: rest) (hd : decode c.code g.pc = .ok (.putfield index, 3))
    (k : ∀ T' h', Stand p l e R s m args below meth c T' (locs ++ [⟨a, Jvm.RoadKit.slotOf Z O fn d⟩]) cells slots → T'.heap = h' → Fr n0 (locs ++ [⟨a, Jvm.RoadKit.slotOf Z O fn d⟩]) → Wr h h' a (Jvm.RoadKit.slotOf Z O fn d) v → Ends p e below s cs ss Q (T'.setTop { g with pc := g.pc + 3, stack := rest })) : Ends p e below s cs ss Q (T.setTop g) := by
  obtain ⟨T', h', X', e', W, st⟩ := Jvm.RoadKit.putF X hx hZ hown (host := "") (Or.inl w) Via.refl eT F E L wi hty hn hf hg hs hd
  exact (k T' h' X' e' (Fr.snoc X' N ge) W).step st
theorem Ends.newO (X : Stand p l e R s m args below meth c T locs cells slots) (hx : p.tables.exec = Jvm.exec) (hZ : Z.Warmed39 s.vm) {own C : String} {index k : Nat} (hown : s.vm.findClass own = some m.cls) (w : (Jvm.Cond.classLink own index C).before a0 Z = true) (wi : (Jvm.Cond.instantiable C k).before a0 Z = true) (wz : (Jvm.Cond.initialized C).before a0 Z = true) (eT : T.heap = h)
    {g : JFrame} (hg : g.method = m) (hd : decode c.code g.pc = .ok (.new index, 3)) (hc : cells + 1 ≤ R.cells) (hl : slots + k ≤ R.slots)
    (kk : ∀ T' h' a, Stand p l e R s m args below meth c T' locs (cells + 1) (slots + k) → T'.heap = h' → Ext h h' → h.size = a → Exa Z h' a C → (∀ {O nm d : String} {ty : FieldType}, Laid Z a0 C O nm d → parseFieldDescriptor d = some ty → Fld Z h' a O nm d (defaultValue ty)) → Ends p e below s cs ss Q (T'.setTop { g with pc := g.pc + 3, stack := .ref a :: g.stack })) : Ends p e below s cs ss Q (T.setTop g) := by
  obtain ⟨T', h', X', e', E, A, D, -, st⟩ := Jvm.RoadKit.newO X hx hZ hown w wi wz eT hg hd hc hl
  exact (kk T' h' _ X' e' E rfl A D).step st
theorem Ends.initO (X : Stand p l e R s m args below meth c T locs cells slots) (hx : p.tables.exec = Jvm.exec) (hZ : Z.Warmed39 s.vm) {own : String} {idx : Nat} (hown : s.vm.findClass own = some m.cls) (w1 : (Jvm.Cond.methodLink own idx Lib.objectInit).before a0 Z = true) (w2 : (Jvm.Cond.instanceMethod Lib.objectInit).before a0 Z = true)
    (w3 : (Jvm.Cond.code Lib.objectInit ⟨#[0xb1]⟩ 1 none).before a0 Z = true) (eT : T.heap = h) {g : JFrame} (hg : g.method = m) (hsize : g.locals.size = c.maxLocals) {rest : List Value} (hs : g.stack = .ref a :: rest) (hd : decode c.code g.pc = .ok (.invokespecial idx, 3))
    (hf : 1 ≤ R.frames) (W : Nat) (hW : 2 * g.monitorRoom + (rest.map fun v => v.category).sum ≤ W) (hl : W + 12 ≤ R.locals)
    (k : ∀ T', Stand p l e R s m args below meth c T' locs cells slots → T'.heap = h → Ends p e below s cs ss Q (T'.setTop { g with pc := g.pc + 3, stack := rest })) : Ends p e below s cs ss Q (T.setTop g) := by
  obtain ⟨T', X', e', st⟩ := Jvm.RoadKit.initO X hx hZ hown w1 w2 w3 eT hg hsize hs hd hf hW hl
  exact (k T' X' e').step st
def OneS (o : Slot) : Prop := o = .unset ∨ ∃ w, o = .val w ∧ w.category = 1
theorem storeL {ls : Array Slot} {i : Nat} {x : Int64} {o o' : Slot} (h1 : ls[i]? = some o) (h2 : ls[i + 1]? = some o') (p1 : OneS o) (p2 : OneS o') : storeLocals ls i (.long x) = some ((ls.setIfInBounds i (.val (.long x))).setIfInBounds (i + 1) .second) := by
  have l1 : i < ls.size := (Array.getElem?_eq_some_iff.mp h1).1
  have l2 : i + 1 < ls.size := (Array.getElem?_eq_some_iff.mp h2).1
  have e2 : (ls.setIfInBounds i (.val (.long x)))[i + 1]? = some o' := by rw [Array.getElem?_setIfInBounds_ne (by omega)]; exact h2
  have q : storeSelf ls i (.long x) = some ((ls.setIfInBounds i (.val (.long x))).setIfInBounds (i + 1) .second) := by
    have cat : (Value.long x).category = 2 := rfl
    simp only [storeSelf, setAt, if_pos l1, cat, if_true, Option.bind_eq_bind, Option.bind_some, e2]
    rcases p2 with rfl | ⟨w, rfl, hw⟩
    · simp [l2]
    · simp [l2, hw]
  simp only [storeLocals, h1, Option.bind_eq_bind, Option.bind_some]
  rcases p1 with rfl | ⟨w, rfl, hw⟩
  · exact q
  · simp only [hw]; exact q
end OwnFrame
-- body 1
def F1 (p1 : Int64) (o0_state : Int64) : Int64 := p1
-- body 4
def F4_40 (co0_state : Int64) (x1 : Int64) : Int64 × Int64 := ((x1 ^^^ (XT.ushrL x1 (31 : Int32))), co0_state)
def F4_29 (co0_state : Int64) (x1 : Int64) : Int64 × Int64 := (F4_40 co0_state ((x1 ^^^ (XT.ushrL x1 (27 : Int32))) * (-7723592293110705685 : Int64)))
def F4 (o0_state : Int64) : Int64 × Int64 := (F4_29 (o0_state + (-7046029254386353131 : Int64)) (((o0_state + (-7046029254386353131 : Int64)) ^^^ (XT.ushrL (o0_state + (-7046029254386353131 : Int64)) (30 : Int32))) * (-4658895280553007687 : Int64)))
-- body 3
def F3_5 (K : Nat) (co0_state : Int64) : Int32 × Int64 := default
def O3_5 (K : Nat) (co0_state : Int64) : Prop := False
def F3_61 (K : Nat) (co0_state : Int64) (x1 : Int32) (x4 : Int64) : Int32 × Int64 := ((((x4 - (x4 / ((x1).toInt64)) * ((x1).toInt64))).toInt32), co0_state)
def O3_61 (K : Nat) (co0_state : Int64) (x1 : Int32) (x4 : Int64) : Prop := (((x1).toInt64) ≠ 0) ∧ True
def F3_58 (K : Nat) (rec : Int64 → Int32 → Int64 → Int64 → Int32 × Int64) (co0_state : Int64) (x1 : Int32) (x2 : Int64) (x4 : Int64) : Int32 × Int64 := (rec co0_state x1 x2 x4)
def O3_58 (K : Nat) (rec : Int64 → Int32 → Int64 → Int64 → Prop) (co0_state : Int64) (x1 : Int32) (x2 : Int64) (x4 : Int64) : Prop := (rec co0_state x1 x2 x4)
def F3_50 (K : Nat) (rec : Int64 → Int32 → Int64 → Int64 → Int32 × Int64) (co0_state : Int64) (x1 : Int32) (x2 : Int64) : Int32 × Int64 := (F3_58 K rec (F4 co0_state).2 x1 x2 (XT.ushrL (F4 co0_state).1 (1 : Int32)))
def O3_50 (K : Nat) (rec : Int64 → Int32 → Int64 → Int64 → Prop) (co0_state : Int64) (x1 : Int32) (x2 : Int64) : Prop := (O3_58 K rec (F4 co0_state).2 x1 x2 (XT.ushrL (F4 co0_state).1 (1 : Int32)))
def F3_39 (K : Nat) : Nat → Int64 → Int32 → Int64 → Int64 → Int32 × Int64
  | 0, _, _, _, _ => default
  | j + 1, co0_state, x1, x2, x4 => if ((9223372036854775807 : Int64) - x2) < x4 then (F3_50 K (F3_39 K j) co0_state x1 x2) else (F3_61 K co0_state x1 x4)
def O3_39 (K : Nat) : Nat → Int64 → Int32 → Int64 → Int64 → Prop
  | 0, _, _, _, _ => False
  | j + 1, co0_state, x1, x2, x4 => (((9223372036854775807 : Int64) - x2) < x4 → (O3_50 K (O3_39 K j) co0_state x1 x2)) ∧ (¬ ((9223372036854775807 : Int64) - x2) < x4 → (O3_61 K co0_state x1 x4))
def F3_31 (K : Nat) (co0_state : Int64) (x1 : Int32) (x2 : Int64) : Int32 × Int64 := (F3_39 K K (F4 co0_state).2 x1 x2 (XT.ushrL (F4 co0_state).1 (1 : Int32)))
def O3_31 (K : Nat) (co0_state : Int64) (x1 : Int32) (x2 : Int64) : Prop := (O3_39 K K (F4 co0_state).2 x1 x2 (XT.ushrL (F4 co0_state).1 (1 : Int32)))
def F3_19 (K : Nat) (co0_state : Int64) (x1 : Int32) : Int32 × Int64 := (F3_31 K co0_state x1 ((((9223372036854775807 : Int64) - ((9223372036854775807 : Int64) / ((x1).toInt64)) * ((x1).toInt64)) + (1 : Int64)) - ((((9223372036854775807 : Int64) - ((9223372036854775807 : Int64) / ((x1).toInt64)) * ((x1).toInt64)) + (1 : Int64)) / ((x1).toInt64)) * ((x1).toInt64)))
def O3_19 (K : Nat) (co0_state : Int64) (x1 : Int32) : Prop := (((x1).toInt64) ≠ 0) ∧ (((x1).toInt64) ≠ 0) ∧ (O3_31 K co0_state x1 ((((9223372036854775807 : Int64) - ((9223372036854775807 : Int64) / ((x1).toInt64)) * ((x1).toInt64)) + (1 : Int64)) - ((((9223372036854775807 : Int64) - ((9223372036854775807 : Int64) / ((x1).toInt64)) * ((x1).toInt64)) + (1 : Int64)) / ((x1).toInt64)) * ((x1).toInt64)))
def F3 (K : Nat) (p1 : Int32) (o0_state : Int64) : Int32 × Int64 := if p1 < (1 : Int32) then (F3_5 K o0_state) else (F3_19 K o0_state p1)
def O3 (K : Nat) (p1 : Int32) (o0_state : Int64) : Prop := (p1 < (1 : Int32) → (O3_5 K o0_state)) ∧ (¬ p1 < (1 : Int32) → (O3_19 K o0_state p1))
-- body 0
def F0_108 (K : Nat) (t0 : Int32) : Int32 := (nar .boolean t0)
def F0_103 (K : Nat)  : Int32 := (F0_108 K (1 : Int32))
def F0_107 (K : Nat)  : Int32 := (F0_108 K (0 : Int32))
def F0_89 (K : Nat) (cq10_state : Int64) (cq20_state : Int64) : Int32 := if (F4 cq10_state).1 = (F4 cq20_state).1 then (F0_103 K) else (F0_107 K)
def F0_78 (K : Nat) (cq10_state : Int64) (cq20_state : Int64) (x3 : Int32) (x10 : Int32) (x11 : Int64) : Int32 := if x10 = (((x11 - (x11 / ((x3).toInt64)) * ((x3).toInt64))).toInt32) then (F0_89 K cq10_state cq20_state) else (F0_107 K)
def O0_78 (K : Nat) (cq10_state : Int64) (cq20_state : Int64) (x3 : Int32) (x10 : Int32) (x11 : Int64) : Prop := (((x3).toInt64) ≠ 0) ∧ (x10 = (((x11 - (x11 / ((x3).toInt64)) * ((x3).toInt64))).toInt32) → True) ∧ (¬ x10 = (((x11 - (x11 / ((x3).toInt64)) * ((x3).toInt64))).toInt32) → True)
def F0_156 (K : Nat) (t0 : Int32) : Int32 := (nar .boolean t0)
def F0_151 (K : Nat)  : Int32 := (F0_156 K (1 : Int32))
def F0_155 (K : Nat)  : Int32 := (F0_156 K (0 : Int32))
def F0_137 (K : Nat) (cq10_state : Int64) (cq20_state : Int64) : Int32 := if (F4 cq10_state).1 = (F4 cq20_state).1 then (F0_151 K) else (F0_155 K)
def F0_126 (K : Nat) (cq10_state : Int64) (cq20_state : Int64) (x3 : Int32) (x10 : Int32) (x13 : Int64) : Int32 := if x10 = (((x13 - (x13 / ((x3).toInt64)) * ((x3).toInt64))).toInt32) then (F0_137 K cq10_state cq20_state) else (F0_155 K)
def O0_126 (K : Nat) (cq10_state : Int64) (cq20_state : Int64) (x3 : Int32) (x10 : Int32) (x13 : Int64) : Prop := (((x3).toInt64) ≠ 0) ∧ (x10 = (((x13 - (x13 / ((x3).toInt64)) * ((x3).toInt64))).toInt32) → True) ∧ (¬ x10 = (((x13 - (x13 / ((x3).toInt64)) * ((x3).toInt64))).toInt32) → True)
def F0_173 (K : Nat) (t0 : Int32) : Int32 := (nar .boolean t0)
def F0_168 (K : Nat)  : Int32 := (F0_173 K (1 : Int32))
def F0_172 (K : Nat)  : Int32 := (F0_173 K (0 : Int32))
def F0_162 (K : Nat) (x3 : Int32) (x10 : Int32) : Int32 := if x10 < x3 then (F0_168 K) else (F0_172 K)
def F0_157 (K : Nat) (x3 : Int32) (x10 : Int32) : Int32 := if x10 < 0 then (F0_172 K) else (F0_162 K x3 x10)
def F0_118 (K : Nat) (cq10_state : Int64) (cq20_state : Int64) (x3 : Int32) (x8 : Int64) (x10 : Int32) (x13 : Int64) : Int32 := if x8 < x13 then (F0_157 K x3 x10) else (F0_126 K cq10_state cq20_state x3 x10 x13)
def O0_118 (K : Nat) (cq10_state : Int64) (cq20_state : Int64) (x3 : Int32) (x8 : Int64) (x10 : Int32) (x13 : Int64) : Prop := (x8 < x13 → True) ∧ (¬ x8 < x13 → (O0_126 K cq10_state cq20_state x3 x10 x13))
def F0_109 (K : Nat) (cq10_state : Int64) (cq20_state : Int64) (x3 : Int32) (x8 : Int64) (x10 : Int32) : Int32 := (F0_118 K cq10_state (F4 cq20_state).2 x3 x8 x10 (XT.ushrL (F4 cq20_state).1 (1 : Int32)))
def O0_109 (K : Nat) (cq10_state : Int64) (cq20_state : Int64) (x3 : Int32) (x8 : Int64) (x10 : Int32) : Prop := (O0_118 K cq10_state (F4 cq20_state).2 x3 x8 x10 (XT.ushrL (F4 cq20_state).1 (1 : Int32)))
def F0_70 (K : Nat) (cq10_state : Int64) (cq20_state : Int64) (x3 : Int32) (x8 : Int64) (x10 : Int32) (x11 : Int64) : Int32 := if x8 < x11 then (F0_109 K cq10_state cq20_state x3 x8 x10) else (F0_78 K cq10_state cq20_state x3 x10 x11)
def O0_70 (K : Nat) (cq10_state : Int64) (cq20_state : Int64) (x3 : Int32) (x8 : Int64) (x10 : Int32) (x11 : Int64) : Prop := (x8 < x11 → (O0_109 K cq10_state cq20_state x3 x8 x10)) ∧ (¬ x8 < x11 → (O0_78 K cq10_state cq20_state x3 x10 x11))
def F0_61 (K : Nat) (cq10_state : Int64) (cq20_state : Int64) (x3 : Int32) (x8 : Int64) (x10 : Int32) : Int32 := (F0_70 K cq10_state (F4 cq20_state).2 x3 x8 x10 (XT.ushrL (F4 cq20_state).1 (1 : Int32)))
def O0_61 (K : Nat) (cq10_state : Int64) (cq20_state : Int64) (x3 : Int32) (x8 : Int64) (x10 : Int32) : Prop := (O0_70 K cq10_state (F4 cq20_state).2 x3 x8 x10 (XT.ushrL (F4 cq20_state).1 (1 : Int32)))
def F0_53 (K : Nat) (cq10_state : Int64) (cq20_state : Int64) (x3 : Int32) (x8 : Int64) : Int32 := (F0_61 K (F3 K x3 cq10_state).2 cq20_state x3 x8 (F3 K x3 cq10_state).1)
def O0_53 (K : Nat) (cq10_state : Int64) (cq20_state : Int64) (x3 : Int32) (x8 : Int64) : Prop := (O3 K x3 cq10_state) ∧ (O0_61 K (F3 K x3 cq10_state).2 cq20_state x3 x8 (F3 K x3 cq10_state).1)
def F0_45 (K : Nat) (cq10_state : Int64) (cq20_state : Int64) (x3 : Int32) (x6 : Int64) : Int32 := (F0_53 K cq10_state cq20_state x3 ((9223372036854775807 : Int64) - x6))
def O0_45 (K : Nat) (cq10_state : Int64) (cq20_state : Int64) (x3 : Int32) (x6 : Int64) : Prop := (O0_53 K cq10_state cq20_state x3 ((9223372036854775807 : Int64) - x6))
def F0_10 (K : Nat) (x0 : Int64) (x3 : Int32) : Int32 := (F0_45 K (F1 x0 (0 : Int64)) (F1 x0 (0 : Int64)) x3 ((((4611686018427387904 : Int64) - ((4611686018427387904 : Int64) / ((x3).toInt64)) * ((x3).toInt64)) * (2 : Int64)) - ((((4611686018427387904 : Int64) - ((4611686018427387904 : Int64) / ((x3).toInt64)) * ((x3).toInt64)) * (2 : Int64)) / ((x3).toInt64)) * ((x3).toInt64)))
def O0_10 (K : Nat) (x0 : Int64) (x3 : Int32) : Prop := (((x3).toInt64) ≠ 0) ∧ (((x3).toInt64) ≠ 0) ∧ (O0_45 K (F1 x0 (0 : Int64)) (F1 x0 (0 : Int64)) x3 ((((4611686018427387904 : Int64) - ((4611686018427387904 : Int64) / ((x3).toInt64)) * ((x3).toInt64)) * (2 : Int64)) - ((((4611686018427387904 : Int64) - ((4611686018427387904 : Int64) / ((x3).toInt64)) * ((x3).toInt64)) * (2 : Int64)) / ((x3).toInt64)) * ((x3).toInt64)))
def F0 (K : Nat) (p0 : Int64) (p1 : Int32) : Int32 := (F0_10 K p0 ((1 : Int32) + ((p1 &&& (2147483647 : Int32)) % (2147483647 : Int32))))
def O0 (K : Nat) (p0 : Int64) (p1 : Int32) : Prop := (O0_10 K p0 ((1 : Int32) + ((p1 &&& (2147483647 : Int32)) % (2147483647 : Int32))))
theorem pd_0 : parseMethodDescriptor "()J" = some ⟨[], (some .long)⟩ := by decide +kernel
theorem pd_1 : parseMethodDescriptor "(J)V" = some ⟨[.long], none⟩ := by decide +kernel
theorem pd_2 : parseMethodDescriptor "(I)I" = some ⟨[.int], (some .int)⟩ := by decide +kernel
theorem d1_0 : decode prog_41_method_1_code 0 = .ok (.aload_n 0, 1) := by decide +kernel
theorem d1_1 : decode prog_41_method_1_code 1 = .ok (.invokespecial 1, 3) := by decide +kernel
theorem d1_4 : decode prog_41_method_1_code 4 = .ok (.aload_n 0, 1) := by decide +kernel
theorem d1_5 : decode prog_41_method_1_code 5 = .ok (.lload_n 1, 1) := by decide +kernel
theorem d1_6 : decode prog_41_method_1_code 6 = .ok (.putfield 7, 3) := by decide +kernel
theorem d1_9 : decode prog_41_method_1_code 9 = .ok (.return_, 1) := by decide +kernel
theorem pn_1 : plainFor (⟨"com/example/holywell/holywell/generate/Draws", "<init>", "(J)V"⟩ : MethodName) = true := by first | exact plainFor_of_name (by first | (simp [plainName, overriddenIn]; done) | decide +kernel) | decide +kernel
theorem ef_1 (m : MethodId) (y0 : Addr) (y1 : Int64) : entryFrame m #[(.ref y0), (.long y1)] 3 = mkF m 0 #[.val (.ref y0), .val (.long y1), .second] [] := by first | (simp [entryFrame, mkF, argsToLocals, Value.category]; done) | rfl
def Q1 (Z : State) (a_o0 : Addr) (o0_state : Int64) (h0 : Heap) (n0 : Nat) (ans : Int64) (v : Option Value) (h : Heap) (L : List Loc) : Prop := v = none ∧ Fr n0 L ∧ Keep h0 h [a_o0] ∧ Fld Z h a_o0 "com/example/holywell/holywell/generate/Draws" "state" "J" (.long ans)
set_option maxRecDepth 65536 in
set_option maxHeartbeats 40000000 in
theorem rm1 (l : Launch) (Z : State) (a0 : Array Value) (hw : ∀ d ∈ tables_1, d.before a0 Z = true) (p1 : Int64) (o0_state : Int64) (a_o0 : Addr) (h0 : Heap) (n0 : Nat) (Z0 : n0 ≤ h0.size) (E_o0 : Exa Z h0 a_o0 "com/example/holywell/holywell/generate/Draws") (F_o0_state : Fld Z h0 a_o0 "com/example/holywell/holywell/generate/Draws" "state" "J" (.long o0_state)) (g_o0 : n0 ≤ a_o0) :
    Meets l Z (⟨"com/example/holywell/holywell/generate/Draws", "<init>", "(J)V"⟩ : MethodName) prog_41_method_1_code 3 none [] ({ frames := 1, cells := 0, slots := 0, locals := 12 } : Room) #[(.ref a_o0), (.long p1)] h0 (Q1 Z a_o0 o0_state h0 n0 (F1 p1 o0_state)) 0 0 := by
  refine Meets.of pn_1 ?_
  intro p e s m below meth c s₁ hx hby hml hZ hown hnm hret hlk X0 e0
  have hml : c.maxLocals = 3 := hml
  have hown : s.vm.findClass "com/example/holywell/holywell/generate/Draws" = some m.cls := hown
  have N0 := Fr.nil n0
  have K0 := Keep.refl h0 [a_o0]
  refine Ends.step (u' := (s₁.setTop (mkF m 0 #[.val (.ref a_o0), .val (.long p1), .second] []))) ?_ (fun _ k => castTop (ef_1 m a_o0 p1) k)
  refine Ends.step (u' := (s₁.setTop (mkF m 1 #[.val (.ref a_o0), .val (.long p1), .second] [(.ref a_o0)]))) ?_ (fun _ k => XS.aloadN X0.here hx rfl (hb hby d1_0) rfl rfl k)
  refine Ends.initO X0 hx hZ hown (hw _ (List.mem_of_getElem? (i := 7) rfl)) (hw _ (List.mem_of_getElem? (i := 8) rfl)) (hw _ (List.mem_of_getElem? (i := 9) rfl)) e0 (g := (mkF m 1 #[.val (.ref a_o0), .val (.long p1), .second] [(.ref a_o0)])) rfl (by rw [hml]; rfl) rfl (hb hby d1_1) (by decide) 0 (by show 2 * 0 + _ ≤ _; exact Nat.le_of_eq rfl) (by decide) (fun T1 X1 e1 => ?_)
  show Ends p e below s _ _ _ (T1.setTop (mkF m 4 #[.val (.ref a_o0), .val (.long p1), .second] []))
  refine Ends.step (u' := (T1.setTop (mkF m 5 #[.val (.ref a_o0), .val (.long p1), .second] [(.ref a_o0)]))) ?_ (fun _ k => XS.aloadN X1.here hx rfl (hb hby d1_4) rfl rfl k)
  refine Ends.step (u' := (T1.setTop (mkF m 6 #[.val (.ref a_o0), .val (.long p1), .second] [(.long p1), (.ref a_o0)]))) ?_ (fun _ k => XT.lloadN X1.here hx rfl (hb hby d1_5) rfl k)
  refine Ends.putF X1 hx hZ hown (hw _ (List.mem_of_getElem? (i := 10) rfl)) e1 F_o0_state E_o0 (Or.inl (hw _ (List.mem_of_getElem? (i := 11) rfl))) (hw _ (List.mem_of_getElem? (i := 2) rfl)) (tf := .long) (by decide) rfl rfl N0 g_o0 (g := (mkF m 6 #[.val (.ref a_o0), .val (.long p1), .second] [(.long p1), (.ref a_o0)])) rfl rfl (hb hby d1_6) (fun T2 h2 X2 e2 N2 W2 => ?_)
  have Fd3 := F_o0_state.same W2
  have E4 := E_o0.wr W2
  show Ends p e below s _ _ _ (T2.setTop (mkF m 9 #[.val (.ref a_o0), .val (.long p1), .second] []))
  have Z5 : n0 ≤ h2.size := W2.size.symm ▸ Z0
  have K6 := K0.wr W2 (Or.inl (List.mem_of_getElem? (i := 0) rfl))
  exact Ends.ret X2 (v := none) (fun _ => rfl) hlk (fun fs hr => X2.returnOut hx hret (hb hby d1_9) hr) (by decide) (by decide) (by rw [e2]; exact ⟨rfl, N2, K6, Fd3⟩)
theorem d4_0 : decode prog_41_method_2_code 0 = .ok (.aload_n 0, 1) := by decide +kernel
theorem d4_1 : decode prog_41_method_2_code 1 = .ok (.dup, 1) := by decide +kernel
theorem d4_2 : decode prog_41_method_2_code 2 = .ok (.getfield 7, 3) := by decide +kernel
theorem d4_5 : decode prog_41_method_2_code 5 = .ok (.ldc2_w 13, 3) := by decide +kernel
theorem d4_8 : decode prog_41_method_2_code 8 = .ok (.ladd, 1) := by decide +kernel
theorem d4_9 : decode prog_41_method_2_code 9 = .ok (.putfield 7, 3) := by decide +kernel
theorem d4_12 : decode prog_41_method_2_code 12 = .ok (.aload_n 0, 1) := by decide +kernel
theorem d4_13 : decode prog_41_method_2_code 13 = .ok (.getfield 7, 3) := by decide +kernel
theorem d4_16 : decode prog_41_method_2_code 16 = .ok (.aload_n 0, 1) := by decide +kernel
theorem d4_17 : decode prog_41_method_2_code 17 = .ok (.getfield 7, 3) := by decide +kernel
theorem d4_20 : decode prog_41_method_2_code 20 = .ok (.bipush 30, 2) := by decide +kernel
theorem d4_22 : decode prog_41_method_2_code 22 = .ok (.lushr, 1) := by decide +kernel
theorem d4_23 : decode prog_41_method_2_code 23 = .ok (.lxor, 1) := by decide +kernel
theorem d4_24 : decode prog_41_method_2_code 24 = .ok (.ldc2_w 15, 3) := by decide +kernel
theorem d4_27 : decode prog_41_method_2_code 27 = .ok (.lmul, 1) := by decide +kernel
theorem d4_28 : decode prog_41_method_2_code 28 = .ok (.lstore_n 1, 1) := by decide +kernel
theorem d4_29 : decode prog_41_method_2_code 29 = .ok (.lload_n 1, 1) := by decide +kernel
theorem d4_30 : decode prog_41_method_2_code 30 = .ok (.lload_n 1, 1) := by decide +kernel
theorem d4_31 : decode prog_41_method_2_code 31 = .ok (.bipush 27, 2) := by decide +kernel
theorem d4_33 : decode prog_41_method_2_code 33 = .ok (.lushr, 1) := by decide +kernel
theorem d4_34 : decode prog_41_method_2_code 34 = .ok (.lxor, 1) := by decide +kernel
theorem d4_35 : decode prog_41_method_2_code 35 = .ok (.ldc2_w 17, 3) := by decide +kernel
theorem d4_38 : decode prog_41_method_2_code 38 = .ok (.lmul, 1) := by decide +kernel
theorem d4_39 : decode prog_41_method_2_code 39 = .ok (.lstore_n 1, 1) := by decide +kernel
theorem d4_40 : decode prog_41_method_2_code 40 = .ok (.lload_n 1, 1) := by decide +kernel
theorem d4_41 : decode prog_41_method_2_code 41 = .ok (.lload_n 1, 1) := by decide +kernel
theorem d4_42 : decode prog_41_method_2_code 42 = .ok (.bipush 31, 2) := by decide +kernel
theorem d4_44 : decode prog_41_method_2_code 44 = .ok (.lushr, 1) := by decide +kernel
theorem d4_45 : decode prog_41_method_2_code 45 = .ok (.lxor, 1) := by decide +kernel
theorem d4_46 : decode prog_41_method_2_code 46 = .ok (.lreturn, 1) := by decide +kernel
theorem pn_4 : plainFor (⟨"com/example/holywell/holywell/generate/Draws", "bits", "()J"⟩ : MethodName) = true := by first | exact plainFor_of_name (by first | (simp [plainName, overriddenIn]; done) | decide +kernel) | decide +kernel
theorem ef_4 (m : MethodId) (y0 : Addr) : entryFrame m #[(.ref y0)] 3 = mkF m 0 #[.val (.ref y0), .unset, .unset] [] := by first | (simp [entryFrame, mkF, argsToLocals, Value.category]; done) | rfl
def Q4 (Z : State) (a_o0 : Addr) (o0_state : Int64) (h0 : Heap) (n0 : Nat) (ans : Int64 × Int64) (v : Option Value) (h : Heap) (L : List Loc) : Prop := v = some (.long ans.1) ∧ Fr n0 L ∧ Keep h0 h [a_o0] ∧ Fld Z h a_o0 "com/example/holywell/holywell/generate/Draws" "state" "J" (.long ans.2)
set_option maxRecDepth 65536 in
set_option maxHeartbeats 40000000 in
theorem rm4 (l : Launch) (Z : State) (a0 : Array Value) (hw : ∀ d ∈ tables_1, d.before a0 Z = true) (o0_state : Int64) (a_o0 : Addr) (h0 : Heap) (n0 : Nat) (Z0 : n0 ≤ h0.size) (E_o0 : Exa Z h0 a_o0 "com/example/holywell/holywell/generate/Draws") (F_o0_state : Fld Z h0 a_o0 "com/example/holywell/holywell/generate/Draws" "state" "J" (.long o0_state)) (g_o0 : n0 ≤ a_o0) :
    Meets l Z (⟨"com/example/holywell/holywell/generate/Draws", "bits", "()J"⟩ : MethodName) prog_41_method_2_code 3 (some .long) [] ({ frames := 0, cells := 0, slots := 0, locals := 0 } : Room) #[(.ref a_o0)] h0 (Q4 Z a_o0 o0_state h0 n0 (F4 o0_state)) 0 0 := by
  refine Meets.of pn_4 ?_
  intro p e s m below meth c s₁ hx hby hml hZ hown hnm hret hlk X0 e0
  have hml : c.maxLocals = 3 := hml
  have hown : s.vm.findClass "com/example/holywell/holywell/generate/Draws" = some m.cls := hown
  have N0 := Fr.nil n0
  have K0 := Keep.refl h0 [a_o0]
  have b40 : ∀ (T : State) (L : List Loc) (h : Heap) (X : Stand p l e ({ frames := 0, cells := 0, slots := 0, locals := 0 } : Room) s m #[(.ref a_o0)] below meth c T L 0 0) (eT : T.heap = h) (N : Fr n0 L) (Zs : n0 ≤ h.size) (Kp : Keep h0 h [a_o0]) (co0_state : Int64) (x1 : Int64) (d0 : Slot) (od0 : OneS d0) (E_o0 : Exa Z h a_o0 "com/example/holywell/holywell/generate/Draws") (F_o0_state : Fld Z h a_o0 "com/example/holywell/holywell/generate/Draws" "state" "J" (.long co0_state)), Ends p e below s 0 0 (Q4 Z a_o0 o0_state h0 n0 (F4_40 co0_state x1)) (T.setTop (mkF m 40 #[d0, .val (.long x1), .second] [])) := by
    intro T L h X eT N Zs Kp co0_state x1 d0 od0 E_o0 F_o0_state
    refine Ends.step (u' := (T.setTop (mkF m 41 #[d0, .val (.long x1), .second] [(.long x1)]))) ?_ (fun _ k => XT.lloadN X.here hx rfl (hb hby d4_40) rfl k)
    refine Ends.step (u' := (T.setTop (mkF m 42 #[d0, .val (.long x1), .second] [(.long x1), (.long x1)]))) ?_ (fun _ k => XT.lloadN X.here hx rfl (hb hby d4_41) rfl k)
    refine Ends.step (u' := (T.setTop (mkF m 44 #[d0, .val (.long x1), .second] [(.int (31 : Int32)), (.long x1), (.long x1)]))) ?_ (fun _ k => XT.bipushV X.here hx rfl (31 : Int32) (hb hby d4_42) rfl k)
    refine Ends.step (u' := (T.setTop (mkF m 45 #[d0, .val (.long x1), .second] [(.long (XT.ushrL x1 (31 : Int32))), (.long x1)]))) ?_ (fun _ k => XT.lushr X.here hx rfl (hb hby d4_44) rfl k)
    refine Ends.step (u' := (T.setTop (mkF m 46 #[d0, .val (.long x1), .second] [(.long (x1 ^^^ (XT.ushrL x1 (31 : Int32))))]))) ?_ (fun _ k => XT.lxor X.here hx rfl (hb hby d4_45) rfl k)
    exact Ends.ret X (v := some (.long (x1 ^^^ (XT.ushrL x1 (31 : Int32))))) (fun q => by rw [hret] at q; cases q) hlk (fun fs hr => X.lreturnOut hx hret (hb hby d4_46) hr) (by decide) (by decide) (by rw [eT]; exact ⟨rfl, N, Kp, F_o0_state⟩)
  have b29 : ∀ (T : State) (L : List Loc) (h : Heap) (X : Stand p l e ({ frames := 0, cells := 0, slots := 0, locals := 0 } : Room) s m #[(.ref a_o0)] below meth c T L 0 0) (eT : T.heap = h) (N : Fr n0 L) (Zs : n0 ≤ h.size) (Kp : Keep h0 h [a_o0]) (co0_state : Int64) (x1 : Int64) (d0 : Slot) (od0 : OneS d0) (E_o0 : Exa Z h a_o0 "com/example/holywell/holywell/generate/Draws") (F_o0_state : Fld Z h a_o0 "com/example/holywell/holywell/generate/Draws" "state" "J" (.long co0_state)), Ends p e below s 0 0 (Q4 Z a_o0 o0_state h0 n0 (F4_29 co0_state x1)) (T.setTop (mkF m 29 #[d0, .val (.long x1), .second] [])) := by
    intro T L h X eT N Zs Kp co0_state x1 d0 od0 E_o0 F_o0_state
    refine Ends.step (u' := (T.setTop (mkF m 30 #[d0, .val (.long x1), .second] [(.long x1)]))) ?_ (fun _ k => XT.lloadN X.here hx rfl (hb hby d4_29) rfl k)
    refine Ends.step (u' := (T.setTop (mkF m 31 #[d0, .val (.long x1), .second] [(.long x1), (.long x1)]))) ?_ (fun _ k => XT.lloadN X.here hx rfl (hb hby d4_30) rfl k)
    refine Ends.step (u' := (T.setTop (mkF m 33 #[d0, .val (.long x1), .second] [(.int (27 : Int32)), (.long x1), (.long x1)]))) ?_ (fun _ k => XT.bipushV X.here hx rfl (27 : Int32) (hb hby d4_31) rfl k)
    refine Ends.step (u' := (T.setTop (mkF m 34 #[d0, .val (.long x1), .second] [(.long (XT.ushrL x1 (27 : Int32))), (.long x1)]))) ?_ (fun _ k => XT.lushr X.here hx rfl (hb hby d4_33) rfl k)
    refine Ends.step (u' := (T.setTop (mkF m 35 #[d0, .val (.long x1), .second] [(.long (x1 ^^^ (XT.ushrL x1 (27 : Int32))))]))) ?_ (fun _ k => XT.lxor X.here hx rfl (hb hby d4_34) rfl k)
    refine Ends.step (u' := (T.setTop (mkF m 38 #[d0, .val (.long x1), .second] [(.long (-7723592293110705685 : Int64)), (.long (x1 ^^^ (XT.ushrL x1 (27 : Int32))))]))) ?_ (fun _ k => X.ldc2J hx hown (mvT hZ (hw _ (List.mem_of_getElem? (i := 28) rfl))) rfl (hb hby d4_35) k)
    refine Ends.step (u' := (T.setTop (mkF m 39 #[d0, .val (.long x1), .second] [(.long ((x1 ^^^ (XT.ushrL x1 (27 : Int32))) * (-7723592293110705685 : Int64)))]))) ?_ (fun _ k => XT.lmul X.here hx rfl (hb hby d4_38) rfl k)
    refine Ends.step (u' := (T.setTop (mkF m 40 #[d0, .val (.long ((x1 ^^^ (XT.ushrL x1 (27 : Int32))) * (-7723592293110705685 : Int64))), .second] []))) ?_ (fun _ k => XT.lstoreN X.here hx rfl (hb hby d4_39) rfl (l' := #[d0, .val (.long ((x1 ^^^ (XT.ushrL x1 (27 : Int32))) * (-7723592293110705685 : Int64))), .second]) rfl k)
    exact b40 T _ _ X eT N Zs Kp co0_state ((x1 ^^^ (XT.ushrL x1 (27 : Int32))) * (-7723592293110705685 : Int64)) (d0) od0 E_o0 F_o0_state
  refine Ends.step (u' := (s₁.setTop (mkF m 0 #[.val (.ref a_o0), .unset, .unset] []))) ?_ (fun _ k => castTop (ef_4 m a_o0) k)
  refine Ends.step (u' := (s₁.setTop (mkF m 1 #[.val (.ref a_o0), .unset, .unset] [(.ref a_o0)]))) ?_ (fun _ k => XS.aloadN X0.here hx rfl (hb hby d4_0) rfl rfl k)
  refine Ends.step (u' := (s₁.setTop (mkF m 2 #[.val (.ref a_o0), .unset, .unset] [(.ref a_o0), (.ref a_o0)]))) ?_ (fun _ k => XS.dup X0.here hx rfl (hb hby d4_1) rfl rfl k)
  refine Ends.getF X0 hx hZ hown (hw _ (List.mem_of_getElem? (i := 10) rfl)) e0 F_o0_state (g := (mkF m 2 #[.val (.ref a_o0), .unset, .unset] [(.ref a_o0), (.ref a_o0)])) rfl rfl (hb hby d4_2) (fun T1 X1 e1 => ?_)
  show Ends p e below s _ _ _ (T1.setTop (mkF m 5 #[.val (.ref a_o0), .unset, .unset] [(.long o0_state), (.ref a_o0)]))
  refine Ends.step (u' := (T1.setTop (mkF m 8 #[.val (.ref a_o0), .unset, .unset] [(.long (-7046029254386353131 : Int64)), (.long o0_state), (.ref a_o0)]))) ?_ (fun _ k => X1.ldc2J hx hown (mvT hZ (hw _ (List.mem_of_getElem? (i := 26) rfl))) rfl (hb hby d4_5) k)
  refine Ends.step (u' := (T1.setTop (mkF m 9 #[.val (.ref a_o0), .unset, .unset] [(.long (o0_state + (-7046029254386353131 : Int64))), (.ref a_o0)]))) ?_ (fun _ k => XT.ladd X1.here hx rfl (hb hby d4_8) rfl k)
  refine Ends.putF X1 hx hZ hown (hw _ (List.mem_of_getElem? (i := 10) rfl)) e1 F_o0_state E_o0 (Or.inl (hw _ (List.mem_of_getElem? (i := 11) rfl))) (hw _ (List.mem_of_getElem? (i := 2) rfl)) (tf := .long) (by decide) rfl rfl N0 g_o0 (g := (mkF m 9 #[.val (.ref a_o0), .unset, .unset] [(.long (o0_state + (-7046029254386353131 : Int64))), (.ref a_o0)])) rfl rfl (hb hby d4_9) (fun T2 h2 X2 e2 N2 W2 => ?_)
  have Fd3 := F_o0_state.same W2
  have E4 := E_o0.wr W2
  show Ends p e below s _ _ _ (T2.setTop (mkF m 12 #[.val (.ref a_o0), .unset, .unset] []))
  have Z5 : n0 ≤ h2.size := W2.size.symm ▸ Z0
  have K6 := K0.wr W2 (Or.inl (List.mem_of_getElem? (i := 0) rfl))
  refine Ends.step (u' := (T2.setTop (mkF m 13 #[.val (.ref a_o0), .unset, .unset] [(.ref a_o0)]))) ?_ (fun _ k => XS.aloadN X2.here hx rfl (hb hby d4_12) rfl rfl k)
  refine Ends.getF X2 hx hZ hown (hw _ (List.mem_of_getElem? (i := 10) rfl)) e2 Fd3 (g := (mkF m 13 #[.val (.ref a_o0), .unset, .unset] [(.ref a_o0)])) rfl rfl (hb hby d4_13) (fun T7 X7 e7 => ?_)
  show Ends p e below s _ _ _ (T7.setTop (mkF m 16 #[.val (.ref a_o0), .unset, .unset] [(.long (o0_state + (-7046029254386353131 : Int64)))]))
  refine Ends.step (u' := (T7.setTop (mkF m 17 #[.val (.ref a_o0), .unset, .unset] [(.ref a_o0), (.long (o0_state + (-7046029254386353131 : Int64)))]))) ?_ (fun _ k => XS.aloadN X7.here hx rfl (hb hby d4_16) rfl rfl k)
  refine Ends.getF X7 hx hZ hown (hw _ (List.mem_of_getElem? (i := 10) rfl)) e7 Fd3 (g := (mkF m 17 #[.val (.ref a_o0), .unset, .unset] [(.ref a_o0), (.long (o0_state + (-7046029254386353131 : Int64)))])) rfl rfl (hb hby d4_17) (fun T8 X8 e8 => ?_)
  show Ends p e below s _ _ _ (T8.setTop (mkF m 20 #[.val (.ref a_o0), .unset, .unset] [(.long (o0_state + (-7046029254386353131 : Int64))), (.long (o0_state + (-7046029254386353131 : Int64)))]))
  refine Ends.step (u' := (T8.setTop (mkF m 22 #[.val (.ref a_o0), .unset, .unset] [(.int (30 : Int32)), (.long (o0_state + (-7046029254386353131 : Int64))), (.long (o0_state + (-7046029254386353131 : Int64)))]))) ?_ (fun _ k => XT.bipushV X8.here hx rfl (30 : Int32) (hb hby d4_20) rfl k)
  refine Ends.step (u' := (T8.setTop (mkF m 23 #[.val (.ref a_o0), .unset, .unset] [(.long (XT.ushrL (o0_state + (-7046029254386353131 : Int64)) (30 : Int32))), (.long (o0_state + (-7046029254386353131 : Int64)))]))) ?_ (fun _ k => XT.lushr X8.here hx rfl (hb hby d4_22) rfl k)
  refine Ends.step (u' := (T8.setTop (mkF m 24 #[.val (.ref a_o0), .unset, .unset] [(.long ((o0_state + (-7046029254386353131 : Int64)) ^^^ (XT.ushrL (o0_state + (-7046029254386353131 : Int64)) (30 : Int32))))]))) ?_ (fun _ k => XT.lxor X8.here hx rfl (hb hby d4_23) rfl k)
  refine Ends.step (u' := (T8.setTop (mkF m 27 #[.val (.ref a_o0), .unset, .unset] [(.long (-4658895280553007687 : Int64)), (.long ((o0_state + (-7046029254386353131 : Int64)) ^^^ (XT.ushrL (o0_state + (-7046029254386353131 : Int64)) (30 : Int32))))]))) ?_ (fun _ k => X8.ldc2J hx hown (mvT hZ (hw _ (List.mem_of_getElem? (i := 27) rfl))) rfl (hb hby d4_24) k)
  refine Ends.step (u' := (T8.setTop (mkF m 28 #[.val (.ref a_o0), .unset, .unset] [(.long (((o0_state + (-7046029254386353131 : Int64)) ^^^ (XT.ushrL (o0_state + (-7046029254386353131 : Int64)) (30 : Int32))) * (-4658895280553007687 : Int64)))]))) ?_ (fun _ k => XT.lmul X8.here hx rfl (hb hby d4_27) rfl k)
  refine Ends.step (u' := (T8.setTop (mkF m 29 #[.val (.ref a_o0), .val (.long (((o0_state + (-7046029254386353131 : Int64)) ^^^ (XT.ushrL (o0_state + (-7046029254386353131 : Int64)) (30 : Int32))) * (-4658895280553007687 : Int64))), .second] []))) ?_ (fun _ k => XT.lstoreN X8.here hx rfl (hb hby d4_28) rfl (l' := #[.val (.ref a_o0), .val (.long (((o0_state + (-7046029254386353131 : Int64)) ^^^ (XT.ushrL (o0_state + (-7046029254386353131 : Int64)) (30 : Int32))) * (-4658895280553007687 : Int64))), .second]) rfl k)
  exact b29 T8 _ _ X8 e8 N2 Z5 K6 (o0_state + (-7046029254386353131 : Int64)) (((o0_state + (-7046029254386353131 : Int64)) ^^^ (XT.ushrL (o0_state + (-7046029254386353131 : Int64)) (30 : Int32))) * (-4658895280553007687 : Int64)) (.val (.ref a_o0)) (Or.inr ⟨_, rfl, rfl⟩) E4 Fd3
theorem d3_0 : decode prog_41_method_3_code 0 = .ok (.iload_n 1, 1) := by decide +kernel
theorem d3_1 : decode prog_41_method_3_code 1 = .ok (.iconst 1, 1) := by decide +kernel
theorem d3_2 : decode prog_41_method_3_code 2 = .ok (.if_icmp .ge 17, 3) := by decide +kernel
theorem d3_19 : decode prog_41_method_3_code 19 = .ok (.ldc2_w 30, 3) := by decide +kernel
theorem d3_22 : decode prog_41_method_3_code 22 = .ok (.iload_n 1, 1) := by decide +kernel
theorem d3_23 : decode prog_41_method_3_code 23 = .ok (.i2l, 1) := by decide +kernel
theorem d3_24 : decode prog_41_method_3_code 24 = .ok (.lrem, 1) := by decide +kernel
theorem d3_25 : decode prog_41_method_3_code 25 = .ok (.lconst 1, 1) := by decide +kernel
theorem d3_26 : decode prog_41_method_3_code 26 = .ok (.ladd, 1) := by decide +kernel
theorem d3_27 : decode prog_41_method_3_code 27 = .ok (.iload_n 1, 1) := by decide +kernel
theorem d3_28 : decode prog_41_method_3_code 28 = .ok (.i2l, 1) := by decide +kernel
theorem d3_29 : decode prog_41_method_3_code 29 = .ok (.lrem, 1) := by decide +kernel
theorem d3_30 : decode prog_41_method_3_code 30 = .ok (.lstore_n 2, 1) := by decide +kernel
theorem d3_31 : decode prog_41_method_3_code 31 = .ok (.aload_n 0, 1) := by decide +kernel
theorem d3_32 : decode prog_41_method_3_code 32 = .ok (.invokevirtual 32, 3) := by decide +kernel
theorem d3_35 : decode prog_41_method_3_code 35 = .ok (.iconst 1, 1) := by decide +kernel
theorem d3_36 : decode prog_41_method_3_code 36 = .ok (.lushr, 1) := by decide +kernel
theorem d3_37 : decode prog_41_method_3_code 37 = .ok (.lstore 4, 2) := by decide +kernel
theorem d3_39 : decode prog_41_method_3_code 39 = .ok (.lload 4, 2) := by decide +kernel
theorem d3_41 : decode prog_41_method_3_code 41 = .ok (.ldc2_w 30, 3) := by decide +kernel
theorem d3_44 : decode prog_41_method_3_code 44 = .ok (.lload_n 2, 1) := by decide +kernel
theorem d3_45 : decode prog_41_method_3_code 45 = .ok (.lsub, 1) := by decide +kernel
theorem d3_46 : decode prog_41_method_3_code 46 = .ok (.lcmp, 1) := by decide +kernel
theorem d3_47 : decode prog_41_method_3_code 47 = .ok (.ifCond .le 14, 3) := by decide +kernel
theorem d3_50 : decode prog_41_method_3_code 50 = .ok (.aload_n 0, 1) := by decide +kernel
theorem d3_51 : decode prog_41_method_3_code 51 = .ok (.invokevirtual 32, 3) := by decide +kernel
theorem d3_54 : decode prog_41_method_3_code 54 = .ok (.iconst 1, 1) := by decide +kernel
theorem d3_55 : decode prog_41_method_3_code 55 = .ok (.lushr, 1) := by decide +kernel
theorem d3_56 : decode prog_41_method_3_code 56 = .ok (.lstore 4, 2) := by decide +kernel
theorem d3_58 : decode prog_41_method_3_code 58 = .ok (.goto (-19), 3) := by decide +kernel
theorem d3_61 : decode prog_41_method_3_code 61 = .ok (.lload 4, 2) := by decide +kernel
theorem d3_63 : decode prog_41_method_3_code 63 = .ok (.iload_n 1, 1) := by decide +kernel
theorem d3_64 : decode prog_41_method_3_code 64 = .ok (.i2l, 1) := by decide +kernel
theorem d3_65 : decode prog_41_method_3_code 65 = .ok (.lrem, 1) := by decide +kernel
theorem d3_66 : decode prog_41_method_3_code 66 = .ok (.l2i, 1) := by decide +kernel
theorem d3_67 : decode prog_41_method_3_code 67 = .ok (.ireturn, 1) := by decide +kernel
theorem pn_3 : plainFor (⟨"com/example/holywell/holywell/generate/Draws", "below", "(I)I"⟩ : MethodName) = true := by first | exact plainFor_of_name (by first | (simp [plainName, overriddenIn]; done) | decide +kernel) | decide +kernel
theorem ef_3 (m : MethodId) (y0 : Addr) (y1 : Int32) : entryFrame m #[(.ref y0), (.int y1)] 6 = mkF m 0 #[.val (.ref y0), .val (.int y1), .unset, .unset, .unset, .unset] [] := by first | (simp [entryFrame, mkF, argsToLocals, Value.category]; done) | rfl
def Q3 (Z : State) (a_o0 : Addr) (o0_state : Int64) (h0 : Heap) (n0 : Nat) (ans : Int32 × Int64) (v : Option Value) (h : Heap) (L : List Loc) : Prop := v = some (.int ans.1) ∧ Fr n0 L ∧ Keep h0 h [a_o0] ∧ Fld Z h a_o0 "com/example/holywell/holywell/generate/Draws" "state" "J" (.long ans.2)
set_option maxRecDepth 65536 in
set_option maxHeartbeats 40000000 in
theorem rm3 (l : Launch) (Z : State) (a0 : Array Value) (hw : ∀ d ∈ tables_1, d.before a0 Z = true) (K : Nat) (p1 : Int32) (o0_state : Int64) (a_o0 : Addr) (h0 : Heap) (n0 : Nat) (Z0 : n0 ≤ h0.size) (E_o0 : Exa Z h0 a_o0 "com/example/holywell/holywell/generate/Draws") (F_o0_state : Fld Z h0 a_o0 "com/example/holywell/holywell/generate/Draws" "state" "J" (.long o0_state)) (g_o0 : n0 ≤ a_o0) (ok : O3 K p1 o0_state) :
    Meets l Z (⟨"com/example/holywell/holywell/generate/Draws", "below", "(I)I"⟩ : MethodName) prog_41_method_3_code 6 (some .int) [] ({ frames := 1, cells := 0, slots := 0, locals := 14 } : Room) #[(.ref a_o0), (.int p1)] h0 (Q3 Z a_o0 o0_state h0 n0 (F3 K p1 o0_state)) 0 0 := by
  refine Meets.of pn_3 ?_
  intro p e s m below meth c s₁ hx hby hml hZ hown hnm hret hlk X0 e0
  have hml : c.maxLocals = 6 := hml
  have hown : s.vm.findClass "com/example/holywell/holywell/generate/Draws" = some m.cls := hown
  have N0 := Fr.nil n0
  have K0 := Keep.refl h0 [a_o0]
  have b5 : ∀ (T : State) (L : List Loc) (h : Heap) (X : Stand p l e ({ frames := 1, cells := 0, slots := 0, locals := 14 } : Room) s m #[(.ref a_o0), (.int p1)] below meth c T L 0 0) (eT : T.heap = h) (N : Fr n0 L) (Zs : n0 ≤ h.size) (Kp : Keep h0 h [a_o0]) (co0_state : Int64) (d0 : Slot) (od0 : OneS d0) (d1 : Slot) (od1 : OneS d1) (E_o0 : Exa Z h a_o0 "com/example/holywell/holywell/generate/Draws") (F_o0_state : Fld Z h a_o0 "com/example/holywell/holywell/generate/Draws" "state" "J" (.long co0_state)) (ok : (O3_5 K co0_state)), Ends p e below s 0 0 (Q3 Z a_o0 o0_state h0 n0 (F3_5 K co0_state)) (T.setTop (mkF m 5 #[d0, d1, .unset, .unset, .unset, .unset] [])) := by
    intro T L h X eT N Zs Kp co0_state d0 od0 d1 od1 E_o0 F_o0_state ok
    exact ok.elim
  have b61 : ∀ (T : State) (L : List Loc) (h : Heap) (X : Stand p l e ({ frames := 1, cells := 0, slots := 0, locals := 14 } : Room) s m #[(.ref a_o0), (.int p1)] below meth c T L 0 0) (eT : T.heap = h) (N : Fr n0 L) (Zs : n0 ≤ h.size) (Kp : Keep h0 h [a_o0]) (co0_state : Int64) (x1 : Int32) (x4 : Int64) (d0 : Slot) (od0 : OneS d0) (z2 : Int64) (E_o0 : Exa Z h a_o0 "com/example/holywell/holywell/generate/Draws") (F_o0_state : Fld Z h a_o0 "com/example/holywell/holywell/generate/Draws" "state" "J" (.long co0_state)) (ok : (O3_61 K co0_state x1 x4)), Ends p e below s 0 0 (Q3 Z a_o0 o0_state h0 n0 (F3_61 K co0_state x1 x4)) (T.setTop (mkF m 61 #[d0, .val (.int x1), .val (.long z2), .second, .val (.long x4), .second] [])) := by
    intro T L h X eT N Zs Kp co0_state x1 x4 d0 od0 z2 E_o0 F_o0_state ok
    obtain ⟨o1, ok⟩ := ok
    refine Ends.step (u' := (T.setTop (mkF m 63 #[d0, .val (.int x1), .val (.long z2), .second, .val (.long x4), .second] [(.long x4)]))) ?_ (fun _ k => XT.lload X.here hx rfl (hb hby d3_61) rfl k)
    refine Ends.step (u' := (T.setTop (mkF m 64 #[d0, .val (.int x1), .val (.long z2), .second, .val (.long x4), .second] [(.int x1), (.long x4)]))) ?_ (fun _ k => XS.iloadN X.here hx rfl (hb hby d3_63) rfl k)
    refine Ends.step (u' := (T.setTop (mkF m 65 #[d0, .val (.int x1), .val (.long z2), .second, .val (.long x4), .second] [(.long ((x1).toInt64)), (.long x4)]))) ?_ (fun _ k => XT.i2l X.here hx rfl (hb hby d3_64) rfl k)
    refine Ends.step (u' := (T.setTop (mkF m 66 #[d0, .val (.int x1), .val (.long z2), .second, .val (.long x4), .second] [(.long (x4 - (x4 / ((x1).toInt64)) * ((x1).toInt64)))]))) ?_ (fun _ k => XT.lrem X.here hx rfl (hb hby d3_65) rfl o1 k)
    refine Ends.step (u' := (T.setTop (mkF m 67 #[d0, .val (.int x1), .val (.long z2), .second, .val (.long x4), .second] [(.int (((x4 - (x4 / ((x1).toInt64)) * ((x1).toInt64))).toInt32))]))) ?_ (fun _ k => XT.l2i X.here hx rfl (hb hby d3_66) rfl k)
    exact Ends.ret X (v := some (.int (((x4 - (x4 / ((x1).toInt64)) * ((x1).toInt64))).toInt32))) (fun q => by rw [hret] at q; cases q) hlk (fun fs hr => retI X hx hret (hb hby d3_67) hr) (by decide) (by decide) (by rw [eT]; exact ⟨rfl, N, Kp, F_o0_state⟩)
  have b39 : ∀ (j : Nat) (T : State) (L : List Loc) (h : Heap) (X : Stand p l e ({ frames := 1, cells := 0, slots := 0, locals := 14 } : Room) s m #[(.ref a_o0), (.int p1)] below meth c T L 0 0) (eT : T.heap = h) (N : Fr n0 L) (Zs : n0 ≤ h.size) (Kp : Keep h0 h [a_o0]) (co0_state : Int64) (x1 : Int32) (x2 : Int64) (x4 : Int64) (E_o0 : Exa Z h a_o0 "com/example/holywell/holywell/generate/Draws") (F_o0_state : Fld Z h a_o0 "com/example/holywell/holywell/generate/Draws" "state" "J" (.long co0_state)) (ok : (O3_39 K j co0_state x1 x2 x4)), Ends p e below s 0 0 (Q3 Z a_o0 o0_state h0 n0 (F3_39 K j co0_state x1 x2 x4)) (T.setTop (mkF m 39 #[.val (.ref a_o0), .val (.int x1), .val (.long x2), .second, .val (.long x4), .second] [])) := by
    intro j
    induction j with
    | zero => intro T L h X eT N Zs Kp co0_state x1 x2 x4 E_o0 F_o0_state ok; exact ok.elim
    | succ j ih =>
      have b58 : ∀ (T : State) (L : List Loc) (h : Heap) (X : Stand p l e ({ frames := 1, cells := 0, slots := 0, locals := 14 } : Room) s m #[(.ref a_o0), (.int p1)] below meth c T L 0 0) (eT : T.heap = h) (N : Fr n0 L) (Zs : n0 ≤ h.size) (Kp : Keep h0 h [a_o0]) (co0_state : Int64) (x1 : Int32) (x2 : Int64) (x4 : Int64) (E_o0 : Exa Z h a_o0 "com/example/holywell/holywell/generate/Draws") (F_o0_state : Fld Z h a_o0 "com/example/holywell/holywell/generate/Draws" "state" "J" (.long co0_state)) (ok : (O3_58 K (O3_39 K j) co0_state x1 x2 x4)), Ends p e below s 0 0 (Q3 Z a_o0 o0_state h0 n0 (F3_58 K (F3_39 K j) co0_state x1 x2 x4)) (T.setTop (mkF m 58 #[.val (.ref a_o0), .val (.int x1), .val (.long x2), .second, .val (.long x4), .second] [])) := by
        intro T L h X eT N Zs Kp co0_state x1 x2 x4 E_o0 F_o0_state ok
        refine Ends.step (u' := (T.setTop (mkF m 39 #[.val (.ref a_o0), .val (.int x1), .val (.long x2), .second, .val (.long x4), .second] []))) ?_ (fun _ k => XS.goto X.here hx rfl (pc0 := 58) (pc' := 39) rfl (hb hby d3_58) (by decide) (by decide) k)
        exact ih T _ _ X eT N Zs Kp co0_state x1 x2 x4 E_o0 F_o0_state ok
      have b50 : ∀ (T : State) (L : List Loc) (h : Heap) (X : Stand p l e ({ frames := 1, cells := 0, slots := 0, locals := 14 } : Room) s m #[(.ref a_o0), (.int p1)] below meth c T L 0 0) (eT : T.heap = h) (N : Fr n0 L) (Zs : n0 ≤ h.size) (Kp : Keep h0 h [a_o0]) (co0_state : Int64) (x1 : Int32) (x2 : Int64) (z4 : Int64) (E_o0 : Exa Z h a_o0 "com/example/holywell/holywell/generate/Draws") (F_o0_state : Fld Z h a_o0 "com/example/holywell/holywell/generate/Draws" "state" "J" (.long co0_state)) (ok : (O3_50 K (O3_39 K j) co0_state x1 x2)), Ends p e below s 0 0 (Q3 Z a_o0 o0_state h0 n0 (F3_50 K (F3_39 K j) co0_state x1 x2)) (T.setTop (mkF m 50 #[.val (.ref a_o0), .val (.int x1), .val (.long x2), .second, .val (.long z4), .second] [])) := by
        intro T L h X eT N Zs Kp co0_state x1 x2 z4 E_o0 F_o0_state ok
        refine Ends.step (u' := (T.setTop (mkF m 51 #[.val (.ref a_o0), .val (.int x1), .val (.long x2), .second, .val (.long z4), .second] [(.ref a_o0)]))) ?_ (fun _ k => XS.aloadN X.here hx rfl (hb hby d3_50) rfl rfl k)
        refine Ends.callV X hx hZ hown (hw _ (List.mem_of_getElem? (i := 21) rfl)) (hw _ (List.mem_of_getElem? (i := 22) rfl)) (hw _ (List.mem_of_getElem? (i := 24) rfl)) (hw _ (List.mem_of_getElem? (i := 23) rfl)) (hw _ (List.mem_of_getElem? (i := 3) rfl)) (hw _ (List.mem_of_getElem? (i := 25) rfl)) (by decide) (rm4 l Z a0 hw co0_state a_o0 h n0 Zs E_o0 F_o0_state g_o0) 0 (by decide) (by decide) eT a_o0 E_o0 (g := (mkF m 51 #[.val (.ref a_o0), .val (.int x1), .val (.long x2), .second, .val (.long z4), .second] [(.ref a_o0)])) rfl (by rw [hml]; rfl)  [] [] (lenOf pd_0 rfl) rfl (by show 2 * 0 + _ ≤ _; exact Nat.le_of_eq rfl) (hb hby d3_51) rfl (by decide) (by decide) (fun v1 T1 L1 X1 hQ1 => ?_)
        obtain ⟨rfl, Nq1, Kq1, Fd2⟩ := hQ1
        have N1 := Fr.app N Nq1
        show Ends p e below s _ _ _ (T1.setTop (mkF m 54 #[.val (.ref a_o0), .val (.int x1), .val (.long x2), .second, .val (.long z4), .second] [(.long (F4 co0_state).1)]))
        have E3 := E_o0.keep Kq1
        have Z4 := Nat.le_trans Zs Kq1.1
        have K5 := Kp.trans Kq1 (allS (Or.inl (List.mem_of_getElem? (i := 0) rfl)) all0)
        refine Ends.step (u' := (T1.setTop (mkF m 55 #[.val (.ref a_o0), .val (.int x1), .val (.long x2), .second, .val (.long z4), .second] [(.int (1 : Int32)), (.long (F4 co0_state).1)]))) ?_ (fun _ k => XT.iconstV X1.here hx rfl (1 : Int32) (hb hby d3_54) rfl k)
        refine Ends.step (u' := (T1.setTop (mkF m 56 #[.val (.ref a_o0), .val (.int x1), .val (.long x2), .second, .val (.long z4), .second] [(.long (XT.ushrL (F4 co0_state).1 (1 : Int32)))]))) ?_ (fun _ k => XT.lushr X1.here hx rfl (hb hby d3_55) rfl k)
        refine Ends.step (u' := (T1.setTop (mkF m 58 #[.val (.ref a_o0), .val (.int x1), .val (.long x2), .second, .val (.long (XT.ushrL (F4 co0_state).1 (1 : Int32))), .second] []))) ?_ (fun _ k => XT.lstore X1.here hx rfl (hb hby d3_56) rfl (l' := #[.val (.ref a_o0), .val (.int x1), .val (.long x2), .second, .val (.long (XT.ushrL (F4 co0_state).1 (1 : Int32))), .second]) rfl k)
        exact b58 T1 _ _ X1 rfl N1 Z4 K5 (F4 co0_state).2 x1 x2 (XT.ushrL (F4 co0_state).1 (1 : Int32)) E3 Fd2 ok
      intro T L h X eT N Zs Kp co0_state x1 x2 x4 E_o0 F_o0_state ok
      obtain ⟨okt, okf⟩ := ok
      refine Ends.step (u' := (T.setTop (mkF m 41 #[.val (.ref a_o0), .val (.int x1), .val (.long x2), .second, .val (.long x4), .second] [(.long x4)]))) ?_ (fun _ k => XT.lload X.here hx rfl (hb hby d3_39) rfl k)
      refine Ends.step (u' := (T.setTop (mkF m 44 #[.val (.ref a_o0), .val (.int x1), .val (.long x2), .second, .val (.long x4), .second] [(.long (9223372036854775807 : Int64)), (.long x4)]))) ?_ (fun _ k => X.ldc2J hx hown (mvT hZ (hw _ (List.mem_of_getElem? (i := 20) rfl))) rfl (hb hby d3_41) k)
      refine Ends.step (u' := (T.setTop (mkF m 45 #[.val (.ref a_o0), .val (.int x1), .val (.long x2), .second, .val (.long x4), .second] [(.long x2), (.long (9223372036854775807 : Int64)), (.long x4)]))) ?_ (fun _ k => XT.lloadN X.here hx rfl (hb hby d3_44) rfl k)
      refine Ends.step (u' := (T.setTop (mkF m 46 #[.val (.ref a_o0), .val (.int x1), .val (.long x2), .second, .val (.long x4), .second] [(.long ((9223372036854775807 : Int64) - x2)), (.long x4)]))) ?_ (fun _ k => XT.lsub X.here hx rfl (hb hby d3_45) rfl k)
      refine Ends.step (u' := (T.setTop (mkF m 47 #[.val (.ref a_o0), .val (.int x1), .val (.long x2), .second, .val (.long x4), .second] [(.int (XT.cmpL x4 ((9223372036854775807 : Int64) - x2)))]))) ?_ (fun _ k => XT.lcmp X.here hx rfl (hb hby d3_46) rfl k)
      by_cases hc47 : ((9223372036854775807 : Int64) - x2) < x4
      · refine Eq.mp (congrArg (fun z => Ends p e below s 0 0 (Q3 Z a_o0 o0_state h0 n0 z) (T.setTop (mkF m 47 #[.val (.ref a_o0), .val (.int x1), .val (.long x2), .second, .val (.long x4), .second] [(.int (XT.cmpL x4 ((9223372036854775807 : Int64) - x2)))]))) (show (F3_39 K (j + 1) co0_state x1 x2 x4) = (F3_50 K (F3_39 K j) co0_state x1 x2) from (if_pos hc47)).symm) ?_
        refine Ends.step (u' := (T.setTop (mkF m 50 #[.val (.ref a_o0), .val (.int x1), .val (.long x2), .second, .val (.long x4), .second] []))) ?_ (fun _ k => XS.ifNo X.here hx rfl (hb hby d3_47) rfl (XT.ll_le_f hc47) k)
        exact b50 T _ _ X eT N Zs Kp co0_state x1 x2 x4 E_o0 F_o0_state (okt hc47)
      · refine Eq.mp (congrArg (fun z => Ends p e below s 0 0 (Q3 Z a_o0 o0_state h0 n0 z) (T.setTop (mkF m 47 #[.val (.ref a_o0), .val (.int x1), .val (.long x2), .second, .val (.long x4), .second] [(.int (XT.cmpL x4 ((9223372036854775807 : Int64) - x2)))]))) (show (F3_39 K (j + 1) co0_state x1 x2 x4) = (F3_61 K co0_state x1 x4) from (if_neg hc47)).symm) ?_
        refine Ends.step (u' := (T.setTop (mkF m 61 #[.val (.ref a_o0), .val (.int x1), .val (.long x2), .second, .val (.long x4), .second] []))) ?_ (fun _ k => XS.ifYes X.here hx rfl (pc0 := 47) (pc' := 61) rfl (hb hby d3_47) rfl (XT.ll_le_t hc47) (by decide) (by decide) k)
        exact b61 T _ _ X eT N Zs Kp co0_state x1 x4 (.val (.ref a_o0)) (Or.inr ⟨_, rfl, rfl⟩) x2 E_o0 F_o0_state (okf hc47)
  have b31 : ∀ (T : State) (L : List Loc) (h : Heap) (X : Stand p l e ({ frames := 1, cells := 0, slots := 0, locals := 14 } : Room) s m #[(.ref a_o0), (.int p1)] below meth c T L 0 0) (eT : T.heap = h) (N : Fr n0 L) (Zs : n0 ≤ h.size) (Kp : Keep h0 h [a_o0]) (co0_state : Int64) (x1 : Int32) (x2 : Int64) (E_o0 : Exa Z h a_o0 "com/example/holywell/holywell/generate/Draws") (F_o0_state : Fld Z h a_o0 "com/example/holywell/holywell/generate/Draws" "state" "J" (.long co0_state)) (ok : (O3_31 K co0_state x1 x2)), Ends p e below s 0 0 (Q3 Z a_o0 o0_state h0 n0 (F3_31 K co0_state x1 x2)) (T.setTop (mkF m 31 #[.val (.ref a_o0), .val (.int x1), .val (.long x2), .second, .unset, .unset] [])) := by
    intro T L h X eT N Zs Kp co0_state x1 x2 E_o0 F_o0_state ok
    refine Ends.step (u' := (T.setTop (mkF m 32 #[.val (.ref a_o0), .val (.int x1), .val (.long x2), .second, .unset, .unset] [(.ref a_o0)]))) ?_ (fun _ k => XS.aloadN X.here hx rfl (hb hby d3_31) rfl rfl k)
    refine Ends.callV X hx hZ hown (hw _ (List.mem_of_getElem? (i := 21) rfl)) (hw _ (List.mem_of_getElem? (i := 22) rfl)) (hw _ (List.mem_of_getElem? (i := 24) rfl)) (hw _ (List.mem_of_getElem? (i := 23) rfl)) (hw _ (List.mem_of_getElem? (i := 3) rfl)) (hw _ (List.mem_of_getElem? (i := 25) rfl)) (by decide) (rm4 l Z a0 hw co0_state a_o0 h n0 Zs E_o0 F_o0_state g_o0) 0 (by decide) (by decide) eT a_o0 E_o0 (g := (mkF m 32 #[.val (.ref a_o0), .val (.int x1), .val (.long x2), .second, .unset, .unset] [(.ref a_o0)])) rfl (by rw [hml]; rfl)  [] [] (lenOf pd_0 rfl) rfl (by show 2 * 0 + _ ≤ _; exact Nat.le_of_eq rfl) (hb hby d3_32) rfl (by decide) (by decide) (fun v6 T6 L6 X6 hQ6 => ?_)
    obtain ⟨rfl, Nq6, Kq6, Fd7⟩ := hQ6
    have N6 := Fr.app N Nq6
    show Ends p e below s _ _ _ (T6.setTop (mkF m 35 #[.val (.ref a_o0), .val (.int x1), .val (.long x2), .second, .unset, .unset] [(.long (F4 co0_state).1)]))
    have E8 := E_o0.keep Kq6
    have Z9 := Nat.le_trans Zs Kq6.1
    have K10 := Kp.trans Kq6 (allS (Or.inl (List.mem_of_getElem? (i := 0) rfl)) all0)
    refine Ends.step (u' := (T6.setTop (mkF m 36 #[.val (.ref a_o0), .val (.int x1), .val (.long x2), .second, .unset, .unset] [(.int (1 : Int32)), (.long (F4 co0_state).1)]))) ?_ (fun _ k => XT.iconstV X6.here hx rfl (1 : Int32) (hb hby d3_35) rfl k)
    refine Ends.step (u' := (T6.setTop (mkF m 37 #[.val (.ref a_o0), .val (.int x1), .val (.long x2), .second, .unset, .unset] [(.long (XT.ushrL (F4 co0_state).1 (1 : Int32)))]))) ?_ (fun _ k => XT.lushr X6.here hx rfl (hb hby d3_36) rfl k)
    refine Ends.step (u' := (T6.setTop (mkF m 39 #[.val (.ref a_o0), .val (.int x1), .val (.long x2), .second, .val (.long (XT.ushrL (F4 co0_state).1 (1 : Int32))), .second] []))) ?_ (fun _ k => XT.lstore X6.here hx rfl (hb hby d3_37) rfl (l' := #[.val (.ref a_o0), .val (.int x1), .val (.long x2), .second, .val (.long (XT.ushrL (F4 co0_state).1 (1 : Int32))), .second]) rfl k)
    exact b39 K T6 _ _ X6 rfl N6 Z9 K10 (F4 co0_state).2 x1 x2 (XT.ushrL (F4 co0_state).1 (1 : Int32)) E8 Fd7 ok
  have b19 : ∀ (T : State) (L : List Loc) (h : Heap) (X : Stand p l e ({ frames := 1, cells := 0, slots := 0, locals := 14 } : Room) s m #[(.ref a_o0), (.int p1)] below meth c T L 0 0) (eT : T.heap = h) (N : Fr n0 L) (Zs : n0 ≤ h.size) (Kp : Keep h0 h [a_o0]) (co0_state : Int64) (x1 : Int32) (E_o0 : Exa Z h a_o0 "com/example/holywell/holywell/generate/Draws") (F_o0_state : Fld Z h a_o0 "com/example/holywell/holywell/generate/Draws" "state" "J" (.long co0_state)) (ok : (O3_19 K co0_state x1)), Ends p e below s 0 0 (Q3 Z a_o0 o0_state h0 n0 (F3_19 K co0_state x1)) (T.setTop (mkF m 19 #[.val (.ref a_o0), .val (.int x1), .unset, .unset, .unset, .unset] [])) := by
    intro T L h X eT N Zs Kp co0_state x1 E_o0 F_o0_state ok
    obtain ⟨o1, o2, ok⟩ := ok
    refine Ends.step (u' := (T.setTop (mkF m 22 #[.val (.ref a_o0), .val (.int x1), .unset, .unset, .unset, .unset] [(.long (9223372036854775807 : Int64))]))) ?_ (fun _ k => X.ldc2J hx hown (mvT hZ (hw _ (List.mem_of_getElem? (i := 20) rfl))) rfl (hb hby d3_19) k)
    refine Ends.step (u' := (T.setTop (mkF m 23 #[.val (.ref a_o0), .val (.int x1), .unset, .unset, .unset, .unset] [(.int x1), (.long (9223372036854775807 : Int64))]))) ?_ (fun _ k => XS.iloadN X.here hx rfl (hb hby d3_22) rfl k)
    refine Ends.step (u' := (T.setTop (mkF m 24 #[.val (.ref a_o0), .val (.int x1), .unset, .unset, .unset, .unset] [(.long ((x1).toInt64)), (.long (9223372036854775807 : Int64))]))) ?_ (fun _ k => XT.i2l X.here hx rfl (hb hby d3_23) rfl k)
    refine Ends.step (u' := (T.setTop (mkF m 25 #[.val (.ref a_o0), .val (.int x1), .unset, .unset, .unset, .unset] [(.long ((9223372036854775807 : Int64) - ((9223372036854775807 : Int64) / ((x1).toInt64)) * ((x1).toInt64)))]))) ?_ (fun _ k => XT.lrem X.here hx rfl (hb hby d3_24) rfl o1 k)
    refine Ends.step (u' := (T.setTop (mkF m 26 #[.val (.ref a_o0), .val (.int x1), .unset, .unset, .unset, .unset] [(.long (1 : Int64)), (.long ((9223372036854775807 : Int64) - ((9223372036854775807 : Int64) / ((x1).toInt64)) * ((x1).toInt64)))]))) ?_ (fun _ k => XT.lconstV X.here hx rfl (1 : Int64) (hb hby d3_25) rfl k)
    refine Ends.step (u' := (T.setTop (mkF m 27 #[.val (.ref a_o0), .val (.int x1), .unset, .unset, .unset, .unset] [(.long (((9223372036854775807 : Int64) - ((9223372036854775807 : Int64) / ((x1).toInt64)) * ((x1).toInt64)) + (1 : Int64)))]))) ?_ (fun _ k => XT.ladd X.here hx rfl (hb hby d3_26) rfl k)
    refine Ends.step (u' := (T.setTop (mkF m 28 #[.val (.ref a_o0), .val (.int x1), .unset, .unset, .unset, .unset] [(.int x1), (.long (((9223372036854775807 : Int64) - ((9223372036854775807 : Int64) / ((x1).toInt64)) * ((x1).toInt64)) + (1 : Int64)))]))) ?_ (fun _ k => XS.iloadN X.here hx rfl (hb hby d3_27) rfl k)
    refine Ends.step (u' := (T.setTop (mkF m 29 #[.val (.ref a_o0), .val (.int x1), .unset, .unset, .unset, .unset] [(.long ((x1).toInt64)), (.long (((9223372036854775807 : Int64) - ((9223372036854775807 : Int64) / ((x1).toInt64)) * ((x1).toInt64)) + (1 : Int64)))]))) ?_ (fun _ k => XT.i2l X.here hx rfl (hb hby d3_28) rfl k)
    refine Ends.step (u' := (T.setTop (mkF m 30 #[.val (.ref a_o0), .val (.int x1), .unset, .unset, .unset, .unset] [(.long ((((9223372036854775807 : Int64) - ((9223372036854775807 : Int64) / ((x1).toInt64)) * ((x1).toInt64)) + (1 : Int64)) - ((((9223372036854775807 : Int64) - ((9223372036854775807 : Int64) / ((x1).toInt64)) * ((x1).toInt64)) + (1 : Int64)) / ((x1).toInt64)) * ((x1).toInt64)))]))) ?_ (fun _ k => XT.lrem X.here hx rfl (hb hby d3_29) rfl o2 k)
    refine Ends.step (u' := (T.setTop (mkF m 31 #[.val (.ref a_o0), .val (.int x1), .val (.long ((((9223372036854775807 : Int64) - ((9223372036854775807 : Int64) / ((x1).toInt64)) * ((x1).toInt64)) + (1 : Int64)) - ((((9223372036854775807 : Int64) - ((9223372036854775807 : Int64) / ((x1).toInt64)) * ((x1).toInt64)) + (1 : Int64)) / ((x1).toInt64)) * ((x1).toInt64))), .second, .unset, .unset] []))) ?_ (fun _ k => XT.lstoreN X.here hx rfl (hb hby d3_30) rfl (l' := #[.val (.ref a_o0), .val (.int x1), .val (.long ((((9223372036854775807 : Int64) - ((9223372036854775807 : Int64) / ((x1).toInt64)) * ((x1).toInt64)) + (1 : Int64)) - ((((9223372036854775807 : Int64) - ((9223372036854775807 : Int64) / ((x1).toInt64)) * ((x1).toInt64)) + (1 : Int64)) / ((x1).toInt64)) * ((x1).toInt64))), .second, .unset, .unset]) rfl k)
    exact b31 T _ _ X eT N Zs Kp co0_state x1 ((((9223372036854775807 : Int64) - ((9223372036854775807 : Int64) / ((x1).toInt64)) * ((x1).toInt64)) + (1 : Int64)) - ((((9223372036854775807 : Int64) - ((9223372036854775807 : Int64) / ((x1).toInt64)) * ((x1).toInt64)) + (1 : Int64)) / ((x1).toInt64)) * ((x1).toInt64)) E_o0 F_o0_state ok
  refine Ends.step (u' := (s₁.setTop (mkF m 0 #[.val (.ref a_o0), .val (.int p1), .unset, .unset, .unset, .unset] []))) ?_ (fun _ k => castTop (ef_3 m a_o0 p1) k)
  obtain ⟨okt, okf⟩ := ok
  refine Ends.step (u' := (s₁.setTop (mkF m 1 #[.val (.ref a_o0), .val (.int p1), .unset, .unset, .unset, .unset] [(.int p1)]))) ?_ (fun _ k => XS.iloadN X0.here hx rfl (hb hby d3_0) rfl k)
  refine Ends.step (u' := (s₁.setTop (mkF m 2 #[.val (.ref a_o0), .val (.int p1), .unset, .unset, .unset, .unset] [(.int (1 : Int32)), (.int p1)]))) ?_ (fun _ k => XT.iconstV X0.here hx rfl (1 : Int32) (hb hby d3_1) rfl k)
  by_cases hc2 : p1 < (1 : Int32)
  · refine Eq.mp (congrArg (fun z => Ends p e below s 0 0 (Q3 Z a_o0 o0_state h0 n0 z) (s₁.setTop (mkF m 2 #[.val (.ref a_o0), .val (.int p1), .unset, .unset, .unset, .unset] [(.int (1 : Int32)), (.int p1)]))) (show (F3 K p1 o0_state) = (F3_5 K o0_state) from (if_pos hc2)).symm) ?_
    refine Ends.step (u' := (s₁.setTop (mkF m 5 #[.val (.ref a_o0), .val (.int p1), .unset, .unset, .unset, .unset] []))) ?_ (fun _ k => XS.icmpNo X0.here hx rfl (hb hby d3_2) rfl (XT.ii_ge_f hc2) k)
    exact b5 s₁ _ _ X0 e0 N0 Z0 K0 o0_state (.val (.ref a_o0)) (Or.inr ⟨_, rfl, rfl⟩) (.val (.int p1)) (Or.inr ⟨_, rfl, rfl⟩) E_o0 F_o0_state (okt hc2)
  · refine Eq.mp (congrArg (fun z => Ends p e below s 0 0 (Q3 Z a_o0 o0_state h0 n0 z) (s₁.setTop (mkF m 2 #[.val (.ref a_o0), .val (.int p1), .unset, .unset, .unset, .unset] [(.int (1 : Int32)), (.int p1)]))) (show (F3 K p1 o0_state) = (F3_19 K o0_state p1) from (if_neg hc2)).symm) ?_
    refine Ends.step (u' := (s₁.setTop (mkF m 19 #[.val (.ref a_o0), .val (.int p1), .unset, .unset, .unset, .unset] []))) ?_ (fun _ k => XS.icmpYes X0.here hx rfl (pc0 := 2) (pc' := 19) rfl (hb hby d3_2) rfl (XT.ii_ge_t hc2) (by decide) (by decide) k)
    exact b19 s₁ _ _ X0 e0 N0 Z0 K0 o0_state p1 E_o0 F_o0_state (okf hc2)
theorem pn_0 : plainFor x = true := by first | exact plainFor_of_name (by first | (simp [plainName, overriddenIn]; done) | decide +kernel) | decide +kernel
theorem ef_0 (m : MethodId) (y0 : Int64) (y1 : Int32) : entryFrame m #[(.long y0), (.int y1)] maxLocals = mkF m 0 #[.val (.long y0), .second, .val (.int y1), .unset, .unset, .unset, .unset, .unset, .unset, .unset, .unset, .unset, .unset, .unset, .unset] [] := by first | (simp [entryFrame, mkF, argsToLocals, Value.category, maxLocals]; done) | rfl
def Q0 (Z : State)   (h0 : Heap) (n0 : Nat) (ans : Int32) (v : Option Value) (h : Heap) (L : List Loc) : Prop := v = some (.int ans) ∧ Fr n0 L
set_option maxRecDepth 65536 in
set_option maxHeartbeats 40000000 in
theorem rm0 (l : Launch) (Z : State) (a0 : Array Value) (hw : ∀ d ∈ tables_1, d.before a0 Z = true) (K : Nat) (p0 : Int64) (p1 : Int32)  (h0 : Heap) (n0 : Nat) (Z0 : n0 ≤ h0.size)  (ok : O0 K p0 p1) :
    Meets l Z x code maxLocals ret tables_1 room_1 #[(.long p0), (.int p1)] h0 (Q0 Z  h0 n0 (F0 K p0 p1)) 2 2 := by
  refine Meets.of pn_0 ?_
  intro p e s m below meth c s₁ hx hby hml hZ hown hnm hret hlk X0 e0
  have hml : c.maxLocals = 15 := hml
  have hown : s.vm.findClass "com/example/holywell/holywell/generate/DrawsBelowPinLaw" = some m.cls := hown
  have N0 := Fr.nil n0
  have b108 : ∀ (T : State) (L : List Loc) (h : Heap) (X : Stand p l e room_1 s m #[(.long p0), (.int p1)] below meth c T L 2 2) (eT : T.heap = h) (N : Fr n0 L) (Zs : n0 ≤ h.size) (t0 : Int32) (z0 : Int64) (d2 : Slot) (od2 : OneS d2) (d3 : Slot) (od3 : OneS d3) (d4 : Slot) (od4 : OneS d4) (d5 : Slot) (od5 : OneS d5) (z6 : Int64) (z8 : Int64) (d10 : Slot) (od10 : OneS d10) (z11 : Int64), Ends p e below s 2 2 (Q0 Z  h0 n0 (F0_108 K t0)) (T.setTop (mkF m 108 #[.val (.long z0), .second, d2, d3, d4, d5, .val (.long z6), .second, .val (.long z8), .second, d10, .val (.long z11), .second, .unset, .unset] [(.int t0)])) := by
    intro T L h X eT N Zs t0 z0 d2 od2 d3 od3 d4 od4 d5 od5 z6 z8 d10 od10 z11
    exact Ends.ret X (v := some (.int (nar .boolean t0))) (fun q => by rw [hret] at q; cases q) hlk (fun fs hr => retN X hx (t := .boolean) hret (by simp) (hb hby at_108) hr) (by decide) (by decide) ⟨rfl, N⟩
  have b103 : ∀ (T : State) (L : List Loc) (h : Heap) (X : Stand p l e room_1 s m #[(.long p0), (.int p1)] below meth c T L 2 2) (eT : T.heap = h) (N : Fr n0 L) (Zs : n0 ≤ h.size) (z0 : Int64) (d2 : Slot) (od2 : OneS d2) (d3 : Slot) (od3 : OneS d3) (d4 : Slot) (od4 : OneS d4) (d5 : Slot) (od5 : OneS d5) (z6 : Int64) (z8 : Int64) (d10 : Slot) (od10 : OneS d10) (z11 : Int64), Ends p e below s 2 2 (Q0 Z  h0 n0 (F0_103 K)) (T.setTop (mkF m 103 #[.val (.long z0), .second, d2, d3, d4, d5, .val (.long z6), .second, .val (.long z8), .second, d10, .val (.long z11), .second, .unset, .unset] [])) := by
    intro T L h X eT N Zs z0 d2 od2 d3 od3 d4 od4 d5 od5 z6 z8 d10 od10 z11
    refine Ends.step (u' := (T.setTop (mkF m 104 #[.val (.long z0), .second, d2, d3, d4, d5, .val (.long z6), .second, .val (.long z8), .second, d10, .val (.long z11), .second, .unset, .unset] [(.int (1 : Int32))]))) ?_ (fun _ k => XT.iconstV X.here hx rfl (1 : Int32) (hb hby at_103) rfl k)
    refine Ends.step (u' := (T.setTop (mkF m 108 #[.val (.long z0), .second, d2, d3, d4, d5, .val (.long z6), .second, .val (.long z8), .second, d10, .val (.long z11), .second, .unset, .unset] [(.int (1 : Int32))]))) ?_ (fun _ k => XS.goto X.here hx rfl (pc0 := 104) (pc' := 108) rfl (hb hby at_104) (by decide) (by decide) k)
    exact b108 T _ _ X eT N Zs (1 : Int32) z0 (d2) od2 (d3) od3 (d4) od4 (d5) od5 z6 z8 (d10) od10 z11
  have b107 : ∀ (T : State) (L : List Loc) (h : Heap) (X : Stand p l e room_1 s m #[(.long p0), (.int p1)] below meth c T L 2 2) (eT : T.heap = h) (N : Fr n0 L) (Zs : n0 ≤ h.size) (z0 : Int64) (d2 : Slot) (od2 : OneS d2) (d3 : Slot) (od3 : OneS d3) (d4 : Slot) (od4 : OneS d4) (d5 : Slot) (od5 : OneS d5) (z6 : Int64) (z8 : Int64) (d10 : Slot) (od10 : OneS d10) (z11 : Int64), Ends p e below s 2 2 (Q0 Z  h0 n0 (F0_107 K)) (T.setTop (mkF m 107 #[.val (.long z0), .second, d2, d3, d4, d5, .val (.long z6), .second, .val (.long z8), .second, d10, .val (.long z11), .second, .unset, .unset] [])) := by
    intro T L h X eT N Zs z0 d2 od2 d3 od3 d4 od4 d5 od5 z6 z8 d10 od10 z11
    refine Ends.step (u' := (T.setTop (mkF m 108 #[.val (.long z0), .second, d2, d3, d4, d5, .val (.long z6), .second, .val (.long z8), .second, d10, .val (.long z11), .second, .unset, .unset] [(.int (0 : Int32))]))) ?_ (fun _ k => XT.iconstV X.here hx rfl (0 : Int32) (hb hby at_107) rfl k)
    exact b108 T _ _ X eT N Zs (0 : Int32) z0 (d2) od2 (d3) od3 (d4) od4 (d5) od5 z6 z8 (d10) od10 z11
  have b89 : ∀ (T : State) (L : List Loc) (h : Heap) (X : Stand p l e room_1 s m #[(.long p0), (.int p1)] below meth c T L 2 2) (eT : T.heap = h) (N : Fr n0 L) (Zs : n0 ≤ h.size) (cq10_state : Int64) (cq20_state : Int64) (z0 : Int64) (d2 : Slot) (od2 : OneS d2) (d3 : Slot) (od3 : OneS d3) (z6 : Int64) (z8 : Int64) (d10 : Slot) (od10 : OneS d10) (z11 : Int64) (a_q10 : Addr) (g_q10 : n0 ≤ a_q10) (a_q20 : Addr) (g_q20 : n0 ≤ a_q20) (ne_q10_q20 : a_q10 ≠ a_q20) (E_q10 : Exa Z h a_q10 "com/example/holywell/holywell/generate/Draws") (F_q10_state : Fld Z h a_q10 "com/example/holywell/holywell/generate/Draws" "state" "J" (.long cq10_state)) (E_q20 : Exa Z h a_q20 "com/example/holywell/holywell/generate/Draws") (F_q20_state : Fld Z h a_q20 "com/example/holywell/holywell/generate/Draws" "state" "J" (.long cq20_state)), Ends p e below s 2 2 (Q0 Z  h0 n0 (F0_89 K cq10_state cq20_state)) (T.setTop (mkF m 89 #[.val (.long z0), .second, d2, d3, .val (.ref a_q10), .val (.ref a_q20), .val (.long z6), .second, .val (.long z8), .second, d10, .val (.long z11), .second, .unset, .unset] [])) := by
    intro T L h X eT N Zs cq10_state cq20_state z0 d2 od2 d3 od3 z6 z8 d10 od10 z11 a_q10 g_q10 a_q20 g_q20 ne_q10_q20 E_q10 F_q10_state E_q20 F_q20_state
    refine Ends.step (u' := (T.setTop (mkF m 91 #[.val (.long z0), .second, d2, d3, .val (.ref a_q10), .val (.ref a_q20), .val (.long z6), .second, .val (.long z8), .second, d10, .val (.long z11), .second, .unset, .unset] [(.ref a_q10)]))) ?_ (fun _ k => XS.aload X.here hx rfl (hb hby at_89) rfl rfl k)
    refine Ends.callV X hx hZ hown (hw _ (List.mem_of_getElem? (i := 29) rfl)) (hw _ (List.mem_of_getElem? (i := 22) rfl)) (hw _ (List.mem_of_getElem? (i := 24) rfl)) (hw _ (List.mem_of_getElem? (i := 23) rfl)) (hw _ (List.mem_of_getElem? (i := 3) rfl)) (hw _ (List.mem_of_getElem? (i := 25) rfl)) (by decide) (rm4 l Z a0 hw cq10_state a_q10 h n0 Zs E_q10 F_q10_state g_q10) 0 (by decide) (by decide) eT a_q10 E_q10 (g := (mkF m 91 #[.val (.long z0), .second, d2, d3, .val (.ref a_q10), .val (.ref a_q20), .val (.long z6), .second, .val (.long z8), .second, d10, .val (.long z11), .second, .unset, .unset] [(.ref a_q10)])) rfl (by rw [hml]; rfl)  [] [] (lenOf pd_0 rfl) rfl (by show 2 * 0 + _ ≤ _; exact Nat.le_of_eq rfl) (hb hby at_91) rfl (by decide) (by decide) (fun v1 T1 L1 X1 hQ1 => ?_)
    obtain ⟨rfl, Nq1, Kq1, Fd2⟩ := hQ1
    have N1 := Fr.app N Nq1
    show Ends p e below s _ _ _ (T1.setTop (mkF m 94 #[.val (.long z0), .second, d2, d3, .val (.ref a_q10), .val (.ref a_q20), .val (.long z6), .second, .val (.long z8), .second, d10, .val (.long z11), .second, .unset, .unset] [(.long (F4 cq10_state).1)]))
    have E3 := E_q10.keep Kq1
    have E4 := E_q20.keep Kq1
    have Fd5 := F_q20_state.keep Kq1 (ninS ne_q10_q20.symm nin0)
    have Z6 := Nat.le_trans Zs Kq1.1
    refine Ends.step (u' := (T1.setTop (mkF m 96 #[.val (.long z0), .second, d2, d3, .val (.ref a_q10), .val (.ref a_q20), .val (.long z6), .second, .val (.long z8), .second, d10, .val (.long z11), .second, .unset, .unset] [(.ref a_q20), (.long (F4 cq10_state).1)]))) ?_ (fun _ k => XS.aload X1.here hx rfl (hb hby at_94) rfl rfl k)
    refine Ends.callV X1 hx hZ hown (hw _ (List.mem_of_getElem? (i := 29) rfl)) (hw _ (List.mem_of_getElem? (i := 22) rfl)) (hw _ (List.mem_of_getElem? (i := 24) rfl)) (hw _ (List.mem_of_getElem? (i := 23) rfl)) (hw _ (List.mem_of_getElem? (i := 3) rfl)) (hw _ (List.mem_of_getElem? (i := 25) rfl)) (by decide) (rm4 l Z a0 hw cq20_state a_q20 T1.heap n0 Z6 E4 Fd5 g_q20) 2 (by decide) (by decide) rfl a_q20 E4 (g := (mkF m 96 #[.val (.long z0), .second, d2, d3, .val (.ref a_q10), .val (.ref a_q20), .val (.long z6), .second, .val (.long z8), .second, d10, .val (.long z11), .second, .unset, .unset] [(.ref a_q20), (.long (F4 cq10_state).1)])) rfl (by rw [hml]; rfl)  [] [(.long (F4 cq10_state).1)] (lenOf pd_0 rfl) rfl (by show 2 * 0 + _ ≤ _; exact Nat.le_of_eq rfl) (hb hby at_96) rfl (by decide) (by decide) (fun v7 T7 L7 X7 hQ7 => ?_)
    obtain ⟨rfl, Nq7, Kq7, Fd8⟩ := hQ7
    have N7 := Fr.app N1 Nq7
    show Ends p e below s _ _ _ (T7.setTop (mkF m 99 #[.val (.long z0), .second, d2, d3, .val (.ref a_q10), .val (.ref a_q20), .val (.long z6), .second, .val (.long z8), .second, d10, .val (.long z11), .second, .unset, .unset] [(.long (F4 cq20_state).1), (.long (F4 cq10_state).1)]))
    have E9 := E3.keep Kq7
    have Fd10 := Fd2.keep Kq7 (ninS ne_q10_q20 nin0)
    have E11 := E4.keep Kq7
    have Z12 := Nat.le_trans Z6 Kq7.1
    refine Ends.step (u' := (T7.setTop (mkF m 100 #[.val (.long z0), .second, d2, d3, .val (.ref a_q10), .val (.ref a_q20), .val (.long z6), .second, .val (.long z8), .second, d10, .val (.long z11), .second, .unset, .unset] [(.int (XT.cmpL (F4 cq10_state).1 (F4 cq20_state).1))]))) ?_ (fun _ k => XT.lcmp X7.here hx rfl (hb hby at_99) rfl k)
    by_cases hc100 : (F4 cq10_state).1 = (F4 cq20_state).1
    · refine Eq.mp (congrArg (fun z => Ends p e below s 2 2 (Q0 Z  h0 n0 z) (T7.setTop (mkF m 100 #[.val (.long z0), .second, d2, d3, .val (.ref a_q10), .val (.ref a_q20), .val (.long z6), .second, .val (.long z8), .second, d10, .val (.long z11), .second, .unset, .unset] [(.int (XT.cmpL (F4 cq10_state).1 (F4 cq20_state).1))]))) (show (F0_89 K cq10_state cq20_state) = (F0_103 K) from (if_pos hc100)).symm) ?_
      refine Ends.step (u' := (T7.setTop (mkF m 103 #[.val (.long z0), .second, d2, d3, .val (.ref a_q10), .val (.ref a_q20), .val (.long z6), .second, .val (.long z8), .second, d10, .val (.long z11), .second, .unset, .unset] []))) ?_ (fun _ k => XS.ifNo X7.here hx rfl (hb hby at_100) rfl (XT.ll_ne_f hc100) k)
      exact b103 T7 _ _ X7 rfl N7 Z12 z0 (d2) od2 (d3) od3 (.val (.ref a_q10)) (Or.inr ⟨_, rfl, rfl⟩) (.val (.ref a_q20)) (Or.inr ⟨_, rfl, rfl⟩) z6 z8 (d10) od10 z11
    · refine Eq.mp (congrArg (fun z => Ends p e below s 2 2 (Q0 Z  h0 n0 z) (T7.setTop (mkF m 100 #[.val (.long z0), .second, d2, d3, .val (.ref a_q10), .val (.ref a_q20), .val (.long z6), .second, .val (.long z8), .second, d10, .val (.long z11), .second, .unset, .unset] [(.int (XT.cmpL (F4 cq10_state).1 (F4 cq20_state).1))]))) (show (F0_89 K cq10_state cq20_state) = (F0_107 K) from (if_neg hc100)).symm) ?_
      refine Ends.step (u' := (T7.setTop (mkF m 107 #[.val (.long z0), .second, d2, d3, .val (.ref a_q10), .val (.ref a_q20), .val (.long z6), .second, .val (.long z8), .second, d10, .val (.long z11), .second, .unset, .unset] []))) ?_ (fun _ k => XS.ifYes X7.here hx rfl (pc0 := 100) (pc' := 107) rfl (hb hby at_100) rfl (XT.ll_ne_t hc100) (by decide) (by decide) k)
      exact b107 T7 _ _ X7 rfl N7 Z12 z0 (d2) od2 (d3) od3 (.val (.ref a_q10)) (Or.inr ⟨_, rfl, rfl⟩) (.val (.ref a_q20)) (Or.inr ⟨_, rfl, rfl⟩) z6 z8 (d10) od10 z11
  have b78 : ∀ (T : State) (L : List Loc) (h : Heap) (X : Stand p l e room_1 s m #[(.long p0), (.int p1)] below meth c T L 2 2) (eT : T.heap = h) (N : Fr n0 L) (Zs : n0 ≤ h.size) (cq10_state : Int64) (cq20_state : Int64) (x3 : Int32) (x10 : Int32) (x11 : Int64) (z0 : Int64) (d2 : Slot) (od2 : OneS d2) (z6 : Int64) (z8 : Int64) (a_q10 : Addr) (g_q10 : n0 ≤ a_q10) (a_q20 : Addr) (g_q20 : n0 ≤ a_q20) (ne_q10_q20 : a_q10 ≠ a_q20) (E_q10 : Exa Z h a_q10 "com/example/holywell/holywell/generate/Draws") (F_q10_state : Fld Z h a_q10 "com/example/holywell/holywell/generate/Draws" "state" "J" (.long cq10_state)) (E_q20 : Exa Z h a_q20 "com/example/holywell/holywell/generate/Draws") (F_q20_state : Fld Z h a_q20 "com/example/holywell/holywell/generate/Draws" "state" "J" (.long cq20_state)) (ok : (O0_78 K cq10_state cq20_state x3 x10 x11)), Ends p e below s 2 2 (Q0 Z  h0 n0 (F0_78 K cq10_state cq20_state x3 x10 x11)) (T.setTop (mkF m 78 #[.val (.long z0), .second, d2, .val (.int x3), .val (.ref a_q10), .val (.ref a_q20), .val (.long z6), .second, .val (.long z8), .second, .val (.int x10), .val (.long x11), .second, .unset, .unset] [])) := by
    intro T L h X eT N Zs cq10_state cq20_state x3 x10 x11 z0 d2 od2 z6 z8 a_q10 g_q10 a_q20 g_q20 ne_q10_q20 E_q10 F_q10_state E_q20 F_q20_state ok
    obtain ⟨o1, okt, okf⟩ := ok
    refine Ends.step (u' := (T.setTop (mkF m 80 #[.val (.long z0), .second, d2, .val (.int x3), .val (.ref a_q10), .val (.ref a_q20), .val (.long z6), .second, .val (.long z8), .second, .val (.int x10), .val (.long x11), .second, .unset, .unset] [(.int x10)]))) ?_ (fun _ k => XS.iload X.here hx rfl (hb hby at_78) rfl k)
    refine Ends.step (u' := (T.setTop (mkF m 82 #[.val (.long z0), .second, d2, .val (.int x3), .val (.ref a_q10), .val (.ref a_q20), .val (.long z6), .second, .val (.long z8), .second, .val (.int x10), .val (.long x11), .second, .unset, .unset] [(.long x11), (.int x10)]))) ?_ (fun _ k => XT.lload X.here hx rfl (hb hby at_80) rfl k)
    refine Ends.step (u' := (T.setTop (mkF m 83 #[.val (.long z0), .second, d2, .val (.int x3), .val (.ref a_q10), .val (.ref a_q20), .val (.long z6), .second, .val (.long z8), .second, .val (.int x10), .val (.long x11), .second, .unset, .unset] [(.int x3), (.long x11), (.int x10)]))) ?_ (fun _ k => XS.iloadN X.here hx rfl (hb hby at_82) rfl k)
    refine Ends.step (u' := (T.setTop (mkF m 84 #[.val (.long z0), .second, d2, .val (.int x3), .val (.ref a_q10), .val (.ref a_q20), .val (.long z6), .second, .val (.long z8), .second, .val (.int x10), .val (.long x11), .second, .unset, .unset] [(.long ((x3).toInt64)), (.long x11), (.int x10)]))) ?_ (fun _ k => XT.i2l X.here hx rfl (hb hby at_83) rfl k)
    refine Ends.step (u' := (T.setTop (mkF m 85 #[.val (.long z0), .second, d2, .val (.int x3), .val (.ref a_q10), .val (.ref a_q20), .val (.long z6), .second, .val (.long z8), .second, .val (.int x10), .val (.long x11), .second, .unset, .unset] [(.long (x11 - (x11 / ((x3).toInt64)) * ((x3).toInt64))), (.int x10)]))) ?_ (fun _ k => XT.lrem X.here hx rfl (hb hby at_84) rfl o1 k)
    refine Ends.step (u' := (T.setTop (mkF m 86 #[.val (.long z0), .second, d2, .val (.int x3), .val (.ref a_q10), .val (.ref a_q20), .val (.long z6), .second, .val (.long z8), .second, .val (.int x10), .val (.long x11), .second, .unset, .unset] [(.int (((x11 - (x11 / ((x3).toInt64)) * ((x3).toInt64))).toInt32)), (.int x10)]))) ?_ (fun _ k => XT.l2i X.here hx rfl (hb hby at_85) rfl k)
    by_cases hc86 : x10 = (((x11 - (x11 / ((x3).toInt64)) * ((x3).toInt64))).toInt32)
    · refine Eq.mp (congrArg (fun z => Ends p e below s 2 2 (Q0 Z  h0 n0 z) (T.setTop (mkF m 86 #[.val (.long z0), .second, d2, .val (.int x3), .val (.ref a_q10), .val (.ref a_q20), .val (.long z6), .second, .val (.long z8), .second, .val (.int x10), .val (.long x11), .second, .unset, .unset] [(.int (((x11 - (x11 / ((x3).toInt64)) * ((x3).toInt64))).toInt32)), (.int x10)]))) (show (F0_78 K cq10_state cq20_state x3 x10 x11) = (F0_89 K cq10_state cq20_state) from (if_pos hc86)).symm) ?_
      refine Ends.step (u' := (T.setTop (mkF m 89 #[.val (.long z0), .second, d2, .val (.int x3), .val (.ref a_q10), .val (.ref a_q20), .val (.long z6), .second, .val (.long z8), .second, .val (.int x10), .val (.long x11), .second, .unset, .unset] []))) ?_ (fun _ k => XS.icmpNo X.here hx rfl (hb hby at_86) rfl (XT.ii_ne_f hc86) k)
      exact b89 T _ _ X eT N Zs cq10_state cq20_state z0 (d2) od2 (.val (.int x3)) (Or.inr ⟨_, rfl, rfl⟩) z6 z8 (.val (.int x10)) (Or.inr ⟨_, rfl, rfl⟩) x11 a_q10 g_q10 a_q20 g_q20 ne_q10_q20 E_q10 F_q10_state E_q20 F_q20_state
    · refine Eq.mp (congrArg (fun z => Ends p e below s 2 2 (Q0 Z  h0 n0 z) (T.setTop (mkF m 86 #[.val (.long z0), .second, d2, .val (.int x3), .val (.ref a_q10), .val (.ref a_q20), .val (.long z6), .second, .val (.long z8), .second, .val (.int x10), .val (.long x11), .second, .unset, .unset] [(.int (((x11 - (x11 / ((x3).toInt64)) * ((x3).toInt64))).toInt32)), (.int x10)]))) (show (F0_78 K cq10_state cq20_state x3 x10 x11) = (F0_107 K) from (if_neg hc86)).symm) ?_
      refine Ends.step (u' := (T.setTop (mkF m 107 #[.val (.long z0), .second, d2, .val (.int x3), .val (.ref a_q10), .val (.ref a_q20), .val (.long z6), .second, .val (.long z8), .second, .val (.int x10), .val (.long x11), .second, .unset, .unset] []))) ?_ (fun _ k => XS.icmpYes X.here hx rfl (pc0 := 86) (pc' := 107) rfl (hb hby at_86) rfl (XT.ii_ne_t hc86) (by decide) (by decide) k)
      exact b107 T _ _ X eT N Zs z0 (d2) od2 (.val (.int x3)) (Or.inr ⟨_, rfl, rfl⟩) (.val (.ref a_q10)) (Or.inr ⟨_, rfl, rfl⟩) (.val (.ref a_q20)) (Or.inr ⟨_, rfl, rfl⟩) z6 z8 (.val (.int x10)) (Or.inr ⟨_, rfl, rfl⟩) x11
  have b156 : ∀ (T : State) (L : List Loc) (h : Heap) (X : Stand p l e room_1 s m #[(.long p0), (.int p1)] below meth c T L 2 2) (eT : T.heap = h) (N : Fr n0 L) (Zs : n0 ≤ h.size) (t0 : Int32) (z0 : Int64) (d2 : Slot) (od2 : OneS d2) (d3 : Slot) (od3 : OneS d3) (d4 : Slot) (od4 : OneS d4) (d5 : Slot) (od5 : OneS d5) (z6 : Int64) (z8 : Int64) (d10 : Slot) (od10 : OneS d10) (z11 : Int64) (z13 : Int64), Ends p e below s 2 2 (Q0 Z  h0 n0 (F0_156 K t0)) (T.setTop (mkF m 156 #[.val (.long z0), .second, d2, d3, d4, d5, .val (.long z6), .second, .val (.long z8), .second, d10, .val (.long z11), .second, .val (.long z13), .second] [(.int t0)])) := by
    intro T L h X eT N Zs t0 z0 d2 od2 d3 od3 d4 od4 d5 od5 z6 z8 d10 od10 z11 z13
    exact Ends.ret X (v := some (.int (nar .boolean t0))) (fun q => by rw [hret] at q; cases q) hlk (fun fs hr => retN X hx (t := .boolean) hret (by simp) (hb hby at_156) hr) (by decide) (by decide) ⟨rfl, N⟩
  have b151 : ∀ (T : State) (L : List Loc) (h : Heap) (X : Stand p l e room_1 s m #[(.long p0), (.int p1)] below meth c T L 2 2) (eT : T.heap = h) (N : Fr n0 L) (Zs : n0 ≤ h.size) (z0 : Int64) (d2 : Slot) (od2 : OneS d2) (d3 : Slot) (od3 : OneS d3) (d4 : Slot) (od4 : OneS d4) (d5 : Slot) (od5 : OneS d5) (z6 : Int64) (z8 : Int64) (d10 : Slot) (od10 : OneS d10) (z11 : Int64) (z13 : Int64), Ends p e below s 2 2 (Q0 Z  h0 n0 (F0_151 K)) (T.setTop (mkF m 151 #[.val (.long z0), .second, d2, d3, d4, d5, .val (.long z6), .second, .val (.long z8), .second, d10, .val (.long z11), .second, .val (.long z13), .second] [])) := by
    intro T L h X eT N Zs z0 d2 od2 d3 od3 d4 od4 d5 od5 z6 z8 d10 od10 z11 z13
    refine Ends.step (u' := (T.setTop (mkF m 152 #[.val (.long z0), .second, d2, d3, d4, d5, .val (.long z6), .second, .val (.long z8), .second, d10, .val (.long z11), .second, .val (.long z13), .second] [(.int (1 : Int32))]))) ?_ (fun _ k => XT.iconstV X.here hx rfl (1 : Int32) (hb hby at_151) rfl k)
    refine Ends.step (u' := (T.setTop (mkF m 156 #[.val (.long z0), .second, d2, d3, d4, d5, .val (.long z6), .second, .val (.long z8), .second, d10, .val (.long z11), .second, .val (.long z13), .second] [(.int (1 : Int32))]))) ?_ (fun _ k => XS.goto X.here hx rfl (pc0 := 152) (pc' := 156) rfl (hb hby at_152) (by decide) (by decide) k)
    exact b156 T _ _ X eT N Zs (1 : Int32) z0 (d2) od2 (d3) od3 (d4) od4 (d5) od5 z6 z8 (d10) od10 z11 z13
  have b155 : ∀ (T : State) (L : List Loc) (h : Heap) (X : Stand p l e room_1 s m #[(.long p0), (.int p1)] below meth c T L 2 2) (eT : T.heap = h) (N : Fr n0 L) (Zs : n0 ≤ h.size) (z0 : Int64) (d2 : Slot) (od2 : OneS d2) (d3 : Slot) (od3 : OneS d3) (d4 : Slot) (od4 : OneS d4) (d5 : Slot) (od5 : OneS d5) (z6 : Int64) (z8 : Int64) (d10 : Slot) (od10 : OneS d10) (z11 : Int64) (z13 : Int64), Ends p e below s 2 2 (Q0 Z  h0 n0 (F0_155 K)) (T.setTop (mkF m 155 #[.val (.long z0), .second, d2, d3, d4, d5, .val (.long z6), .second, .val (.long z8), .second, d10, .val (.long z11), .second, .val (.long z13), .second] [])) := by
    intro T L h X eT N Zs z0 d2 od2 d3 od3 d4 od4 d5 od5 z6 z8 d10 od10 z11 z13
    refine Ends.step (u' := (T.setTop (mkF m 156 #[.val (.long z0), .second, d2, d3, d4, d5, .val (.long z6), .second, .val (.long z8), .second, d10, .val (.long z11), .second, .val (.long z13), .second] [(.int (0 : Int32))]))) ?_ (fun _ k => XT.iconstV X.here hx rfl (0 : Int32) (hb hby at_155) rfl k)
    exact b156 T _ _ X eT N Zs (0 : Int32) z0 (d2) od2 (d3) od3 (d4) od4 (d5) od5 z6 z8 (d10) od10 z11 z13
  have b137 : ∀ (T : State) (L : List Loc) (h : Heap) (X : Stand p l e room_1 s m #[(.long p0), (.int p1)] below meth c T L 2 2) (eT : T.heap = h) (N : Fr n0 L) (Zs : n0 ≤ h.size) (cq10_state : Int64) (cq20_state : Int64) (z0 : Int64) (d2 : Slot) (od2 : OneS d2) (d3 : Slot) (od3 : OneS d3) (z6 : Int64) (z8 : Int64) (d10 : Slot) (od10 : OneS d10) (z11 : Int64) (z13 : Int64) (a_q10 : Addr) (g_q10 : n0 ≤ a_q10) (a_q20 : Addr) (g_q20 : n0 ≤ a_q20) (ne_q10_q20 : a_q10 ≠ a_q20) (E_q10 : Exa Z h a_q10 "com/example/holywell/holywell/generate/Draws") (F_q10_state : Fld Z h a_q10 "com/example/holywell/holywell/generate/Draws" "state" "J" (.long cq10_state)) (E_q20 : Exa Z h a_q20 "com/example/holywell/holywell/generate/Draws") (F_q20_state : Fld Z h a_q20 "com/example/holywell/holywell/generate/Draws" "state" "J" (.long cq20_state)), Ends p e below s 2 2 (Q0 Z  h0 n0 (F0_137 K cq10_state cq20_state)) (T.setTop (mkF m 137 #[.val (.long z0), .second, d2, d3, .val (.ref a_q10), .val (.ref a_q20), .val (.long z6), .second, .val (.long z8), .second, d10, .val (.long z11), .second, .val (.long z13), .second] [])) := by
    intro T L h X eT N Zs cq10_state cq20_state z0 d2 od2 d3 od3 z6 z8 d10 od10 z11 z13 a_q10 g_q10 a_q20 g_q20 ne_q10_q20 E_q10 F_q10_state E_q20 F_q20_state
    refine Ends.step (u' := (T.setTop (mkF m 139 #[.val (.long z0), .second, d2, d3, .val (.ref a_q10), .val (.ref a_q20), .val (.long z6), .second, .val (.long z8), .second, d10, .val (.long z11), .second, .val (.long z13), .second] [(.ref a_q10)]))) ?_ (fun _ k => XS.aload X.here hx rfl (hb hby at_137) rfl rfl k)
    refine Ends.callV X hx hZ hown (hw _ (List.mem_of_getElem? (i := 29) rfl)) (hw _ (List.mem_of_getElem? (i := 22) rfl)) (hw _ (List.mem_of_getElem? (i := 24) rfl)) (hw _ (List.mem_of_getElem? (i := 23) rfl)) (hw _ (List.mem_of_getElem? (i := 3) rfl)) (hw _ (List.mem_of_getElem? (i := 25) rfl)) (by decide) (rm4 l Z a0 hw cq10_state a_q10 h n0 Zs E_q10 F_q10_state g_q10) 0 (by decide) (by decide) eT a_q10 E_q10 (g := (mkF m 139 #[.val (.long z0), .second, d2, d3, .val (.ref a_q10), .val (.ref a_q20), .val (.long z6), .second, .val (.long z8), .second, d10, .val (.long z11), .second, .val (.long z13), .second] [(.ref a_q10)])) rfl (by rw [hml]; rfl)  [] [] (lenOf pd_0 rfl) rfl (by show 2 * 0 + _ ≤ _; exact Nat.le_of_eq rfl) (hb hby at_139) rfl (by decide) (by decide) (fun v13 T13 L13 X13 hQ13 => ?_)
    obtain ⟨rfl, Nq13, Kq13, Fd14⟩ := hQ13
    have N13 := Fr.app N Nq13
    show Ends p e below s _ _ _ (T13.setTop (mkF m 142 #[.val (.long z0), .second, d2, d3, .val (.ref a_q10), .val (.ref a_q20), .val (.long z6), .second, .val (.long z8), .second, d10, .val (.long z11), .second, .val (.long z13), .second] [(.long (F4 cq10_state).1)]))
    have E15 := E_q10.keep Kq13
    have E16 := E_q20.keep Kq13
    have Fd17 := F_q20_state.keep Kq13 (ninS ne_q10_q20.symm nin0)
    have Z18 := Nat.le_trans Zs Kq13.1
    refine Ends.step (u' := (T13.setTop (mkF m 144 #[.val (.long z0), .second, d2, d3, .val (.ref a_q10), .val (.ref a_q20), .val (.long z6), .second, .val (.long z8), .second, d10, .val (.long z11), .second, .val (.long z13), .second] [(.ref a_q20), (.long (F4 cq10_state).1)]))) ?_ (fun _ k => XS.aload X13.here hx rfl (hb hby at_142) rfl rfl k)
    refine Ends.callV X13 hx hZ hown (hw _ (List.mem_of_getElem? (i := 29) rfl)) (hw _ (List.mem_of_getElem? (i := 22) rfl)) (hw _ (List.mem_of_getElem? (i := 24) rfl)) (hw _ (List.mem_of_getElem? (i := 23) rfl)) (hw _ (List.mem_of_getElem? (i := 3) rfl)) (hw _ (List.mem_of_getElem? (i := 25) rfl)) (by decide) (rm4 l Z a0 hw cq20_state a_q20 T13.heap n0 Z18 E16 Fd17 g_q20) 2 (by decide) (by decide) rfl a_q20 E16 (g := (mkF m 144 #[.val (.long z0), .second, d2, d3, .val (.ref a_q10), .val (.ref a_q20), .val (.long z6), .second, .val (.long z8), .second, d10, .val (.long z11), .second, .val (.long z13), .second] [(.ref a_q20), (.long (F4 cq10_state).1)])) rfl (by rw [hml]; rfl)  [] [(.long (F4 cq10_state).1)] (lenOf pd_0 rfl) rfl (by show 2 * 0 + _ ≤ _; exact Nat.le_of_eq rfl) (hb hby at_144) rfl (by decide) (by decide) (fun v19 T19 L19 X19 hQ19 => ?_)
    obtain ⟨rfl, Nq19, Kq19, Fd20⟩ := hQ19
    have N19 := Fr.app N13 Nq19
    show Ends p e below s _ _ _ (T19.setTop (mkF m 147 #[.val (.long z0), .second, d2, d3, .val (.ref a_q10), .val (.ref a_q20), .val (.long z6), .second, .val (.long z8), .second, d10, .val (.long z11), .second, .val (.long z13), .second] [(.long (F4 cq20_state).1), (.long (F4 cq10_state).1)]))
    have E21 := E15.keep Kq19
    have Fd22 := Fd14.keep Kq19 (ninS ne_q10_q20 nin0)
    have E23 := E16.keep Kq19
    have Z24 := Nat.le_trans Z18 Kq19.1
    refine Ends.step (u' := (T19.setTop (mkF m 148 #[.val (.long z0), .second, d2, d3, .val (.ref a_q10), .val (.ref a_q20), .val (.long z6), .second, .val (.long z8), .second, d10, .val (.long z11), .second, .val (.long z13), .second] [(.int (XT.cmpL (F4 cq10_state).1 (F4 cq20_state).1))]))) ?_ (fun _ k => XT.lcmp X19.here hx rfl (hb hby at_147) rfl k)
    by_cases hc148 : (F4 cq10_state).1 = (F4 cq20_state).1
    · refine Eq.mp (congrArg (fun z => Ends p e below s 2 2 (Q0 Z  h0 n0 z) (T19.setTop (mkF m 148 #[.val (.long z0), .second, d2, d3, .val (.ref a_q10), .val (.ref a_q20), .val (.long z6), .second, .val (.long z8), .second, d10, .val (.long z11), .second, .val (.long z13), .second] [(.int (XT.cmpL (F4 cq10_state).1 (F4 cq20_state).1))]))) (show (F0_137 K cq10_state cq20_state) = (F0_151 K) from (if_pos hc148)).symm) ?_
      refine Ends.step (u' := (T19.setTop (mkF m 151 #[.val (.long z0), .second, d2, d3, .val (.ref a_q10), .val (.ref a_q20), .val (.long z6), .second, .val (.long z8), .second, d10, .val (.long z11), .second, .val (.long z13), .second] []))) ?_ (fun _ k => XS.ifNo X19.here hx rfl (hb hby at_148) rfl (XT.ll_ne_f hc148) k)
      exact b151 T19 _ _ X19 rfl N19 Z24 z0 (d2) od2 (d3) od3 (.val (.ref a_q10)) (Or.inr ⟨_, rfl, rfl⟩) (.val (.ref a_q20)) (Or.inr ⟨_, rfl, rfl⟩) z6 z8 (d10) od10 z11 z13
    · refine Eq.mp (congrArg (fun z => Ends p e below s 2 2 (Q0 Z  h0 n0 z) (T19.setTop (mkF m 148 #[.val (.long z0), .second, d2, d3, .val (.ref a_q10), .val (.ref a_q20), .val (.long z6), .second, .val (.long z8), .second, d10, .val (.long z11), .second, .val (.long z13), .second] [(.int (XT.cmpL (F4 cq10_state).1 (F4 cq20_state).1))]))) (show (F0_137 K cq10_state cq20_state) = (F0_155 K) from (if_neg hc148)).symm) ?_
      refine Ends.step (u' := (T19.setTop (mkF m 155 #[.val (.long z0), .second, d2, d3, .val (.ref a_q10), .val (.ref a_q20), .val (.long z6), .second, .val (.long z8), .second, d10, .val (.long z11), .second, .val (.long z13), .second] []))) ?_ (fun _ k => XS.ifYes X19.here hx rfl (pc0 := 148) (pc' := 155) rfl (hb hby at_148) rfl (XT.ll_ne_t hc148) (by decide) (by decide) k)
      exact b155 T19 _ _ X19 rfl N19 Z24 z0 (d2) od2 (d3) od3 (.val (.ref a_q10)) (Or.inr ⟨_, rfl, rfl⟩) (.val (.ref a_q20)) (Or.inr ⟨_, rfl, rfl⟩) z6 z8 (d10) od10 z11 z13
  have b126 : ∀ (T : State) (L : List Loc) (h : Heap) (X : Stand p l e room_1 s m #[(.long p0), (.int p1)] below meth c T L 2 2) (eT : T.heap = h) (N : Fr n0 L) (Zs : n0 ≤ h.size) (cq10_state : Int64) (cq20_state : Int64) (x3 : Int32) (x10 : Int32) (x13 : Int64) (z0 : Int64) (d2 : Slot) (od2 : OneS d2) (z6 : Int64) (z8 : Int64) (z11 : Int64) (a_q10 : Addr) (g_q10 : n0 ≤ a_q10) (a_q20 : Addr) (g_q20 : n0 ≤ a_q20) (ne_q10_q20 : a_q10 ≠ a_q20) (E_q10 : Exa Z h a_q10 "com/example/holywell/holywell/generate/Draws") (F_q10_state : Fld Z h a_q10 "com/example/holywell/holywell/generate/Draws" "state" "J" (.long cq10_state)) (E_q20 : Exa Z h a_q20 "com/example/holywell/holywell/generate/Draws") (F_q20_state : Fld Z h a_q20 "com/example/holywell/holywell/generate/Draws" "state" "J" (.long cq20_state)) (ok : (O0_126 K cq10_state cq20_state x3 x10 x13)), Ends p e below s 2 2 (Q0 Z  h0 n0 (F0_126 K cq10_state cq20_state x3 x10 x13)) (T.setTop (mkF m 126 #[.val (.long z0), .second, d2, .val (.int x3), .val (.ref a_q10), .val (.ref a_q20), .val (.long z6), .second, .val (.long z8), .second, .val (.int x10), .val (.long z11), .second, .val (.long x13), .second] [])) := by
    intro T L h X eT N Zs cq10_state cq20_state x3 x10 x13 z0 d2 od2 z6 z8 z11 a_q10 g_q10 a_q20 g_q20 ne_q10_q20 E_q10 F_q10_state E_q20 F_q20_state ok
    obtain ⟨o1, okt, okf⟩ := ok
    refine Ends.step (u' := (T.setTop (mkF m 128 #[.val (.long z0), .second, d2, .val (.int x3), .val (.ref a_q10), .val (.ref a_q20), .val (.long z6), .second, .val (.long z8), .second, .val (.int x10), .val (.long z11), .second, .val (.long x13), .second] [(.int x10)]))) ?_ (fun _ k => XS.iload X.here hx rfl (hb hby at_126) rfl k)
    refine Ends.step (u' := (T.setTop (mkF m 130 #[.val (.long z0), .second, d2, .val (.int x3), .val (.ref a_q10), .val (.ref a_q20), .val (.long z6), .second, .val (.long z8), .second, .val (.int x10), .val (.long z11), .second, .val (.long x13), .second] [(.long x13), (.int x10)]))) ?_ (fun _ k => XT.lload X.here hx rfl (hb hby at_128) rfl k)
    refine Ends.step (u' := (T.setTop (mkF m 131 #[.val (.long z0), .second, d2, .val (.int x3), .val (.ref a_q10), .val (.ref a_q20), .val (.long z6), .second, .val (.long z8), .second, .val (.int x10), .val (.long z11), .second, .val (.long x13), .second] [(.int x3), (.long x13), (.int x10)]))) ?_ (fun _ k => XS.iloadN X.here hx rfl (hb hby at_130) rfl k)
    refine Ends.step (u' := (T.setTop (mkF m 132 #[.val (.long z0), .second, d2, .val (.int x3), .val (.ref a_q10), .val (.ref a_q20), .val (.long z6), .second, .val (.long z8), .second, .val (.int x10), .val (.long z11), .second, .val (.long x13), .second] [(.long ((x3).toInt64)), (.long x13), (.int x10)]))) ?_ (fun _ k => XT.i2l X.here hx rfl (hb hby at_131) rfl k)
    refine Ends.step (u' := (T.setTop (mkF m 133 #[.val (.long z0), .second, d2, .val (.int x3), .val (.ref a_q10), .val (.ref a_q20), .val (.long z6), .second, .val (.long z8), .second, .val (.int x10), .val (.long z11), .second, .val (.long x13), .second] [(.long (x13 - (x13 / ((x3).toInt64)) * ((x3).toInt64))), (.int x10)]))) ?_ (fun _ k => XT.lrem X.here hx rfl (hb hby at_132) rfl o1 k)
    refine Ends.step (u' := (T.setTop (mkF m 134 #[.val (.long z0), .second, d2, .val (.int x3), .val (.ref a_q10), .val (.ref a_q20), .val (.long z6), .second, .val (.long z8), .second, .val (.int x10), .val (.long z11), .second, .val (.long x13), .second] [(.int (((x13 - (x13 / ((x3).toInt64)) * ((x3).toInt64))).toInt32)), (.int x10)]))) ?_ (fun _ k => XT.l2i X.here hx rfl (hb hby at_133) rfl k)
    by_cases hc134 : x10 = (((x13 - (x13 / ((x3).toInt64)) * ((x3).toInt64))).toInt32)
    · refine Eq.mp (congrArg (fun z => Ends p e below s 2 2 (Q0 Z  h0 n0 z) (T.setTop (mkF m 134 #[.val (.long z0), .second, d2, .val (.int x3), .val (.ref a_q10), .val (.ref a_q20), .val (.long z6), .second, .val (.long z8), .second, .val (.int x10), .val (.long z11), .second, .val (.long x13), .second] [(.int (((x13 - (x13 / ((x3).toInt64)) * ((x3).toInt64))).toInt32)), (.int x10)]))) (show (F0_126 K cq10_state cq20_state x3 x10 x13) = (F0_137 K cq10_state cq20_state) from (if_pos hc134)).symm) ?_
      refine Ends.step (u' := (T.setTop (mkF m 137 #[.val (.long z0), .second, d2, .val (.int x3), .val (.ref a_q10), .val (.ref a_q20), .val (.long z6), .second, .val (.long z8), .second, .val (.int x10), .val (.long z11), .second, .val (.long x13), .second] []))) ?_ (fun _ k => XS.icmpNo X.here hx rfl (hb hby at_134) rfl (XT.ii_ne_f hc134) k)
      exact b137 T _ _ X eT N Zs cq10_state cq20_state z0 (d2) od2 (.val (.int x3)) (Or.inr ⟨_, rfl, rfl⟩) z6 z8 (.val (.int x10)) (Or.inr ⟨_, rfl, rfl⟩) z11 x13 a_q10 g_q10 a_q20 g_q20 ne_q10_q20 E_q10 F_q10_state E_q20 F_q20_state
    · refine Eq.mp (congrArg (fun z => Ends p e below s 2 2 (Q0 Z  h0 n0 z) (T.setTop (mkF m 134 #[.val (.long z0), .second, d2, .val (.int x3), .val (.ref a_q10), .val (.ref a_q20), .val (.long z6), .second, .val (.long z8), .second, .val (.int x10), .val (.long z11), .second, .val (.long x13), .second] [(.int (((x13 - (x13 / ((x3).toInt64)) * ((x3).toInt64))).toInt32)), (.int x10)]))) (show (F0_126 K cq10_state cq20_state x3 x10 x13) = (F0_155 K) from (if_neg hc134)).symm) ?_
      refine Ends.step (u' := (T.setTop (mkF m 155 #[.val (.long z0), .second, d2, .val (.int x3), .val (.ref a_q10), .val (.ref a_q20), .val (.long z6), .second, .val (.long z8), .second, .val (.int x10), .val (.long z11), .second, .val (.long x13), .second] []))) ?_ (fun _ k => XS.icmpYes X.here hx rfl (pc0 := 134) (pc' := 155) rfl (hb hby at_134) rfl (XT.ii_ne_t hc134) (by decide) (by decide) k)
      exact b155 T _ _ X eT N Zs z0 (d2) od2 (.val (.int x3)) (Or.inr ⟨_, rfl, rfl⟩) (.val (.ref a_q10)) (Or.inr ⟨_, rfl, rfl⟩) (.val (.ref a_q20)) (Or.inr ⟨_, rfl, rfl⟩) z6 z8 (.val (.int x10)) (Or.inr ⟨_, rfl, rfl⟩) z11 x13
  have b173 : ∀ (T : State) (L : List Loc) (h : Heap) (X : Stand p l e room_1 s m #[(.long p0), (.int p1)] below meth c T L 2 2) (eT : T.heap = h) (N : Fr n0 L) (Zs : n0 ≤ h.size) (t0 : Int32) (z0 : Int64) (d2 : Slot) (od2 : OneS d2) (d3 : Slot) (od3 : OneS d3) (d4 : Slot) (od4 : OneS d4) (d5 : Slot) (od5 : OneS d5) (z6 : Int64) (z8 : Int64) (d10 : Slot) (od10 : OneS d10) (z11 : Int64) (z13 : Int64), Ends p e below s 2 2 (Q0 Z  h0 n0 (F0_173 K t0)) (T.setTop (mkF m 173 #[.val (.long z0), .second, d2, d3, d4, d5, .val (.long z6), .second, .val (.long z8), .second, d10, .val (.long z11), .second, .val (.long z13), .second] [(.int t0)])) := by
    intro T L h X eT N Zs t0 z0 d2 od2 d3 od3 d4 od4 d5 od5 z6 z8 d10 od10 z11 z13
    exact Ends.ret X (v := some (.int (nar .boolean t0))) (fun q => by rw [hret] at q; cases q) hlk (fun fs hr => retN X hx (t := .boolean) hret (by simp) (hb hby at_173) hr) (by decide) (by decide) ⟨rfl, N⟩
  have b168 : ∀ (T : State) (L : List Loc) (h : Heap) (X : Stand p l e room_1 s m #[(.long p0), (.int p1)] below meth c T L 2 2) (eT : T.heap = h) (N : Fr n0 L) (Zs : n0 ≤ h.size) (z0 : Int64) (d2 : Slot) (od2 : OneS d2) (d3 : Slot) (od3 : OneS d3) (d4 : Slot) (od4 : OneS d4) (d5 : Slot) (od5 : OneS d5) (z6 : Int64) (z8 : Int64) (d10 : Slot) (od10 : OneS d10) (z11 : Int64) (z13 : Int64), Ends p e below s 2 2 (Q0 Z  h0 n0 (F0_168 K)) (T.setTop (mkF m 168 #[.val (.long z0), .second, d2, d3, d4, d5, .val (.long z6), .second, .val (.long z8), .second, d10, .val (.long z11), .second, .val (.long z13), .second] [])) := by
    intro T L h X eT N Zs z0 d2 od2 d3 od3 d4 od4 d5 od5 z6 z8 d10 od10 z11 z13
    refine Ends.step (u' := (T.setTop (mkF m 169 #[.val (.long z0), .second, d2, d3, d4, d5, .val (.long z6), .second, .val (.long z8), .second, d10, .val (.long z11), .second, .val (.long z13), .second] [(.int (1 : Int32))]))) ?_ (fun _ k => XT.iconstV X.here hx rfl (1 : Int32) (hb hby at_168) rfl k)
    refine Ends.step (u' := (T.setTop (mkF m 173 #[.val (.long z0), .second, d2, d3, d4, d5, .val (.long z6), .second, .val (.long z8), .second, d10, .val (.long z11), .second, .val (.long z13), .second] [(.int (1 : Int32))]))) ?_ (fun _ k => XS.goto X.here hx rfl (pc0 := 169) (pc' := 173) rfl (hb hby at_169) (by decide) (by decide) k)
    exact b173 T _ _ X eT N Zs (1 : Int32) z0 (d2) od2 (d3) od3 (d4) od4 (d5) od5 z6 z8 (d10) od10 z11 z13
  have b172 : ∀ (T : State) (L : List Loc) (h : Heap) (X : Stand p l e room_1 s m #[(.long p0), (.int p1)] below meth c T L 2 2) (eT : T.heap = h) (N : Fr n0 L) (Zs : n0 ≤ h.size) (z0 : Int64) (d2 : Slot) (od2 : OneS d2) (d3 : Slot) (od3 : OneS d3) (d4 : Slot) (od4 : OneS d4) (d5 : Slot) (od5 : OneS d5) (z6 : Int64) (z8 : Int64) (d10 : Slot) (od10 : OneS d10) (z11 : Int64) (z13 : Int64), Ends p e below s 2 2 (Q0 Z  h0 n0 (F0_172 K)) (T.setTop (mkF m 172 #[.val (.long z0), .second, d2, d3, d4, d5, .val (.long z6), .second, .val (.long z8), .second, d10, .val (.long z11), .second, .val (.long z13), .second] [])) := by
    intro T L h X eT N Zs z0 d2 od2 d3 od3 d4 od4 d5 od5 z6 z8 d10 od10 z11 z13
    refine Ends.step (u' := (T.setTop (mkF m 173 #[.val (.long z0), .second, d2, d3, d4, d5, .val (.long z6), .second, .val (.long z8), .second, d10, .val (.long z11), .second, .val (.long z13), .second] [(.int (0 : Int32))]))) ?_ (fun _ k => XT.iconstV X.here hx rfl (0 : Int32) (hb hby at_172) rfl k)
    exact b173 T _ _ X eT N Zs (0 : Int32) z0 (d2) od2 (d3) od3 (d4) od4 (d5) od5 z6 z8 (d10) od10 z11 z13
  have b162 : ∀ (T : State) (L : List Loc) (h : Heap) (X : Stand p l e room_1 s m #[(.long p0), (.int p1)] below meth c T L 2 2) (eT : T.heap = h) (N : Fr n0 L) (Zs : n0 ≤ h.size) (x3 : Int32) (x10 : Int32) (z0 : Int64) (d2 : Slot) (od2 : OneS d2) (d4 : Slot) (od4 : OneS d4) (d5 : Slot) (od5 : OneS d5) (z6 : Int64) (z8 : Int64) (z11 : Int64) (z13 : Int64), Ends p e below s 2 2 (Q0 Z  h0 n0 (F0_162 K x3 x10)) (T.setTop (mkF m 162 #[.val (.long z0), .second, d2, .val (.int x3), d4, d5, .val (.long z6), .second, .val (.long z8), .second, .val (.int x10), .val (.long z11), .second, .val (.long z13), .second] [])) := by
    intro T L h X eT N Zs x3 x10 z0 d2 od2 d4 od4 d5 od5 z6 z8 z11 z13
    refine Ends.step (u' := (T.setTop (mkF m 164 #[.val (.long z0), .second, d2, .val (.int x3), d4, d5, .val (.long z6), .second, .val (.long z8), .second, .val (.int x10), .val (.long z11), .second, .val (.long z13), .second] [(.int x10)]))) ?_ (fun _ k => XS.iload X.here hx rfl (hb hby at_162) rfl k)
    refine Ends.step (u' := (T.setTop (mkF m 165 #[.val (.long z0), .second, d2, .val (.int x3), d4, d5, .val (.long z6), .second, .val (.long z8), .second, .val (.int x10), .val (.long z11), .second, .val (.long z13), .second] [(.int x3), (.int x10)]))) ?_ (fun _ k => XS.iloadN X.here hx rfl (hb hby at_164) rfl k)
    by_cases hc165 : x10 < x3
    · refine Eq.mp (congrArg (fun z => Ends p e below s 2 2 (Q0 Z  h0 n0 z) (T.setTop (mkF m 165 #[.val (.long z0), .second, d2, .val (.int x3), d4, d5, .val (.long z6), .second, .val (.long z8), .second, .val (.int x10), .val (.long z11), .second, .val (.long z13), .second] [(.int x3), (.int x10)]))) (show (F0_162 K x3 x10) = (F0_168 K) from (if_pos hc165)).symm) ?_
      refine Ends.step (u' := (T.setTop (mkF m 168 #[.val (.long z0), .second, d2, .val (.int x3), d4, d5, .val (.long z6), .second, .val (.long z8), .second, .val (.int x10), .val (.long z11), .second, .val (.long z13), .second] []))) ?_ (fun _ k => XS.icmpNo X.here hx rfl (hb hby at_165) rfl (XT.ii_ge_f hc165) k)
      exact b168 T _ _ X eT N Zs z0 (d2) od2 (.val (.int x3)) (Or.inr ⟨_, rfl, rfl⟩) (d4) od4 (d5) od5 z6 z8 (.val (.int x10)) (Or.inr ⟨_, rfl, rfl⟩) z11 z13
    · refine Eq.mp (congrArg (fun z => Ends p e below s 2 2 (Q0 Z  h0 n0 z) (T.setTop (mkF m 165 #[.val (.long z0), .second, d2, .val (.int x3), d4, d5, .val (.long z6), .second, .val (.long z8), .second, .val (.int x10), .val (.long z11), .second, .val (.long z13), .second] [(.int x3), (.int x10)]))) (show (F0_162 K x3 x10) = (F0_172 K) from (if_neg hc165)).symm) ?_
      refine Ends.step (u' := (T.setTop (mkF m 172 #[.val (.long z0), .second, d2, .val (.int x3), d4, d5, .val (.long z6), .second, .val (.long z8), .second, .val (.int x10), .val (.long z11), .second, .val (.long z13), .second] []))) ?_ (fun _ k => XS.icmpYes X.here hx rfl (pc0 := 165) (pc' := 172) rfl (hb hby at_165) rfl (XT.ii_ge_t hc165) (by decide) (by decide) k)
      exact b172 T _ _ X eT N Zs z0 (d2) od2 (.val (.int x3)) (Or.inr ⟨_, rfl, rfl⟩) (d4) od4 (d5) od5 z6 z8 (.val (.int x10)) (Or.inr ⟨_, rfl, rfl⟩) z11 z13
  have b157 : ∀ (T : State) (L : List Loc) (h : Heap) (X : Stand p l e room_1 s m #[(.long p0), (.int p1)] below meth c T L 2 2) (eT : T.heap = h) (N : Fr n0 L) (Zs : n0 ≤ h.size) (x3 : Int32) (x10 : Int32) (z0 : Int64) (d2 : Slot) (od2 : OneS d2) (d4 : Slot) (od4 : OneS d4) (d5 : Slot) (od5 : OneS d5) (z6 : Int64) (z8 : Int64) (z11 : Int64) (z13 : Int64), Ends p e below s 2 2 (Q0 Z  h0 n0 (F0_157 K x3 x10)) (T.setTop (mkF m 157 #[.val (.long z0), .second, d2, .val (.int x3), d4, d5, .val (.long z6), .second, .val (.long z8), .second, .val (.int x10), .val (.long z11), .second, .val (.long z13), .second] [])) := by
    intro T L h X eT N Zs x3 x10 z0 d2 od2 d4 od4 d5 od5 z6 z8 z11 z13
    refine Ends.step (u' := (T.setTop (mkF m 159 #[.val (.long z0), .second, d2, .val (.int x3), d4, d5, .val (.long z6), .second, .val (.long z8), .second, .val (.int x10), .val (.long z11), .second, .val (.long z13), .second] [(.int x10)]))) ?_ (fun _ k => XS.iload X.here hx rfl (hb hby at_157) rfl k)
    by_cases hc159 : x10 < 0
    · refine Eq.mp (congrArg (fun z => Ends p e below s 2 2 (Q0 Z  h0 n0 z) (T.setTop (mkF m 159 #[.val (.long z0), .second, d2, .val (.int x3), d4, d5, .val (.long z6), .second, .val (.long z8), .second, .val (.int x10), .val (.long z11), .second, .val (.long z13), .second] [(.int x10)]))) (show (F0_157 K x3 x10) = (F0_172 K) from (if_pos hc159)).symm) ?_
      refine Ends.step (u' := (T.setTop (mkF m 172 #[.val (.long z0), .second, d2, .val (.int x3), d4, d5, .val (.long z6), .second, .val (.long z8), .second, .val (.int x10), .val (.long z11), .second, .val (.long z13), .second] []))) ?_ (fun _ k => XS.ifYes X.here hx rfl (pc0 := 159) (pc' := 172) rfl (hb hby at_159) rfl (XT.i0_lt_t hc159) (by decide) (by decide) k)
      exact b172 T _ _ X eT N Zs z0 (d2) od2 (.val (.int x3)) (Or.inr ⟨_, rfl, rfl⟩) (d4) od4 (d5) od5 z6 z8 (.val (.int x10)) (Or.inr ⟨_, rfl, rfl⟩) z11 z13
    · refine Eq.mp (congrArg (fun z => Ends p e below s 2 2 (Q0 Z  h0 n0 z) (T.setTop (mkF m 159 #[.val (.long z0), .second, d2, .val (.int x3), d4, d5, .val (.long z6), .second, .val (.long z8), .second, .val (.int x10), .val (.long z11), .second, .val (.long z13), .second] [(.int x10)]))) (show (F0_157 K x3 x10) = (F0_162 K x3 x10) from (if_neg hc159)).symm) ?_
      refine Ends.step (u' := (T.setTop (mkF m 162 #[.val (.long z0), .second, d2, .val (.int x3), d4, d5, .val (.long z6), .second, .val (.long z8), .second, .val (.int x10), .val (.long z11), .second, .val (.long z13), .second] []))) ?_ (fun _ k => XS.ifNo X.here hx rfl (hb hby at_159) rfl (XT.i0_lt_f hc159) k)
      exact b162 T _ _ X eT N Zs x3 x10 z0 (d2) od2 (d4) od4 (d5) od5 z6 z8 z11 z13
  have b118 : ∀ (T : State) (L : List Loc) (h : Heap) (X : Stand p l e room_1 s m #[(.long p0), (.int p1)] below meth c T L 2 2) (eT : T.heap = h) (N : Fr n0 L) (Zs : n0 ≤ h.size) (cq10_state : Int64) (cq20_state : Int64) (x3 : Int32) (x8 : Int64) (x10 : Int32) (x13 : Int64) (z0 : Int64) (d2 : Slot) (od2 : OneS d2) (z6 : Int64) (z11 : Int64) (a_q10 : Addr) (g_q10 : n0 ≤ a_q10) (a_q20 : Addr) (g_q20 : n0 ≤ a_q20) (ne_q10_q20 : a_q10 ≠ a_q20) (E_q10 : Exa Z h a_q10 "com/example/holywell/holywell/generate/Draws") (F_q10_state : Fld Z h a_q10 "com/example/holywell/holywell/generate/Draws" "state" "J" (.long cq10_state)) (E_q20 : Exa Z h a_q20 "com/example/holywell/holywell/generate/Draws") (F_q20_state : Fld Z h a_q20 "com/example/holywell/holywell/generate/Draws" "state" "J" (.long cq20_state)) (ok : (O0_118 K cq10_state cq20_state x3 x8 x10 x13)), Ends p e below s 2 2 (Q0 Z  h0 n0 (F0_118 K cq10_state cq20_state x3 x8 x10 x13)) (T.setTop (mkF m 118 #[.val (.long z0), .second, d2, .val (.int x3), .val (.ref a_q10), .val (.ref a_q20), .val (.long z6), .second, .val (.long x8), .second, .val (.int x10), .val (.long z11), .second, .val (.long x13), .second] [])) := by
    intro T L h X eT N Zs cq10_state cq20_state x3 x8 x10 x13 z0 d2 od2 z6 z11 a_q10 g_q10 a_q20 g_q20 ne_q10_q20 E_q10 F_q10_state E_q20 F_q20_state ok
    obtain ⟨okt, okf⟩ := ok
    refine Ends.step (u' := (T.setTop (mkF m 120 #[.val (.long z0), .second, d2, .val (.int x3), .val (.ref a_q10), .val (.ref a_q20), .val (.long z6), .second, .val (.long x8), .second, .val (.int x10), .val (.long z11), .second, .val (.long x13), .second] [(.long x13)]))) ?_ (fun _ k => XT.lload X.here hx rfl (hb hby at_118) rfl k)
    refine Ends.step (u' := (T.setTop (mkF m 122 #[.val (.long z0), .second, d2, .val (.int x3), .val (.ref a_q10), .val (.ref a_q20), .val (.long z6), .second, .val (.long x8), .second, .val (.int x10), .val (.long z11), .second, .val (.long x13), .second] [(.long x8), (.long x13)]))) ?_ (fun _ k => XT.lload X.here hx rfl (hb hby at_120) rfl k)
    refine Ends.step (u' := (T.setTop (mkF m 123 #[.val (.long z0), .second, d2, .val (.int x3), .val (.ref a_q10), .val (.ref a_q20), .val (.long z6), .second, .val (.long x8), .second, .val (.int x10), .val (.long z11), .second, .val (.long x13), .second] [(.int (XT.cmpL x13 x8))]))) ?_ (fun _ k => XT.lcmp X.here hx rfl (hb hby at_122) rfl k)
    by_cases hc123 : x8 < x13
    · refine Eq.mp (congrArg (fun z => Ends p e below s 2 2 (Q0 Z  h0 n0 z) (T.setTop (mkF m 123 #[.val (.long z0), .second, d2, .val (.int x3), .val (.ref a_q10), .val (.ref a_q20), .val (.long z6), .second, .val (.long x8), .second, .val (.int x10), .val (.long z11), .second, .val (.long x13), .second] [(.int (XT.cmpL x13 x8))]))) (show (F0_118 K cq10_state cq20_state x3 x8 x10 x13) = (F0_157 K x3 x10) from (if_pos hc123)).symm) ?_
      refine Ends.step (u' := (T.setTop (mkF m 157 #[.val (.long z0), .second, d2, .val (.int x3), .val (.ref a_q10), .val (.ref a_q20), .val (.long z6), .second, .val (.long x8), .second, .val (.int x10), .val (.long z11), .second, .val (.long x13), .second] []))) ?_ (fun _ k => XS.ifYes X.here hx rfl (pc0 := 123) (pc' := 157) rfl (hb hby at_123) rfl (XT.ll_gt_t hc123) (by decide) (by decide) k)
      exact b157 T _ _ X eT N Zs x3 x10 z0 (d2) od2 (.val (.ref a_q10)) (Or.inr ⟨_, rfl, rfl⟩) (.val (.ref a_q20)) (Or.inr ⟨_, rfl, rfl⟩) z6 x8 z11 x13
    · refine Eq.mp (congrArg (fun z => Ends p e below s 2 2 (Q0 Z  h0 n0 z) (T.setTop (mkF m 123 #[.val (.long z0), .second, d2, .val (.int x3), .val (.ref a_q10), .val (.ref a_q20), .val (.long z6), .second, .val (.long x8), .second, .val (.int x10), .val (.long z11), .second, .val (.long x13), .second] [(.int (XT.cmpL x13 x8))]))) (show (F0_118 K cq10_state cq20_state x3 x8 x10 x13) = (F0_126 K cq10_state cq20_state x3 x10 x13) from (if_neg hc123)).symm) ?_
      refine Ends.step (u' := (T.setTop (mkF m 126 #[.val (.long z0), .second, d2, .val (.int x3), .val (.ref a_q10), .val (.ref a_q20), .val (.long z6), .second, .val (.long x8), .second, .val (.int x10), .val (.long z11), .second, .val (.long x13), .second] []))) ?_ (fun _ k => XS.ifNo X.here hx rfl (hb hby at_123) rfl (XT.ll_gt_f hc123) k)
      exact b126 T _ _ X eT N Zs cq10_state cq20_state x3 x10 x13 z0 (d2) od2 z6 x8 z11 a_q10 g_q10 a_q20 g_q20 ne_q10_q20 E_q10 F_q10_state E_q20 F_q20_state (okf hc123)
  have b109 : ∀ (T : State) (L : List Loc) (h : Heap) (X : Stand p l e room_1 s m #[(.long p0), (.int p1)] below meth c T L 2 2) (eT : T.heap = h) (N : Fr n0 L) (Zs : n0 ≤ h.size) (cq10_state : Int64) (cq20_state : Int64) (x3 : Int32) (x8 : Int64) (x10 : Int32) (z0 : Int64) (d2 : Slot) (od2 : OneS d2) (z6 : Int64) (z11 : Int64) (a_q10 : Addr) (g_q10 : n0 ≤ a_q10) (a_q20 : Addr) (g_q20 : n0 ≤ a_q20) (ne_q10_q20 : a_q10 ≠ a_q20) (E_q10 : Exa Z h a_q10 "com/example/holywell/holywell/generate/Draws") (F_q10_state : Fld Z h a_q10 "com/example/holywell/holywell/generate/Draws" "state" "J" (.long cq10_state)) (E_q20 : Exa Z h a_q20 "com/example/holywell/holywell/generate/Draws") (F_q20_state : Fld Z h a_q20 "com/example/holywell/holywell/generate/Draws" "state" "J" (.long cq20_state)) (ok : (O0_109 K cq10_state cq20_state x3 x8 x10)), Ends p e below s 2 2 (Q0 Z  h0 n0 (F0_109 K cq10_state cq20_state x3 x8 x10)) (T.setTop (mkF m 109 #[.val (.long z0), .second, d2, .val (.int x3), .val (.ref a_q10), .val (.ref a_q20), .val (.long z6), .second, .val (.long x8), .second, .val (.int x10), .val (.long z11), .second, .unset, .unset] [])) := by
    intro T L h X eT N Zs cq10_state cq20_state x3 x8 x10 z0 d2 od2 z6 z11 a_q10 g_q10 a_q20 g_q20 ne_q10_q20 E_q10 F_q10_state E_q20 F_q20_state ok
    refine Ends.step (u' := (T.setTop (mkF m 111 #[.val (.long z0), .second, d2, .val (.int x3), .val (.ref a_q10), .val (.ref a_q20), .val (.long z6), .second, .val (.long x8), .second, .val (.int x10), .val (.long z11), .second, .unset, .unset] [(.ref a_q20)]))) ?_ (fun _ k => XS.aload X.here hx rfl (hb hby at_109) rfl rfl k)
    refine Ends.callV X hx hZ hown (hw _ (List.mem_of_getElem? (i := 29) rfl)) (hw _ (List.mem_of_getElem? (i := 22) rfl)) (hw _ (List.mem_of_getElem? (i := 24) rfl)) (hw _ (List.mem_of_getElem? (i := 23) rfl)) (hw _ (List.mem_of_getElem? (i := 3) rfl)) (hw _ (List.mem_of_getElem? (i := 25) rfl)) (by decide) (rm4 l Z a0 hw cq20_state a_q20 h n0 Zs E_q20 F_q20_state g_q20) 0 (by decide) (by decide) eT a_q20 E_q20 (g := (mkF m 111 #[.val (.long z0), .second, d2, .val (.int x3), .val (.ref a_q10), .val (.ref a_q20), .val (.long z6), .second, .val (.long x8), .second, .val (.int x10), .val (.long z11), .second, .unset, .unset] [(.ref a_q20)])) rfl (by rw [hml]; rfl)  [] [] (lenOf pd_0 rfl) rfl (by show 2 * 0 + _ ≤ _; exact Nat.le_of_eq rfl) (hb hby at_111) rfl (by decide) (by decide) (fun v25 T25 L25 X25 hQ25 => ?_)
    obtain ⟨rfl, Nq25, Kq25, Fd26⟩ := hQ25
    have N25 := Fr.app N Nq25
    show Ends p e below s _ _ _ (T25.setTop (mkF m 114 #[.val (.long z0), .second, d2, .val (.int x3), .val (.ref a_q10), .val (.ref a_q20), .val (.long z6), .second, .val (.long x8), .second, .val (.int x10), .val (.long z11), .second, .unset, .unset] [(.long (F4 cq20_state).1)]))
    have E27 := E_q10.keep Kq25
    have Fd28 := F_q10_state.keep Kq25 (ninS ne_q10_q20 nin0)
    have E29 := E_q20.keep Kq25
    have Z30 := Nat.le_trans Zs Kq25.1
    refine Ends.step (u' := (T25.setTop (mkF m 115 #[.val (.long z0), .second, d2, .val (.int x3), .val (.ref a_q10), .val (.ref a_q20), .val (.long z6), .second, .val (.long x8), .second, .val (.int x10), .val (.long z11), .second, .unset, .unset] [(.int (1 : Int32)), (.long (F4 cq20_state).1)]))) ?_ (fun _ k => XT.iconstV X25.here hx rfl (1 : Int32) (hb hby at_114) rfl k)
    refine Ends.step (u' := (T25.setTop (mkF m 116 #[.val (.long z0), .second, d2, .val (.int x3), .val (.ref a_q10), .val (.ref a_q20), .val (.long z6), .second, .val (.long x8), .second, .val (.int x10), .val (.long z11), .second, .unset, .unset] [(.long (XT.ushrL (F4 cq20_state).1 (1 : Int32)))]))) ?_ (fun _ k => XT.lushr X25.here hx rfl (hb hby at_115) rfl k)
    refine Ends.step (u' := (T25.setTop (mkF m 118 #[.val (.long z0), .second, d2, .val (.int x3), .val (.ref a_q10), .val (.ref a_q20), .val (.long z6), .second, .val (.long x8), .second, .val (.int x10), .val (.long z11), .second, .val (.long (XT.ushrL (F4 cq20_state).1 (1 : Int32))), .second] []))) ?_ (fun _ k => XT.lstore X25.here hx rfl (hb hby at_116) rfl (l' := #[.val (.long z0), .second, d2, .val (.int x3), .val (.ref a_q10), .val (.ref a_q20), .val (.long z6), .second, .val (.long x8), .second, .val (.int x10), .val (.long z11), .second, .val (.long (XT.ushrL (F4 cq20_state).1 (1 : Int32))), .second]) rfl k)
    exact b118 T25 _ _ X25 rfl N25 Z30 cq10_state (F4 cq20_state).2 x3 x8 x10 (XT.ushrL (F4 cq20_state).1 (1 : Int32)) z0 (d2) od2 z6 z11 a_q10 g_q10 a_q20 g_q20 ne_q10_q20 E27 Fd28 E29 Fd26 ok
  have b70 : ∀ (T : State) (L : List Loc) (h : Heap) (X : Stand p l e room_1 s m #[(.long p0), (.int p1)] below meth c T L 2 2) (eT : T.heap = h) (N : Fr n0 L) (Zs : n0 ≤ h.size) (cq10_state : Int64) (cq20_state : Int64) (x3 : Int32) (x8 : Int64) (x10 : Int32) (x11 : Int64) (z0 : Int64) (d2 : Slot) (od2 : OneS d2) (z6 : Int64) (a_q10 : Addr) (g_q10 : n0 ≤ a_q10) (a_q20 : Addr) (g_q20 : n0 ≤ a_q20) (ne_q10_q20 : a_q10 ≠ a_q20) (E_q10 : Exa Z h a_q10 "com/example/holywell/holywell/generate/Draws") (F_q10_state : Fld Z h a_q10 "com/example/holywell/holywell/generate/Draws" "state" "J" (.long cq10_state)) (E_q20 : Exa Z h a_q20 "com/example/holywell/holywell/generate/Draws") (F_q20_state : Fld Z h a_q20 "com/example/holywell/holywell/generate/Draws" "state" "J" (.long cq20_state)) (ok : (O0_70 K cq10_state cq20_state x3 x8 x10 x11)), Ends p e below s 2 2 (Q0 Z  h0 n0 (F0_70 K cq10_state cq20_state x3 x8 x10 x11)) (T.setTop (mkF m 70 #[.val (.long z0), .second, d2, .val (.int x3), .val (.ref a_q10), .val (.ref a_q20), .val (.long z6), .second, .val (.long x8), .second, .val (.int x10), .val (.long x11), .second, .unset, .unset] [])) := by
    intro T L h X eT N Zs cq10_state cq20_state x3 x8 x10 x11 z0 d2 od2 z6 a_q10 g_q10 a_q20 g_q20 ne_q10_q20 E_q10 F_q10_state E_q20 F_q20_state ok
    obtain ⟨okt, okf⟩ := ok
    refine Ends.step (u' := (T.setTop (mkF m 72 #[.val (.long z0), .second, d2, .val (.int x3), .val (.ref a_q10), .val (.ref a_q20), .val (.long z6), .second, .val (.long x8), .second, .val (.int x10), .val (.long x11), .second, .unset, .unset] [(.long x11)]))) ?_ (fun _ k => XT.lload X.here hx rfl (hb hby at_70) rfl k)
    refine Ends.step (u' := (T.setTop (mkF m 74 #[.val (.long z0), .second, d2, .val (.int x3), .val (.ref a_q10), .val (.ref a_q20), .val (.long z6), .second, .val (.long x8), .second, .val (.int x10), .val (.long x11), .second, .unset, .unset] [(.long x8), (.long x11)]))) ?_ (fun _ k => XT.lload X.here hx rfl (hb hby at_72) rfl k)
    refine Ends.step (u' := (T.setTop (mkF m 75 #[.val (.long z0), .second, d2, .val (.int x3), .val (.ref a_q10), .val (.ref a_q20), .val (.long z6), .second, .val (.long x8), .second, .val (.int x10), .val (.long x11), .second, .unset, .unset] [(.int (XT.cmpL x11 x8))]))) ?_ (fun _ k => XT.lcmp X.here hx rfl (hb hby at_74) rfl k)
    by_cases hc75 : x8 < x11
    · refine Eq.mp (congrArg (fun z => Ends p e below s 2 2 (Q0 Z  h0 n0 z) (T.setTop (mkF m 75 #[.val (.long z0), .second, d2, .val (.int x3), .val (.ref a_q10), .val (.ref a_q20), .val (.long z6), .second, .val (.long x8), .second, .val (.int x10), .val (.long x11), .second, .unset, .unset] [(.int (XT.cmpL x11 x8))]))) (show (F0_70 K cq10_state cq20_state x3 x8 x10 x11) = (F0_109 K cq10_state cq20_state x3 x8 x10) from (if_pos hc75)).symm) ?_
      refine Ends.step (u' := (T.setTop (mkF m 109 #[.val (.long z0), .second, d2, .val (.int x3), .val (.ref a_q10), .val (.ref a_q20), .val (.long z6), .second, .val (.long x8), .second, .val (.int x10), .val (.long x11), .second, .unset, .unset] []))) ?_ (fun _ k => XS.ifYes X.here hx rfl (pc0 := 75) (pc' := 109) rfl (hb hby at_75) rfl (XT.ll_gt_t hc75) (by decide) (by decide) k)
      exact b109 T _ _ X eT N Zs cq10_state cq20_state x3 x8 x10 z0 (d2) od2 z6 x11 a_q10 g_q10 a_q20 g_q20 ne_q10_q20 E_q10 F_q10_state E_q20 F_q20_state (okt hc75)
    · refine Eq.mp (congrArg (fun z => Ends p e below s 2 2 (Q0 Z  h0 n0 z) (T.setTop (mkF m 75 #[.val (.long z0), .second, d2, .val (.int x3), .val (.ref a_q10), .val (.ref a_q20), .val (.long z6), .second, .val (.long x8), .second, .val (.int x10), .val (.long x11), .second, .unset, .unset] [(.int (XT.cmpL x11 x8))]))) (show (F0_70 K cq10_state cq20_state x3 x8 x10 x11) = (F0_78 K cq10_state cq20_state x3 x10 x11) from (if_neg hc75)).symm) ?_
      refine Ends.step (u' := (T.setTop (mkF m 78 #[.val (.long z0), .second, d2, .val (.int x3), .val (.ref a_q10), .val (.ref a_q20), .val (.long z6), .second, .val (.long x8), .second, .val (.int x10), .val (.long x11), .second, .unset, .unset] []))) ?_ (fun _ k => XS.ifNo X.here hx rfl (hb hby at_75) rfl (XT.ll_gt_f hc75) k)
      exact b78 T _ _ X eT N Zs cq10_state cq20_state x3 x10 x11 z0 (d2) od2 z6 x8 a_q10 g_q10 a_q20 g_q20 ne_q10_q20 E_q10 F_q10_state E_q20 F_q20_state (okf hc75)
  have b61 : ∀ (T : State) (L : List Loc) (h : Heap) (X : Stand p l e room_1 s m #[(.long p0), (.int p1)] below meth c T L 2 2) (eT : T.heap = h) (N : Fr n0 L) (Zs : n0 ≤ h.size) (cq10_state : Int64) (cq20_state : Int64) (x3 : Int32) (x8 : Int64) (x10 : Int32) (z0 : Int64) (d2 : Slot) (od2 : OneS d2) (z6 : Int64) (a_q10 : Addr) (g_q10 : n0 ≤ a_q10) (a_q20 : Addr) (g_q20 : n0 ≤ a_q20) (ne_q10_q20 : a_q10 ≠ a_q20) (E_q10 : Exa Z h a_q10 "com/example/holywell/holywell/generate/Draws") (F_q10_state : Fld Z h a_q10 "com/example/holywell/holywell/generate/Draws" "state" "J" (.long cq10_state)) (E_q20 : Exa Z h a_q20 "com/example/holywell/holywell/generate/Draws") (F_q20_state : Fld Z h a_q20 "com/example/holywell/holywell/generate/Draws" "state" "J" (.long cq20_state)) (ok : (O0_61 K cq10_state cq20_state x3 x8 x10)), Ends p e below s 2 2 (Q0 Z  h0 n0 (F0_61 K cq10_state cq20_state x3 x8 x10)) (T.setTop (mkF m 61 #[.val (.long z0), .second, d2, .val (.int x3), .val (.ref a_q10), .val (.ref a_q20), .val (.long z6), .second, .val (.long x8), .second, .val (.int x10), .unset, .unset, .unset, .unset] [])) := by
    intro T L h X eT N Zs cq10_state cq20_state x3 x8 x10 z0 d2 od2 z6 a_q10 g_q10 a_q20 g_q20 ne_q10_q20 E_q10 F_q10_state E_q20 F_q20_state ok
    refine Ends.step (u' := (T.setTop (mkF m 63 #[.val (.long z0), .second, d2, .val (.int x3), .val (.ref a_q10), .val (.ref a_q20), .val (.long z6), .second, .val (.long x8), .second, .val (.int x10), .unset, .unset, .unset, .unset] [(.ref a_q20)]))) ?_ (fun _ k => XS.aload X.here hx rfl (hb hby at_61) rfl rfl k)
    refine Ends.callV X hx hZ hown (hw _ (List.mem_of_getElem? (i := 29) rfl)) (hw _ (List.mem_of_getElem? (i := 22) rfl)) (hw _ (List.mem_of_getElem? (i := 24) rfl)) (hw _ (List.mem_of_getElem? (i := 23) rfl)) (hw _ (List.mem_of_getElem? (i := 3) rfl)) (hw _ (List.mem_of_getElem? (i := 25) rfl)) (by decide) (rm4 l Z a0 hw cq20_state a_q20 h n0 Zs E_q20 F_q20_state g_q20) 0 (by decide) (by decide) eT a_q20 E_q20 (g := (mkF m 63 #[.val (.long z0), .second, d2, .val (.int x3), .val (.ref a_q10), .val (.ref a_q20), .val (.long z6), .second, .val (.long x8), .second, .val (.int x10), .unset, .unset, .unset, .unset] [(.ref a_q20)])) rfl (by rw [hml]; rfl)  [] [] (lenOf pd_0 rfl) rfl (by show 2 * 0 + _ ≤ _; exact Nat.le_of_eq rfl) (hb hby at_63) rfl (by decide) (by decide) (fun v31 T31 L31 X31 hQ31 => ?_)
    obtain ⟨rfl, Nq31, Kq31, Fd32⟩ := hQ31
    have N31 := Fr.app N Nq31
    show Ends p e below s _ _ _ (T31.setTop (mkF m 66 #[.val (.long z0), .second, d2, .val (.int x3), .val (.ref a_q10), .val (.ref a_q20), .val (.long z6), .second, .val (.long x8), .second, .val (.int x10), .unset, .unset, .unset, .unset] [(.long (F4 cq20_state).1)]))
    have E33 := E_q10.keep Kq31
    have Fd34 := F_q10_state.keep Kq31 (ninS ne_q10_q20 nin0)
    have E35 := E_q20.keep Kq31
    have Z36 := Nat.le_trans Zs Kq31.1
    refine Ends.step (u' := (T31.setTop (mkF m 67 #[.val (.long z0), .second, d2, .val (.int x3), .val (.ref a_q10), .val (.ref a_q20), .val (.long z6), .second, .val (.long x8), .second, .val (.int x10), .unset, .unset, .unset, .unset] [(.int (1 : Int32)), (.long (F4 cq20_state).1)]))) ?_ (fun _ k => XT.iconstV X31.here hx rfl (1 : Int32) (hb hby at_66) rfl k)
    refine Ends.step (u' := (T31.setTop (mkF m 68 #[.val (.long z0), .second, d2, .val (.int x3), .val (.ref a_q10), .val (.ref a_q20), .val (.long z6), .second, .val (.long x8), .second, .val (.int x10), .unset, .unset, .unset, .unset] [(.long (XT.ushrL (F4 cq20_state).1 (1 : Int32)))]))) ?_ (fun _ k => XT.lushr X31.here hx rfl (hb hby at_67) rfl k)
    refine Ends.step (u' := (T31.setTop (mkF m 70 #[.val (.long z0), .second, d2, .val (.int x3), .val (.ref a_q10), .val (.ref a_q20), .val (.long z6), .second, .val (.long x8), .second, .val (.int x10), .val (.long (XT.ushrL (F4 cq20_state).1 (1 : Int32))), .second, .unset, .unset] []))) ?_ (fun _ k => XT.lstore X31.here hx rfl (hb hby at_68) rfl (l' := #[.val (.long z0), .second, d2, .val (.int x3), .val (.ref a_q10), .val (.ref a_q20), .val (.long z6), .second, .val (.long x8), .second, .val (.int x10), .val (.long (XT.ushrL (F4 cq20_state).1 (1 : Int32))), .second, .unset, .unset]) rfl k)
    exact b70 T31 _ _ X31 rfl N31 Z36 cq10_state (F4 cq20_state).2 x3 x8 x10 (XT.ushrL (F4 cq20_state).1 (1 : Int32)) z0 (d2) od2 z6 a_q10 g_q10 a_q20 g_q20 ne_q10_q20 E33 Fd34 E35 Fd32 ok
  have b53 : ∀ (T : State) (L : List Loc) (h : Heap) (X : Stand p l e room_1 s m #[(.long p0), (.int p1)] below meth c T L 2 2) (eT : T.heap = h) (N : Fr n0 L) (Zs : n0 ≤ h.size) (cq10_state : Int64) (cq20_state : Int64) (x3 : Int32) (x8 : Int64) (z0 : Int64) (d2 : Slot) (od2 : OneS d2) (z6 : Int64) (a_q10 : Addr) (g_q10 : n0 ≤ a_q10) (a_q20 : Addr) (g_q20 : n0 ≤ a_q20) (ne_q10_q20 : a_q10 ≠ a_q20) (E_q10 : Exa Z h a_q10 "com/example/holywell/holywell/generate/Draws") (F_q10_state : Fld Z h a_q10 "com/example/holywell/holywell/generate/Draws" "state" "J" (.long cq10_state)) (E_q20 : Exa Z h a_q20 "com/example/holywell/holywell/generate/Draws") (F_q20_state : Fld Z h a_q20 "com/example/holywell/holywell/generate/Draws" "state" "J" (.long cq20_state)) (ok : (O0_53 K cq10_state cq20_state x3 x8)), Ends p e below s 2 2 (Q0 Z  h0 n0 (F0_53 K cq10_state cq20_state x3 x8)) (T.setTop (mkF m 53 #[.val (.long z0), .second, d2, .val (.int x3), .val (.ref a_q10), .val (.ref a_q20), .val (.long z6), .second, .val (.long x8), .second, .unset, .unset, .unset, .unset, .unset] [])) := by
    intro T L h X eT N Zs cq10_state cq20_state x3 x8 z0 d2 od2 z6 a_q10 g_q10 a_q20 g_q20 ne_q10_q20 E_q10 F_q10_state E_q20 F_q20_state ok
    obtain ⟨o1, ok⟩ := ok
    refine Ends.step (u' := (T.setTop (mkF m 55 #[.val (.long z0), .second, d2, .val (.int x3), .val (.ref a_q10), .val (.ref a_q20), .val (.long z6), .second, .val (.long x8), .second, .unset, .unset, .unset, .unset, .unset] [(.ref a_q10)]))) ?_ (fun _ k => XS.aload X.here hx rfl (hb hby at_53) rfl rfl k)
    refine Ends.step (u' := (T.setTop (mkF m 56 #[.val (.long z0), .second, d2, .val (.int x3), .val (.ref a_q10), .val (.ref a_q20), .val (.long z6), .second, .val (.long x8), .second, .unset, .unset, .unset, .unset, .unset] [(.int x3), (.ref a_q10)]))) ?_ (fun _ k => XS.iloadN X.here hx rfl (hb hby at_55) rfl k)
    refine Ends.callV X hx hZ hown (hw _ (List.mem_of_getElem? (i := 15) rfl)) (hw _ (List.mem_of_getElem? (i := 16) rfl)) (hw _ (List.mem_of_getElem? (i := 18) rfl)) (hw _ (List.mem_of_getElem? (i := 17) rfl)) (hw _ (List.mem_of_getElem? (i := 3) rfl)) (hw _ (List.mem_of_getElem? (i := 19) rfl)) (by decide) (rm3 l Z a0 hw K x3 cq10_state a_q10 h n0 Zs E_q10 F_q10_state g_q10 o1) 0 (by decide) (by decide) eT a_q10 E_q10 (g := (mkF m 56 #[.val (.long z0), .second, d2, .val (.int x3), .val (.ref a_q10), .val (.ref a_q20), .val (.long z6), .second, .val (.long x8), .second, .unset, .unset, .unset, .unset, .unset] [(.int x3), (.ref a_q10)])) rfl (by rw [hml]; rfl)  [(.int x3)] [] (lenOf pd_2 rfl) rfl (by show 2 * 0 + _ ≤ _; exact Nat.le_of_eq rfl) (hb hby at_56) rfl (by decide) (by decide) (fun v37 T37 L37 X37 hQ37 => ?_)
    obtain ⟨rfl, Nq37, Kq37, Fd38⟩ := hQ37
    have N37 := Fr.app N Nq37
    show Ends p e below s _ _ _ (T37.setTop (mkF m 59 #[.val (.long z0), .second, d2, .val (.int x3), .val (.ref a_q10), .val (.ref a_q20), .val (.long z6), .second, .val (.long x8), .second, .unset, .unset, .unset, .unset, .unset] [(.int (F3 K x3 cq10_state).1)]))
    have E39 := E_q10.keep Kq37
    have E40 := E_q20.keep Kq37
    have Fd41 := F_q20_state.keep Kq37 (ninS ne_q10_q20.symm nin0)
    have Z42 := Nat.le_trans Zs Kq37.1
    refine Ends.step (u' := (T37.setTop (mkF m 61 #[.val (.long z0), .second, d2, .val (.int x3), .val (.ref a_q10), .val (.ref a_q20), .val (.long z6), .second, .val (.long x8), .second, .val (.int (F3 K x3 cq10_state).1), .unset, .unset, .unset, .unset] []))) ?_ (fun _ k => XS.istore X37.here hx rfl (hb hby at_59) rfl (l' := #[.val (.long z0), .second, d2, .val (.int x3), .val (.ref a_q10), .val (.ref a_q20), .val (.long z6), .second, .val (.long x8), .second, .val (.int (F3 K x3 cq10_state).1), .unset, .unset, .unset, .unset]) rfl k)
    exact b61 T37 _ _ X37 rfl N37 Z42 (F3 K x3 cq10_state).2 cq20_state x3 x8 (F3 K x3 cq10_state).1 z0 (d2) od2 z6 a_q10 g_q10 a_q20 g_q20 ne_q10_q20 E39 Fd38 E40 Fd41 ok
  have b45 : ∀ (T : State) (L : List Loc) (h : Heap) (X : Stand p l e room_1 s m #[(.long p0), (.int p1)] below meth c T L 2 2) (eT : T.heap = h) (N : Fr n0 L) (Zs : n0 ≤ h.size) (cq10_state : Int64) (cq20_state : Int64) (x3 : Int32) (x6 : Int64) (z0 : Int64) (d2 : Slot) (od2 : OneS d2) (a_q10 : Addr) (g_q10 : n0 ≤ a_q10) (a_q20 : Addr) (g_q20 : n0 ≤ a_q20) (ne_q10_q20 : a_q10 ≠ a_q20) (E_q10 : Exa Z h a_q10 "com/example/holywell/holywell/generate/Draws") (F_q10_state : Fld Z h a_q10 "com/example/holywell/holywell/generate/Draws" "state" "J" (.long cq10_state)) (E_q20 : Exa Z h a_q20 "com/example/holywell/holywell/generate/Draws") (F_q20_state : Fld Z h a_q20 "com/example/holywell/holywell/generate/Draws" "state" "J" (.long cq20_state)) (ok : (O0_45 K cq10_state cq20_state x3 x6)), Ends p e below s 2 2 (Q0 Z  h0 n0 (F0_45 K cq10_state cq20_state x3 x6)) (T.setTop (mkF m 45 #[.val (.long z0), .second, d2, .val (.int x3), .val (.ref a_q10), .val (.ref a_q20), .val (.long x6), .second, .unset, .unset, .unset, .unset, .unset, .unset, .unset] [])) := by
    intro T L h X eT N Zs cq10_state cq20_state x3 x6 z0 d2 od2 a_q10 g_q10 a_q20 g_q20 ne_q10_q20 E_q10 F_q10_state E_q20 F_q20_state ok
    refine Ends.step (u' := (T.setTop (mkF m 48 #[.val (.long z0), .second, d2, .val (.int x3), .val (.ref a_q10), .val (.ref a_q20), .val (.long x6), .second, .unset, .unset, .unset, .unset, .unset, .unset, .unset] [(.long (9223372036854775807 : Int64))]))) ?_ (fun _ k => X.ldc2J hx hown (mvT hZ (hw _ (List.mem_of_getElem? (i := 14) rfl))) rfl (hb hby at_45) k)
    refine Ends.step (u' := (T.setTop (mkF m 50 #[.val (.long z0), .second, d2, .val (.int x3), .val (.ref a_q10), .val (.ref a_q20), .val (.long x6), .second, .unset, .unset, .unset, .unset, .unset, .unset, .unset] [(.long x6), (.long (9223372036854775807 : Int64))]))) ?_ (fun _ k => XT.lload X.here hx rfl (hb hby at_48) rfl k)
    refine Ends.step (u' := (T.setTop (mkF m 51 #[.val (.long z0), .second, d2, .val (.int x3), .val (.ref a_q10), .val (.ref a_q20), .val (.long x6), .second, .unset, .unset, .unset, .unset, .unset, .unset, .unset] [(.long ((9223372036854775807 : Int64) - x6))]))) ?_ (fun _ k => XT.lsub X.here hx rfl (hb hby at_50) rfl k)
    refine Ends.step (u' := (T.setTop (mkF m 53 #[.val (.long z0), .second, d2, .val (.int x3), .val (.ref a_q10), .val (.ref a_q20), .val (.long x6), .second, .val (.long ((9223372036854775807 : Int64) - x6)), .second, .unset, .unset, .unset, .unset, .unset] []))) ?_ (fun _ k => XT.lstore X.here hx rfl (hb hby at_51) rfl (l' := #[.val (.long z0), .second, d2, .val (.int x3), .val (.ref a_q10), .val (.ref a_q20), .val (.long x6), .second, .val (.long ((9223372036854775807 : Int64) - x6)), .second, .unset, .unset, .unset, .unset, .unset]) rfl k)
    exact b53 T _ _ X eT N Zs cq10_state cq20_state x3 ((9223372036854775807 : Int64) - x6) z0 (d2) od2 x6 a_q10 g_q10 a_q20 g_q20 ne_q10_q20 E_q10 F_q10_state E_q20 F_q20_state ok
  have b10 : ∀ (T : State) (L : List Loc) (h : Heap) (X : Stand p l e room_1 s m #[(.long p0), (.int p1)] below meth c T L 0 0) (eT : T.heap = h) (N : Fr n0 L) (Zs : n0 ≤ h.size) (x0 : Int64) (x3 : Int32) (d2 : Slot) (od2 : OneS d2) (ok : (O0_10 K x0 x3)), Ends p e below s 2 2 (Q0 Z  h0 n0 (F0_10 K x0 x3)) (T.setTop (mkF m 10 #[.val (.long x0), .second, d2, .val (.int x3), .unset, .unset, .unset, .unset, .unset, .unset, .unset, .unset, .unset, .unset, .unset] [])) := by
    intro T L h X eT N Zs x0 x3 d2 od2 ok
    obtain ⟨o1, o2, ok⟩ := ok
    refine Ends.newO X hx hZ hown (hw _ (List.mem_of_getElem? (i := 1) rfl)) (hw _ (List.mem_of_getElem? (i := 2) rfl)) (hw _ (List.mem_of_getElem? (i := 3) rfl)) eT (g := (mkF m 10 #[.val (.long x0), .second, d2, .val (.int x3), .unset, .unset, .unset, .unset, .unset, .unset, .unset, .unset, .unset, .unset, .unset] [])) rfl (hb hby at_10) (by decide) (by decide) (fun T43 h43 a43 X43 e43 E43 q43 Y43 D43 => ?_)
    have Fd44 : Fld Z h43 a43 "com/example/holywell/holywell/generate/Draws" "state" "J" (.long (0 : Int64)) := D43 (Or.inl (hw _ (List.mem_of_getElem? (i := 11) rfl))) (ty := .long) (by decide)
    have g45 : n0 ≤ a43 := q43 ▸ Zs
    have Z46 := Nat.le_trans Zs E43.1
    show Ends p e below s _ _ _ (T43.setTop (mkF m 13 #[.val (.long x0), .second, d2, .val (.int x3), .unset, .unset, .unset, .unset, .unset, .unset, .unset, .unset, .unset, .unset, .unset] [(.ref a43)]))
    refine Ends.step (u' := (T43.setTop (mkF m 14 #[.val (.long x0), .second, d2, .val (.int x3), .unset, .unset, .unset, .unset, .unset, .unset, .unset, .unset, .unset, .unset, .unset] [(.ref a43), (.ref a43)]))) ?_ (fun _ k => XS.dup X43.here hx rfl (hb hby at_13) rfl rfl k)
    refine Ends.step (u' := (T43.setTop (mkF m 15 #[.val (.long x0), .second, d2, .val (.int x3), .unset, .unset, .unset, .unset, .unset, .unset, .unset, .unset, .unset, .unset, .unset] [(.long x0), (.ref a43), (.ref a43)]))) ?_ (fun _ k => XT.lloadN X43.here hx rfl (hb hby at_14) rfl k)
    refine Ends.callC X43 hx hZ (y := (⟨"com/example/holywell/holywell/generate/Draws", "<init>", "(J)V"⟩ : MethodName)) rfl hown (hw _ (List.mem_of_getElem? (i := 4) rfl)) (hw _ (List.mem_of_getElem? (i := 5) rfl)) (hw _ (List.mem_of_getElem? (i := 3) rfl)) (hw _ (List.mem_of_getElem? (i := 6) rfl)) (by decide) (rm1 l Z a0 hw x0 (0 : Int64) a43 h43 n0 Z46 Y43 Fd44 g45) 1 (by decide) (by decide) e43  (g := (mkF m 15 #[.val (.long x0), .second, d2, .val (.int x3), .unset, .unset, .unset, .unset, .unset, .unset, .unset, .unset, .unset, .unset, .unset] [(.long x0), (.ref a43), (.ref a43)])) rfl (by rw [hml]; rfl) a43 [(.long x0)] [(.ref a43)] (lenOf pd_1 rfl) rfl (by show 2 * 0 + _ ≤ _; exact Nat.le_of_eq rfl) (hb hby at_15) rfl (by decide) (by decide) (fun v47 T47 L47 X47 hQ47 => ?_)
    obtain ⟨rfl, Nq47, Kq47, Fd48⟩ := hQ47
    have N47 := Fr.app N Nq47
    show Ends p e below s _ _ _ (T47.setTop (mkF m 18 #[.val (.long x0), .second, d2, .val (.int x3), .unset, .unset, .unset, .unset, .unset, .unset, .unset, .unset, .unset, .unset, .unset] [(.ref a43)]))
    have E49 := Y43.keep Kq47
    have Z50 := Nat.le_trans Z46 Kq47.1
    refine Ends.step (u' := (T47.setTop (mkF m 20 #[.val (.long x0), .second, d2, .val (.int x3), .val (.ref a43), .unset, .unset, .unset, .unset, .unset, .unset, .unset, .unset, .unset, .unset] []))) ?_ (fun _ k => XS.astore X47.here hx rfl (hb hby at_18) rfl rfl (l' := #[.val (.long x0), .second, d2, .val (.int x3), .val (.ref a43), .unset, .unset, .unset, .unset, .unset, .unset, .unset, .unset, .unset, .unset]) rfl k)
    refine Ends.newO X47 hx hZ hown (hw _ (List.mem_of_getElem? (i := 1) rfl)) (hw _ (List.mem_of_getElem? (i := 2) rfl)) (hw _ (List.mem_of_getElem? (i := 3) rfl)) rfl (g := (mkF m 20 #[.val (.long x0), .second, d2, .val (.int x3), .val (.ref a43), .unset, .unset, .unset, .unset, .unset, .unset, .unset, .unset, .unset, .unset] [])) rfl (hb hby at_20) (by decide) (by decide) (fun T51 h51 a51 X51 e51 E51 q51 Y51 D51 => ?_)
    have Fd52 : Fld Z h51 a51 "com/example/holywell/holywell/generate/Draws" "state" "J" (.long (0 : Int64)) := D51 (Or.inl (hw _ (List.mem_of_getElem? (i := 11) rfl))) (ty := .long) (by decide)
    have ne53 : a43 ≠ a51 := q51 ▸ Nat.ne_of_lt E49.lt
    have E54 := E49.ext E51
    have Fd55 := Fd48.ext E51
    have g56 : n0 ≤ a51 := q51 ▸ Z50
    have Z57 := Nat.le_trans Z50 E51.1
    show Ends p e below s _ _ _ (T51.setTop (mkF m 23 #[.val (.long x0), .second, d2, .val (.int x3), .val (.ref a43), .unset, .unset, .unset, .unset, .unset, .unset, .unset, .unset, .unset, .unset] [(.ref a51)]))
    refine Ends.step (u' := (T51.setTop (mkF m 24 #[.val (.long x0), .second, d2, .val (.int x3), .val (.ref a43), .unset, .unset, .unset, .unset, .unset, .unset, .unset, .unset, .unset, .unset] [(.ref a51), (.ref a51)]))) ?_ (fun _ k => XS.dup X51.here hx rfl (hb hby at_23) rfl rfl k)
    refine Ends.step (u' := (T51.setTop (mkF m 25 #[.val (.long x0), .second, d2, .val (.int x3), .val (.ref a43), .unset, .unset, .unset, .unset, .unset, .unset, .unset, .unset, .unset, .unset] [(.long x0), (.ref a51), (.ref a51)]))) ?_ (fun _ k => XT.lloadN X51.here hx rfl (hb hby at_24) rfl k)
    refine Ends.callC X51 hx hZ (y := (⟨"com/example/holywell/holywell/generate/Draws", "<init>", "(J)V"⟩ : MethodName)) rfl hown (hw _ (List.mem_of_getElem? (i := 4) rfl)) (hw _ (List.mem_of_getElem? (i := 5) rfl)) (hw _ (List.mem_of_getElem? (i := 3) rfl)) (hw _ (List.mem_of_getElem? (i := 6) rfl)) (by decide) (rm1 l Z a0 hw x0 (0 : Int64) a51 h51 n0 Z57 Y51 Fd52 g56) 1 (by decide) (by decide) e51  (g := (mkF m 25 #[.val (.long x0), .second, d2, .val (.int x3), .val (.ref a43), .unset, .unset, .unset, .unset, .unset, .unset, .unset, .unset, .unset, .unset] [(.long x0), (.ref a51), (.ref a51)])) rfl (by rw [hml]; rfl) a51 [(.long x0)] [(.ref a51)] (lenOf pd_1 rfl) rfl (by show 2 * 0 + _ ≤ _; exact Nat.le_of_eq rfl) (hb hby at_25) rfl (by decide) (by decide) (fun v58 T58 L58 X58 hQ58 => ?_)
    obtain ⟨rfl, Nq58, Kq58, Fd59⟩ := hQ58
    have N58 := Fr.app N47 Nq58
    show Ends p e below s _ _ _ (T58.setTop (mkF m 28 #[.val (.long x0), .second, d2, .val (.int x3), .val (.ref a43), .unset, .unset, .unset, .unset, .unset, .unset, .unset, .unset, .unset, .unset] [(.ref a51)]))
    have E60 := E54.keep Kq58
    have Fd61 := Fd55.keep Kq58 (ninS ne53 nin0)
    have E62 := Y51.keep Kq58
    have Z63 := Nat.le_trans Z57 Kq58.1
    refine Ends.step (u' := (T58.setTop (mkF m 30 #[.val (.long x0), .second, d2, .val (.int x3), .val (.ref a43), .val (.ref a51), .unset, .unset, .unset, .unset, .unset, .unset, .unset, .unset, .unset] []))) ?_ (fun _ k => XS.astore X58.here hx rfl (hb hby at_28) rfl rfl (l' := #[.val (.long x0), .second, d2, .val (.int x3), .val (.ref a43), .val (.ref a51), .unset, .unset, .unset, .unset, .unset, .unset, .unset, .unset, .unset]) rfl k)
    refine Ends.step (u' := (T58.setTop (mkF m 33 #[.val (.long x0), .second, d2, .val (.int x3), .val (.ref a43), .val (.ref a51), .unset, .unset, .unset, .unset, .unset, .unset, .unset, .unset, .unset] [(.long (4611686018427387904 : Int64))]))) ?_ (fun _ k => X58.ldc2J hx hown (mvT hZ (hw _ (List.mem_of_getElem? (i := 12) rfl))) rfl (hb hby at_30) k)
    refine Ends.step (u' := (T58.setTop (mkF m 34 #[.val (.long x0), .second, d2, .val (.int x3), .val (.ref a43), .val (.ref a51), .unset, .unset, .unset, .unset, .unset, .unset, .unset, .unset, .unset] [(.int x3), (.long (4611686018427387904 : Int64))]))) ?_ (fun _ k => XS.iloadN X58.here hx rfl (hb hby at_33) rfl k)
    refine Ends.step (u' := (T58.setTop (mkF m 35 #[.val (.long x0), .second, d2, .val (.int x3), .val (.ref a43), .val (.ref a51), .unset, .unset, .unset, .unset, .unset, .unset, .unset, .unset, .unset] [(.long ((x3).toInt64)), (.long (4611686018427387904 : Int64))]))) ?_ (fun _ k => XT.i2l X58.here hx rfl (hb hby at_34) rfl k)
    refine Ends.step (u' := (T58.setTop (mkF m 36 #[.val (.long x0), .second, d2, .val (.int x3), .val (.ref a43), .val (.ref a51), .unset, .unset, .unset, .unset, .unset, .unset, .unset, .unset, .unset] [(.long ((4611686018427387904 : Int64) - ((4611686018427387904 : Int64) / ((x3).toInt64)) * ((x3).toInt64)))]))) ?_ (fun _ k => XT.lrem X58.here hx rfl (hb hby at_35) rfl o1 k)
    refine Ends.step (u' := (T58.setTop (mkF m 39 #[.val (.long x0), .second, d2, .val (.int x3), .val (.ref a43), .val (.ref a51), .unset, .unset, .unset, .unset, .unset, .unset, .unset, .unset, .unset] [(.long (2 : Int64)), (.long ((4611686018427387904 : Int64) - ((4611686018427387904 : Int64) / ((x3).toInt64)) * ((x3).toInt64)))]))) ?_ (fun _ k => X58.ldc2J hx hown (mvT hZ (hw _ (List.mem_of_getElem? (i := 13) rfl))) rfl (hb hby at_36) k)
    refine Ends.step (u' := (T58.setTop (mkF m 40 #[.val (.long x0), .second, d2, .val (.int x3), .val (.ref a43), .val (.ref a51), .unset, .unset, .unset, .unset, .unset, .unset, .unset, .unset, .unset] [(.long (((4611686018427387904 : Int64) - ((4611686018427387904 : Int64) / ((x3).toInt64)) * ((x3).toInt64)) * (2 : Int64)))]))) ?_ (fun _ k => XT.lmul X58.here hx rfl (hb hby at_39) rfl k)
    refine Ends.step (u' := (T58.setTop (mkF m 41 #[.val (.long x0), .second, d2, .val (.int x3), .val (.ref a43), .val (.ref a51), .unset, .unset, .unset, .unset, .unset, .unset, .unset, .unset, .unset] [(.int x3), (.long (((4611686018427387904 : Int64) - ((4611686018427387904 : Int64) / ((x3).toInt64)) * ((x3).toInt64)) * (2 : Int64)))]))) ?_ (fun _ k => XS.iloadN X58.here hx rfl (hb hby at_40) rfl k)
    refine Ends.step (u' := (T58.setTop (mkF m 42 #[.val (.long x0), .second, d2, .val (.int x3), .val (.ref a43), .val (.ref a51), .unset, .unset, .unset, .unset, .unset, .unset, .unset, .unset, .unset] [(.long ((x3).toInt64)), (.long (((4611686018427387904 : Int64) - ((4611686018427387904 : Int64) / ((x3).toInt64)) * ((x3).toInt64)) * (2 : Int64)))]))) ?_ (fun _ k => XT.i2l X58.here hx rfl (hb hby at_41) rfl k)
    refine Ends.step (u' := (T58.setTop (mkF m 43 #[.val (.long x0), .second, d2, .val (.int x3), .val (.ref a43), .val (.ref a51), .unset, .unset, .unset, .unset, .unset, .unset, .unset, .unset, .unset] [(.long ((((4611686018427387904 : Int64) - ((4611686018427387904 : Int64) / ((x3).toInt64)) * ((x3).toInt64)) * (2 : Int64)) - ((((4611686018427387904 : Int64) - ((4611686018427387904 : Int64) / ((x3).toInt64)) * ((x3).toInt64)) * (2 : Int64)) / ((x3).toInt64)) * ((x3).toInt64)))]))) ?_ (fun _ k => XT.lrem X58.here hx rfl (hb hby at_42) rfl o2 k)
    refine Ends.step (u' := (T58.setTop (mkF m 45 #[.val (.long x0), .second, d2, .val (.int x3), .val (.ref a43), .val (.ref a51), .val (.long ((((4611686018427387904 : Int64) - ((4611686018427387904 : Int64) / ((x3).toInt64)) * ((x3).toInt64)) * (2 : Int64)) - ((((4611686018427387904 : Int64) - ((4611686018427387904 : Int64) / ((x3).toInt64)) * ((x3).toInt64)) * (2 : Int64)) / ((x3).toInt64)) * ((x3).toInt64))), .second, .unset, .unset, .unset, .unset, .unset, .unset, .unset] []))) ?_ (fun _ k => XT.lstore X58.here hx rfl (hb hby at_43) rfl (l' := #[.val (.long x0), .second, d2, .val (.int x3), .val (.ref a43), .val (.ref a51), .val (.long ((((4611686018427387904 : Int64) - ((4611686018427387904 : Int64) / ((x3).toInt64)) * ((x3).toInt64)) * (2 : Int64)) - ((((4611686018427387904 : Int64) - ((4611686018427387904 : Int64) / ((x3).toInt64)) * ((x3).toInt64)) * (2 : Int64)) / ((x3).toInt64)) * ((x3).toInt64))), .second, .unset, .unset, .unset, .unset, .unset, .unset, .unset]) rfl k)
    exact b45 T58 _ _ X58 rfl N58 Z63 (F1 x0 (0 : Int64)) (F1 x0 (0 : Int64)) x3 ((((4611686018427387904 : Int64) - ((4611686018427387904 : Int64) / ((x3).toInt64)) * ((x3).toInt64)) * (2 : Int64)) - ((((4611686018427387904 : Int64) - ((4611686018427387904 : Int64) / ((x3).toInt64)) * ((x3).toInt64)) * (2 : Int64)) / ((x3).toInt64)) * ((x3).toInt64)) x0 (d2) od2 a43 g45 a51 g56 ne53 E60 Fd61 E62 Fd59 ok
  refine Ends.step (u' := (s₁.setTop (mkF m 0 #[.val (.long p0), .second, .val (.int p1), .unset, .unset, .unset, .unset, .unset, .unset, .unset, .unset, .unset, .unset, .unset, .unset] []))) ?_ (fun _ k => castTop (ef_0 m p0 p1) k)
  refine Ends.step (u' := (s₁.setTop (mkF m 1 #[.val (.long p0), .second, .val (.int p1), .unset, .unset, .unset, .unset, .unset, .unset, .unset, .unset, .unset, .unset, .unset, .unset] [(.int (1 : Int32))]))) ?_ (fun _ k => XT.iconstV X0.here hx rfl (1 : Int32) (hb hby at_0) rfl k)
  refine Ends.step (u' := (s₁.setTop (mkF m 2 #[.val (.long p0), .second, .val (.int p1), .unset, .unset, .unset, .unset, .unset, .unset, .unset, .unset, .unset, .unset, .unset, .unset] [(.int p1), (.int (1 : Int32))]))) ?_ (fun _ k => XS.iloadN X0.here hx rfl (hb hby at_1) rfl k)
  refine Ends.step (u' := (s₁.setTop (mkF m 4 #[.val (.long p0), .second, .val (.int p1), .unset, .unset, .unset, .unset, .unset, .unset, .unset, .unset, .unset, .unset, .unset, .unset] [(.int (2147483647 : Int32)), (.int p1), (.int (1 : Int32))]))) ?_ (fun _ k => X0.ldcI hx hown (mvT hZ (hw _ (List.mem_of_getElem? (i := 0) rfl))) rfl (hb hby at_2) k)
  refine Ends.step (u' := (s₁.setTop (mkF m 5 #[.val (.long p0), .second, .val (.int p1), .unset, .unset, .unset, .unset, .unset, .unset, .unset, .unset, .unset, .unset, .unset, .unset] [(.int (p1 &&& (2147483647 : Int32))), (.int (1 : Int32))]))) ?_ (fun _ k => XS.iand X0.here hx rfl (hb hby at_4) rfl k)
  refine Ends.step (u' := (s₁.setTop (mkF m 7 #[.val (.long p0), .second, .val (.int p1), .unset, .unset, .unset, .unset, .unset, .unset, .unset, .unset, .unset, .unset, .unset, .unset] [(.int (2147483647 : Int32)), (.int (p1 &&& (2147483647 : Int32))), (.int (1 : Int32))]))) ?_ (fun _ k => X0.ldcI hx hown (mvT hZ (hw _ (List.mem_of_getElem? (i := 0) rfl))) rfl (hb hby at_5) k)
  refine Ends.step (u' := (s₁.setTop (mkF m 8 #[.val (.long p0), .second, .val (.int p1), .unset, .unset, .unset, .unset, .unset, .unset, .unset, .unset, .unset, .unset, .unset, .unset] [(.int ((p1 &&& (2147483647 : Int32)) % (2147483647 : Int32))), (.int (1 : Int32))]))) ?_ (fun _ k => iremM X0 hx rfl (hb hby at_7) rfl (by decide) k)
  refine Ends.step (u' := (s₁.setTop (mkF m 9 #[.val (.long p0), .second, .val (.int p1), .unset, .unset, .unset, .unset, .unset, .unset, .unset, .unset, .unset, .unset, .unset, .unset] [(.int ((1 : Int32) + ((p1 &&& (2147483647 : Int32)) % (2147483647 : Int32))))]))) ?_ (fun _ k => XS.iadd X0.here hx rfl (hb hby at_8) rfl k)
  refine Ends.step (u' := (s₁.setTop (mkF m 10 #[.val (.long p0), .second, .val (.int p1), .val (.int ((1 : Int32) + ((p1 &&& (2147483647 : Int32)) % (2147483647 : Int32)))), .unset, .unset, .unset, .unset, .unset, .unset, .unset, .unset, .unset, .unset, .unset] []))) ?_ (fun _ k => XS.istoreN X0.here hx rfl (hb hby at_9) rfl (l' := #[.val (.long p0), .second, .val (.int p1), .val (.int ((1 : Int32) + ((p1 &&& (2147483647 : Int32)) % (2147483647 : Int32)))), .unset, .unset, .unset, .unset, .unset, .unset, .unset, .unset, .unset, .unset, .unset]) rfl k)
  exact b10 s₁ _ _ X0 e0 N0 Z0 p0 ((1 : Int32) + ((p1 &&& (2147483647 : Int32)) % (2147483647 : Int32))) (.val (.int p1)) (Or.inr ⟨_, rfl, rfl⟩) ok
theorem own_toInt (x : Int32) (h : x.toBitVec.toNat < 2 ^ 31) : x.toInt = x.toBitVec.toNat := by
  show x.toBitVec.toInt = _
  rw [BitVec.toInt_eq_toNat_cond, if_pos (by omega)]
theorem own_nonneg (x : Int32) (h : 0 ≤ x.toInt) : x.toBitVec.toNat < 2 ^ 31 := by
  have h' : 0 ≤ x.toBitVec.toInt := h
  rw [BitVec.toInt_eq_toNat_cond] at h'
  split at h' <;> omega
theorem own_band (x c : Int32) (hc : 0 ≤ c.toInt) : 0 ≤ (x &&& c).toInt ∧ (x &&& c).toInt ≤ c.toInt := by
  have hb := own_nonneg c hc
  have e : (x &&& c).toBitVec.toNat = x.toBitVec.toNat &&& c.toBitVec.toNat := by rw [Int32.toBitVec_and, BitVec.toNat_and]
  have l : x.toBitVec.toNat &&& c.toBitVec.toNat ≤ c.toBitVec.toNat := Nat.and_le_right
  rw [own_toInt (x &&& c) (by omega), own_toInt c hb, e]
  omega
theorem own_inb (j : Int32) (n : Nat) (h0 : 0 ≤ j.toInt) (h1 : j.toInt < n) : inb j n := by
  intro h
  rcases h with h | h
  · rw [Int32.lt_iff_toInt_lt] at h
    have : (0 : Int32).toInt = 0 := rfl
    omega
  · simp only [Int32.toNatClampNeg] at h
    omega
theorem own_n_toInt (i : Nat) (h : i < 2 ^ 31) : (Int32.ofNat i).toInt = i := Int32.toInt_ofNat_of_lt h
theorem own_n_lt (i j : Nat) (hi : i < 2 ^ 31) (hj : j < 2 ^ 31) : Int32.ofNat i < Int32.ofNat j ↔ i < j := by
  rw [Int32.lt_iff_toInt_lt, own_n_toInt i hi, own_n_toInt j hj]; omega
theorem own_n_add (i j : Nat) : Int32.ofNat i + Int32.ofNat j = Int32.ofNat (i + j) := (Int32.ofNat_add i j).symm
theorem own_n_ix (i : Nat) (h : i < 2 ^ 31) : (Int32.ofNat i).toNatClampNeg = i := by
  simp only [Int32.toNatClampNeg, own_n_toInt i h]; omega
theorem own_n_inb (i n : Nat) (h : i < n) (hn : n < 2 ^ 31) : inb (Int32.ofNat i) n :=
  own_inb _ _ (by rw [own_n_toInt i (by omega)]; omega) (by rw [own_n_toInt i (by omega)]; omega)
theorem own_n_ex (x : Int32) (h : 0 ≤ x.toInt) : ∃ n : Nat, n < 2 ^ 31 ∧ x = Int32.ofNat n ∧ x.toInt = n := by
  have := Int32.toInt_lt x
  refine ⟨x.toInt.toNat, by omega, ?_, by omega⟩
  apply Int32.toInt_inj.mp
  rw [own_n_toInt _ (by omega)]
  omega
theorem own_pos_mod (x c : Int32) (hc : 0 < c.toInt) : 0 ≤ ((x &&& (2147483647 : Int32)) % c).toInt ∧ ((x &&& (2147483647 : Int32)) % c).toInt < c.toInt := by
  have h := own_band x 2147483647 (by decide)
  rw [Int32.toInt_mod, Int.tmod_eq_emod_of_nonneg h.1]
  exact ⟨Int.emod_nonneg _ (by omega), Int.emod_lt_of_pos _ hc⟩
theorem own_ushrL (x : Int64) (k : Nat) (hk : k < 64) : (XT.ushrL x (Int32.ofNat k)).toBitVec = x.toBitVec >>> k := by
  have h : ((Int32.ofNat k).toInt64.toUInt64 &&& Int64.toUInt64 63).toBitVec % 64 = BitVec.ofNat 64 k := by
    have : ∀ k : Fin 64, ((Int32.ofNat k.val).toInt64.toUInt64 &&& Int64.toUInt64 63).toBitVec % 64 = BitVec.ofNat 64 k.val := by decide +kernel
    exact this ⟨k, hk⟩
  show (x.toUInt64 >>> _).toBitVec = _
  rw [UInt64.toBitVec_shiftRight, h]
  show x.toBitVec >>> (BitVec.ofNat 64 k) = _
  rw [BitVec.ushiftRight_eq']
  congr 1
  simp
  omega
theorem own_ushr (x : Int32) (k : Nat) (hk : k < 32) : (XT.ushr x (Int32.ofNat k)).toBitVec = x.toBitVec >>> k := by
  have h : ((Int32.ofNat k) &&& 31).toUInt32.toBitVec % 32 = BitVec.ofNat 32 k := by
    have : ∀ k : Fin 32, ((Int32.ofNat k.val) &&& 31).toUInt32.toBitVec % 32 = BitVec.ofNat 32 k.val := by decide +kernel
    exact this ⟨k, hk⟩
  show (x.toUInt32 >>> _).toBitVec = _
  rw [UInt32.toBitVec_shiftRight, h]
  show x.toBitVec >>> (BitVec.ofNat 32 k) = _
  rw [BitVec.ushiftRight_eq']
  congr 1
  simp
  omega
def own_mix (z : Int64) : Int64 := F4_29 z ((z ^^^ (XT.ushrL z (30 : Int32))) * (-4658895280553007687 : Int64)) |>.1
theorem own_F4 (st : Int64) : F4 st = (own_mix (st + (-7046029254386353131 : Int64)), st + (-7046029254386353131 : Int64)) := rfl
theorem own_mix0 : own_mix 0 = 0 := by decide +kernel
theorem own_sh1 (x : Int64) : 0 ≤ (XT.ushrL x 1).toInt := by
  have e : (XT.ushrL x 1).toBitVec = x.toBitVec >>> 1 := own_ushrL x 1 (by decide)
  show 0 ≤ (XT.ushrL x 1).toBitVec.toInt
  rw [e, BitVec.toInt_eq_toNat_cond, BitVec.toNat_ushiftRight, Nat.shiftRight_eq_div_pow]
  have := x.toBitVec.isLt
  rw [if_pos (by omega)]
  omega
theorem own_lrem (x y : Int64) (hx : 0 ≤ x.toInt) (hy : 0 < y.toInt) : (x - x / y * y).toInt = x.toInt % y.toInt := by
  have h1 := Int64.toInt_lt x
  have e1 : (x / y).toInt = x.toInt / y.toInt := by
    rw [Int64.toInt_div, Int.tdiv_eq_ediv_of_nonneg hx]
    have a := Int.ediv_nonneg hx (Int.le_of_lt hy)
    have b := Int.ediv_le_self y.toInt hx
    exact Int.bmod_eq_of_le (by omega) (by omega)
  have m := Int.mul_ediv_add_emod x.toInt y.toInt
  have n := Int.emod_nonneg x.toInt (Int.ne_of_gt hy)
  have q0 := Int.mul_nonneg (Int.le_of_lt hy) (Int.ediv_nonneg hx (Int.le_of_lt hy))
  have e2 : (x / y * y).toInt = x.toInt / y.toInt * y.toInt := by
    rw [Int64.toInt_mul, e1, Int.mul_comm]
    exact Int.bmod_eq_of_le (by omega) (by omega)
  rw [Int64.toInt_sub, e2, Int.mul_comm]
  rw [Int.bmod_eq_of_le (by omega) (by omega)]
  omega
def own_nx (st : Int64) : Int64 := st + (-7046029254386353131 : Int64)
def own_dr (st : Int64) : Int64 := XT.ushrL (own_mix (own_nx st)) 1
theorem own_F4a (st : Int64) : (F4 st).2 = own_nx st := by rw [own_F4]; rfl
theorem own_F4b (st : Int64) : XT.ushrL (F4 st).1 1 = own_dr st := by rw [own_F4]; rfl
def own_it (nx dr : Int64 → Int64) : Nat → Int64 → Int64 → Int64
  | 0, _, v => v
  | k + 1, st, _ => own_it nx dr k (nx st) (dr st)
theorem own_it_next (nx dr : Int64 → Int64) (st v : Int64) (k : Nat) : own_it nx dr (k + 1) st v = own_it nx dr k (nx st) (dr st) := rfl
theorem own_it_0 (nx dr : Int64 → Int64) (st v : Int64) : own_it nx dr 0 st v = v := rfl
def own_val (k : Nat) (st v : Int64) : Int64 := own_it own_nx own_dr k st v
theorem own_val_next (st v : Int64) (k : Nat) : own_val (k + 1) st v = own_val k (own_nx st) (own_dr st) := own_it_next own_nx own_dr st v k
theorem own_val_0 (st v : Int64) : own_val 0 st v = v := own_it_0 own_nx own_dr st v
theorem own_val_eq (k : Nat) : ∀ (st v : Int64), own_val (k + 1) st v = XT.ushrL (own_mix (st + Int64.ofNat (k + 1) * (-7046029254386353131 : Int64))) 1 := by
  induction k with
  | zero =>
    intro st v
    rw [own_val_next, show Int64.ofNat (0 + 1) = 1 from rfl, Int64.one_mul]
    rw [own_val_0, own_dr, own_nx]
  | succ k ih =>
    intro st v
    rw [own_val_next, ih]
    have e : own_nx st + Int64.ofNat (k + 1) * (-7046029254386353131 : Int64) = st + Int64.ofNat (k + 1 + 1) * (-7046029254386353131 : Int64) := by
      rw [own_nx, Int64.ofNat_add (k + 1) 1, Int64.add_mul, show Int64.ofNat 1 = 1 from rfl, Int64.one_mul, Int64.add_assoc, Int64.add_comm (-7046029254386353131 : Int64)]
    rw [e]
theorem own_reach (st v : Int64) : ∃ k, own_val k st v = 0 := by
  let t : Int64 := (0 - st) * (-1018231460777725123 : Int64)
  have e : Int64.ofNat (t.toBitVec.toNat + 2 ^ 64) = t := by
    apply Int64.toBitVec_inj.mp
    apply BitVec.eq_of_toNat_eq
    show (BitVec.ofNat 64 _).toNat = _
    rw [BitVec.toNat_ofNat]
    have := t.toBitVec.isLt
    omega
  obtain ⟨k, hk⟩ : ∃ k, t.toBitVec.toNat + 2 ^ 64 = k + 1 := ⟨t.toBitVec.toNat + 2 ^ 64 - 1, by omega⟩
  refine ⟨k + 1, ?_⟩
  rw [own_val_eq, ← hk, e]
  have c : st + t * (-7046029254386353131 : Int64) = 0 := by
    show st + (0 - st) * (-1018231460777725123 : Int64) * (-7046029254386353131 : Int64) = 0
    rw [Int64.mul_assoc, show (-1018231460777725123 : Int64) * (-7046029254386353131 : Int64) = 1 by decide +kernel, Int64.mul_one, Int64.zero_sub, ← Int64.sub_eq_add_neg, Int64.sub_self]
  rw [c, own_mix0]
  decide
theorem own_O (K j : Nat) (b : Int32) (r st v : Int64) : O3_39 K (j + 1) st b r v = ((((9223372036854775807 : Int64) - r) < v → O3_39 K j (own_nx st) b r (own_dr st)) ∧ (¬ ((9223372036854775807 : Int64) - r) < v → O3_61 K st b v)) := by
  rw [O3_39, O3_50, O3_58, own_F4a, own_F4b]
theorem own_Fy (K j : Nat) (b : Int32) (r st v : Int64) (q : ((9223372036854775807 : Int64) - r) < v) : F3_39 K (j + 1) st b r v = F3_39 K j (own_nx st) b r (own_dr st) := by
  rw [F3_39, if_pos q, F3_50, F3_58, own_F4a, own_F4b]
theorem own_Fn (K j : Nat) (b : Int32) (r st v : Int64) (q : ¬ ((9223372036854775807 : Int64) - r) < v) : F3_39 K (j + 1) st b r v = F3_61 K st b v := by
  rw [F3_39, if_neg q]
theorem own_61 (K : Nat) (st : Int64) (b : Int32) (v : Int64) : F3_61 K st b v = ((v - v / b.toInt64 * b.toInt64).toInt32, st) := rfl
theorem own_loop (K : Nat) (b : Int32) (r : Int64) (hb : b.toInt64 ≠ 0) (k : Nat) : ∀ (st v : Int64), 0 ≤ v.toInt → ¬ ((9223372036854775807 : Int64) - r) < own_val k st v → ∀ j, k < j →
    O3_39 K j st b r v ∧ ∃ w : Int64, 0 ≤ w.toInt ∧ (F3_39 K j st b r v).1 = (w - w / b.toInt64 * b.toInt64).toInt32 := by
  have base : ∀ (st v : Int64) (j : Nat), 0 ≤ v.toInt → ¬ ((9223372036854775807 : Int64) - r) < v → O3_39 K (j + 1) st b r v ∧ ∃ w : Int64, 0 ≤ w.toInt ∧ (F3_39 K (j + 1) st b r v).1 = (w - w / b.toInt64 * b.toInt64).toInt32 := by
    intro st v j hv c
    rw [own_O, own_Fn K j b r st v c, own_61]
    exact ⟨⟨fun z => absurd z c, fun _ => ⟨hb, trivial⟩⟩, v, hv, rfl⟩
  induction k with
  | zero =>
    intro st v hv c j hj
    obtain ⟨i, rfl⟩ : ∃ i, j = i + 1 := ⟨j - 1, by omega⟩
    rw [own_val_0] at c
    exact base st v i hv c
  | succ k ih =>
    intro st v hv c j hj
    obtain ⟨i, rfl⟩ : ∃ i, j = i + 1 := ⟨j - 1, by omega⟩
    by_cases q : ((9223372036854775807 : Int64) - r) < v
    · rw [own_val_next] at c
      have t := ih (own_nx st) (own_dr st) (own_sh1 _) c i (by omega)
      rw [own_O, own_Fy K i b r st v q]
      exact ⟨⟨fun _ => t.1, fun z => absurd q z⟩, t.2⟩
    · exact base st v i hv q
theorem own_F61 (K : Nat) (d t : Int64) (b : Int32) (lim : Int64) (got : Int32) : F0_61 K d t b lim got = F0_70 K d (own_nx t) b lim got (own_dr t) := by rw [F0_61, own_F4a, own_F4b]
theorem own_O61 (K : Nat) (d t : Int64) (b : Int32) (lim : Int64) (got : Int32) : O0_61 K d t b lim got = O0_70 K d (own_nx t) b lim got (own_dr t) := by rw [O0_61, own_F4a, own_F4b]
theorem own_F109 (K : Nat) (d t : Int64) (b : Int32) (lim : Int64) (got : Int32) : F0_109 K d t b lim got = F0_118 K d (own_nx t) b lim got (own_dr t) := by rw [F0_109, own_F4a, own_F4b]
theorem own_O109 (K : Nat) (d t : Int64) (b : Int32) (lim : Int64) (got : Int32) : O0_109 K d t b lim got = O0_118 K d (own_nx t) b lim got (own_dr t) := by rw [O0_109, own_F4a, own_F4b]
theorem own_78 (K : Nat) (t : Int64) (b : Int32) (v : Int64) : F0_78 K t t b ((v - v / b.toInt64 * b.toInt64).toInt32) v = 1 := by
  rw [F0_78, if_pos rfl, F0_89, if_pos rfl]; rfl
theorem own_126 (K : Nat) (t : Int64) (b : Int32) (v : Int64) : F0_126 K t t b ((v - v / b.toInt64 * b.toInt64).toInt32) v = 1 := by
  rw [F0_126, if_pos rfl, F0_137, if_pos rfl]; rfl
theorem own_main (seed : Int64) (b : Int32) (r : Int64) (h1 : 1 ≤ b.toInt) (hr : 0 ≤ r.toInt) (e1 : ((((9223372036854775807 : Int64) - ((9223372036854775807 : Int64) / b.toInt64) * b.toInt64) + (1 : Int64)) - ((((9223372036854775807 : Int64) - ((9223372036854775807 : Int64) / b.toInt64) * b.toInt64) + (1 : Int64)) / b.toInt64) * b.toInt64) = r) :
    ∃ K, O0_45 K seed seed b r ∧ F0_45 K seed seed b r = 1 := by
  have hB : b.toInt64.toInt = b.toInt := Int32.toInt_toInt64 b
  have z0 : (0 : Int64).toInt = 0 := rfl
  have hb : b.toInt64 ≠ 0 := fun z => by rw [z] at hB; omega
  have c1 : ¬ b < 1 := by
    rw [Int32.lt_iff_toInt_lt]
    show ¬ b.toInt < (1 : Int)
    omega
  have lim : ((9223372036854775807 : Int64) - r).toInt = 9223372036854775807 - r.toInt := by
    have := Int64.toInt_lt r
    rw [Int64.toInt_sub]
    show ((9223372036854775807 : Int) - r.toInt).bmod (2 ^ 64) = _
    exact Int.bmod_eq_of_le (by omega) (by omega)
  have rl := Int64.toInt_lt r
  obtain ⟨k, hk⟩ := own_reach (own_nx seed) (own_dr seed)
  refine ⟨k + 3, ?_⟩
  have c0 : ¬ ((9223372036854775807 : Int64) - r) < own_val k (own_nx seed) (own_dr seed) := by
    rw [hk, Int64.lt_iff_toInt_lt, lim, z0]; omega
  obtain ⟨o, w, hw, ev⟩ := own_loop (k + 3) b r hb k (own_nx seed) (own_dr seed) (own_sh1 _) c0 (k + 3) (by omega)
  have eF : F3 (k + 3) b seed = F3_39 (k + 3) (k + 3) (own_nx seed) b r (own_dr seed) := by
    rw [F3, if_neg c1, F3_19, e1, F3_31, own_F4a, own_F4b]
  have eO : O3 (k + 3) b seed := by
    rw [O3, O3_19, e1, O3_31, own_F4a, own_F4b]
    exact ⟨fun z => absurd z c1, fun _ => ⟨hb, hb, o⟩⟩
  have eO45 : O0_45 (k + 3) seed seed b r = (O3 (k + 3) b seed ∧ O0_61 (k + 3) (F3 (k + 3) b seed).2 seed b ((9223372036854775807 : Int64) - r) (F3 (k + 3) b seed).1) := by rw [O0_45, O0_53]
  have eF45 : F0_45 (k + 3) seed seed b r = F0_61 (k + 3) (F3 (k + 3) b seed).2 seed b ((9223372036854775807 : Int64) - r) (F3 (k + 3) b seed).1 := by rw [F0_45, F0_53]
  rw [eO45, eF45, own_O61, own_F61]
  by_cases q1 : ((9223372036854775807 : Int64) - r) < own_dr seed
  · by_cases q2 : ((9223372036854775807 : Int64) - r) < own_dr (own_nx seed)
    · -- two refusals: the answer lies below b
      have m := own_lrem w b.toInt64 hw (by rw [hB]; omega)
      rw [hB] at m
      have m0 := Int.emod_nonneg w.toInt (show b.toInt ≠ 0 by omega)
      have m1 := Int.emod_lt_of_pos w.toInt (show 0 < b.toInt by omega)
      have bl := Int32.toInt_lt b
      have t : ((F3 (k + 3) b seed).1).toInt = w.toInt % b.toInt := by
        rw [eF, ev, Int64.toInt_toInt32, m]
        exact Int.bmod_eq_of_le (by omega) (by omega)
      generalize F3 (k + 3) b seed = g at t
      have d1 : ¬ g.1 < 0 := by
        rw [Int32.lt_iff_toInt_lt, t]
        show ¬ _ < (0 : Int)
        omega
      have d2 : g.1 < b := by rw [Int32.lt_iff_toInt_lt, t]; exact m1
      rw [O0_70, F0_70, if_pos q1, own_O109, own_F109, O0_118, F0_118, if_pos q2, F0_157, if_neg d1, F0_162, if_pos d2]
      exact ⟨⟨eO, ⟨fun _ => ⟨fun _ => trivial, fun z => absurd q2 z⟩, fun z => absurd q1 z⟩⟩, rfl⟩
    · -- the second draw
      have e2 : F3 (k + 3) b seed = F3_61 (k + 3) (own_nx (own_nx seed)) b (own_dr (own_nx seed)) := by
        rw [eF, own_Fy _ _ _ _ _ _ q1, own_Fn _ _ _ _ _ _ q2]
      rw [e2, own_61, O0_70, F0_70, if_pos q1, own_O109, own_F109, O0_118, F0_118, if_neg q2, own_126]
      exact ⟨⟨eO, ⟨fun _ => ⟨fun z => absurd z q2, fun _ => ⟨hb, fun _ => trivial, fun _ => trivial⟩⟩, fun z => absurd q1 z⟩⟩, rfl⟩
  · -- the first draw
    have e2 : F3 (k + 3) b seed = F3_61 (k + 3) (own_nx seed) b (own_dr seed) := by
      rw [eF, own_Fn _ _ _ _ _ _ q1]
    rw [e2, own_61, O0_70, F0_70, if_neg q1, own_78]
    exact ⟨⟨eO, ⟨fun z => absurd z q1, fun _ => ⟨hb, fun _ => trivial, fun _ => trivial⟩⟩⟩, rfl⟩
theorem own_ra (M B : Int64) (n : Int) (hB : 0 < B.toInt) (hl : B.toInt < 2 ^ 31) (h : M.toInt = n % B.toInt) : ((M + 1) - (M + 1) / B * B).toInt = (n + 1) % B.toInt := by
  have n1 := Int.emod_nonneg n (Int.ne_of_gt hB)
  have n2 := Int.emod_lt_of_pos n hB
  have s1 : (M + 1).toInt = n % B.toInt + 1 := by
    rw [Int64.toInt_add, h]
    show (_ + (1 : Int)).bmod (2 ^ 64) = _
    exact Int.bmod_eq_of_le (by omega) (by omega)
  rw [own_lrem (M + 1) B (by rw [s1]; omega) hB, s1, Int.emod_add_emod]
theorem own_rb (M B : Int64) (n : Int) (hB : 0 < B.toInt) (hl : B.toInt < 2 ^ 31) (h : M.toInt = n % B.toInt) : ((M * 2) - (M * 2) / B * B).toInt = (n * 2) % B.toInt := by
  have n1 := Int.emod_nonneg n (Int.ne_of_gt hB)
  have n2 := Int.emod_lt_of_pos n hB
  have s1 : (M * 2).toInt = n % B.toInt * 2 := by
    rw [Int64.toInt_mul, h]
    show (_ * (2 : Int)).bmod (2 ^ 64) = _
    exact Int.bmod_eq_of_le (by omega) (by omega)
  rw [own_lrem (M * 2) B (by rw [s1]; omega) hB, s1, Int.mul_emod, Int.emod_emod, ← Int.mul_emod]
theorem own_same (B : Int64) (hB : 0 < B.toInt) (hl : B.toInt < 2 ^ 31) : (((((9223372036854775807 : Int64) - (9223372036854775807 : Int64) / B * B) + (1 : Int64)) - ((((9223372036854775807 : Int64) - (9223372036854775807 : Int64) / B * B) + (1 : Int64)) / B) * B)) = ((((4611686018427387904 : Int64) - (4611686018427387904 : Int64) / B * B) * (2 : Int64)) - ((((4611686018427387904 : Int64) - (4611686018427387904 : Int64) / B * B) * (2 : Int64)) / B) * B) ∧ 0 ≤ ((((4611686018427387904 : Int64) - (4611686018427387904 : Int64) / B * B) * (2 : Int64)) - ((((4611686018427387904 : Int64) - (4611686018427387904 : Int64) / B * B) * (2 : Int64)) / B) * B).toInt := by
  have t1 := own_ra _ B _ hB hl (own_lrem 9223372036854775807 B (by decide) hB)
  have t2 := own_rb _ B _ hB hl (own_lrem 4611686018427387904 B (by decide) hB)
  constructor
  · apply Int64.toInt_inj.mp
    rw [t1, t2, show (9223372036854775807 : Int64).toInt + 1 = (4611686018427387904 : Int64).toInt * 2 by decide]
  · rw [t2]; exact Int.emod_nonneg _ (Int.ne_of_gt hB)
theorem own_law (i0 : Int64) (i1 : Int32) : ∃ K, O0 K i0 i1 ∧ F0 K i0 i1 = 1 := by
  have h := own_pos_mod i1 2147483647 (by decide)
  have em : (2147483647 : Int32).toInt = 2147483647 := rfl
  obtain ⟨b, hbdef⟩ : ∃ b, b = (1 : Int32) + ((i1 &&& (2147483647 : Int32)) % (2147483647 : Int32)) := ⟨_, rfl⟩
  have tb : b.toInt = 1 + ((i1 &&& (2147483647 : Int32)) % (2147483647 : Int32)).toInt := by
    rw [hbdef, Int32.toInt_add]
    show ((1 : Int) + _).bmod (2 ^ 32) = _
    exact Int.bmod_eq_of_le (by omega) (by omega)
  have h1 : 1 ≤ b.toInt := by omega
  have bl := Int32.toInt_lt b
  have hB : b.toInt64.toInt = b.toInt := Int32.toInt_toInt64 b
  have hb : b.toInt64 ≠ 0 := fun z => by
    rw [z] at hB
    have : (0 : Int64).toInt = 0 := rfl
    omega
  obtain ⟨same, nn⟩ := own_same b.toInt64 (by omega) (by omega)
  obtain ⟨K, o, v⟩ := own_main i0 b _ h1 nn same
  refine ⟨K, ?_⟩
  rw [O0, F0, ← hbdef, O0_10, F0_10, F1]
  exact ⟨⟨hb, hb, o⟩, v⟩
set_option maxRecDepth 65536 in
set_option maxHeartbeats 40000000 in
theorem comes_1 {Post : Tables → Env → Array Value → State → Outcome → State → Prop} (hpost : ∀ tb e args s v u, (limb_1_1.after args s (.returned v) u = true ∧ limb_1_2.after args s (.returned v) u = true ∧ True) → FrameEnd s (.returned v) u (Jvm.fieldLocs frame_1_writes args s ++ Jvm.arrayLocs frame_1_arrays args s ++ Jvm.staticLocs frame_1_statics s) 16 128 → Post tb e args s (.returned v) u) :
    ArmFor flags0 classFile x code maxLocals ret World_1 tables_1 room_1 Calls_1 rest_1 Pre_1 Post := by
  intro l hfl _ _ p e ha hc hk s m args below hf hA hF happ hP
  obtain ⟨hcalls, hrest, hpre⟩ := hP
  obtain ⟨-, -, -, hnamed, -, -, -, hat⟩ := (Spec.applies_iff hf).mp happ
  obtain ⟨hg, hn⟩ := and_e (Cond.before_iff.mp (show (Jvm.Cond.and given_1 narrow_1).before args s = true from hpre))
  obtain ⟨h1, r0⟩ := and_e hg
  obtain ⟨k0, r1⟩ := and_e r0
  obtain ⟨w0, w1, rfl⟩ : ∃ w0 w1 : Value, args = #[w0, w1] := by
    have hs : args.size = 2 := by simpa [Cond.value, given_1] using h1
    obtain ⟨L⟩ := args
    match L, hs with
    | [w0, w1], _ => exact ⟨w0, w1, rfl⟩
  have hw := fun d (hd : d ∈ tables_1) => atoms_spec (ws := Jvm.Cond.code x code maxLocals ret :: tables_1) hat d (List.mem_cons_of_mem _ hd)
  obtain ⟨i0, e0⟩ := isL_v k0
  obtain rfl : w0 = (.long i0) := Option.some.inj e0
  obtain ⟨i1, e1⟩ := is_v r1
  obtain rfl : w1 = (.int i1) := Option.some.inj e1
  obtain ⟨K, ok, val⟩ := own_law i0 i1
  obtain ⟨n, o, h1, h2, h3, _, L, rfl, ⟨rfl, N⟩, hq⟩ := rm0 l s _ hw K i0 i1 s.heap s.heap.size (Nat.le_refl _) ok p e ha hc hk s m _ below hf ((Spec.applies_iff_loose hf).mp happ).1 ⟨rfl, State.Warmed39.refl s, rfl⟩ trivial
  refine ⟨n, _, h1, h2, h3, hpost _ _ _ _ _ _ ⟨Cond.after_iff.mpr rfl, Cond.after_iff.mpr (eq_i res_at (Term.int_eval (1)) (by rw [val])), trivial⟩ ⟨hq.1, hq.2.1, (hq.2.2.sift fun y hy => Or.inr (N y hy)).mono (by decide) (by decide)⟩⟩
theorem main_1_1 : Claimed_1_1 := comes_1 fun _ _ _ _ _ _ h hF => ⟨h.1, hF⟩
theorem main_1_2 : Claimed_1_2 := comes_1 fun _ _ _ _ _ _ h hF => ⟨h.2.1, hF⟩
end Jvm.Pilot.@@N@@
namespace Jvm.Pilot.@@N@@
open Jvm Jvm.ClassFile Sem Op Lib Jvm.Free Jvm.Stand Jvm.Pilot.@@N@@.Jvm.D
/-! MADE BY PROGRAM (witnessworld.py) out of the Statement's table words and the real class files: 9 classes; the members and pool entries that the words name. The judged class is class 1, her method 1. -/
namespace start1
open Jvm.ClassFile
def u (s : String) : CpInfo := .utf8 (stringToUtf16 s)
/-- a pool by its gaps: so many unusable entries, then the entry; so many at the end -/
def gap : Nat → List CpInfo → List CpInfo
  | 0, r => r
  | n + 1, r => .unusable :: gap n r
def poolList (es : List (Nat × CpInfo)) (last : Nat) : List CpInfo := es.foldr (fun e r => gap e.1 (e.2 :: r)) (gap last [])
def pool (es : List (Nat × CpInfo)) (last : Nat) : Array CpInfo := ⟨poolList es last⟩
def fileOf (pool : Array CpInfo) (this : Nat) (attrs : Array Attribute := #[]) (ms : Array MethodInfo := #[]) (fl : Nat := 33) (sup : Nat := 0) (ifs : Array Nat := #[]) (fds : Array FieldInfo := #[]) : ClassFile where
  minorVersion := 0
  majorVersion := 65
  constantPool := pool
  accessFlags := fl
  thisClass := this
  superClass := sup
  interfaces := ifs
  fields := fds
  methods := ms
  attributes := attrs
def plain (name : String) (sup : Option ClassId) : Class where
  name := name
  kind := .ordinary
  loader := none
  accessFlags := 33
  super := sup
  interfaces := #[]
  cf := none
  fields := #[]
  methods := #[]
  instanceTypes := #[]
  staticTypes := #[]
  resolved := #[]
  callSites := []
  init := .initialized
  statics := none
  mirror := none

def pool0 : Array CpInfo := pool [(5, u "<init>"), (0, u "()V"), (1, .class_ 10), (1, u "java/lang/Object")] 113

def k0c0 : Code := { maxStack := 0, maxLocals := 1, code := object_method_1_code, exceptionTable := #[], attributes := #[] }
def k0m0 : Method := { name := "<init>", desc := "()V", sig := { parameters := [], returnType := none }, accessFlags := 1, code := some k0c0 }
/-- java/lang/Object -/
def k0 : Class := { plain "java/lang/Object" none with
  accessFlags := 33
  interfaces := #[]
  cf := some (fileOf pool0 8 #[] #[{ accessFlags := 1, nameIndex := 5, descriptorIndex := 6, attributes := #[] }] 33 0 #[] #[])
  fields := #[]
  methods := #[k0m0]
  instanceTypes := #[]
  staticTypes := #[]
  resolved := Array.replicate 124 none
  statics := none }

def pool1 : Array CpInfo := pool [(2, .class_ 4), (1, u "java/lang/Object"), (0, u "<init>"), (0, u "()V"), (0, .integer 2147483647), (0, .class_ 9), (0, u "com/example/holywell/holywell/generate/Draws"), (0, .methodref 8 11), (0, .nameAndType 5 12), (0, u "(J)V"), (0, .long 4611686018427387904), (1, .long 2), (3, .long 9223372036854775807), (1, .methodref 8 22), (0, .nameAndType 23 24), (0, u "below"), (0, u "(I)I"), (0, .methodref 8 26), (0, .nameAndType 27 28), (0, u "bits"), (0, u "()J"), (0, .class_ 30), (0, u "com/example/holywell/holywell/generate/DrawsBelowPinLaw"), (2, u "law"), (0, u "(JI)Z")] 3

def k1m0 : Method := { name := "<init>", desc := "()V", sig := { parameters := [], returnType := none }, accessFlags := 1, code := none }
def k1c1 : Code := { maxStack := 5, maxLocals := 15, code := code, exceptionTable := #[], attributes := #[] }
def k1m1 : Method := { name := "law", desc := "(JI)Z", sig := { parameters := [.long, .int], returnType := some .boolean }, accessFlags := 9, code := some k1c1 }
/-- com/example/holywell/holywell/generate/DrawsBelowPinLaw -/
def k1 : Class := { plain "com/example/holywell/holywell/generate/DrawsBelowPinLaw" (some 0) with
  accessFlags := 49
  interfaces := #[]
  cf := some (fileOf pool1 29 #[] #[{ accessFlags := 1, nameIndex := 5, descriptorIndex := 6, attributes := #[] }, { accessFlags := 9, nameIndex := 33, descriptorIndex := 34, attributes := #[] }] 49 2 #[] #[])
  fields := #[]
  methods := #[k1m0, k1m1]
  instanceTypes := #[]
  staticTypes := #[]
  resolved := Array.replicate 38 none
  statics := none }

def pool2 : Array CpInfo := pool [(1, .methodref 2 3), (0, .class_ 4), (0, .nameAndType 5 6), (0, u "java/lang/Object"), (0, u "<init>"), (0, u "()V"), (0, .fieldref 8 9), (0, .class_ 10), (0, .nameAndType 11 12), (0, u "com/example/holywell/holywell/generate/Draws"), (0, u "state"), (0, u "J"), (0, .long 11400714819323198485), (1, .long 13787848793156543929), (1, .long 10723151780598845931), (12, .long 9223372036854775807), (1, .methodref 8 33), (0, .nameAndType 34 35), (0, u "bits"), (0, u "()J"), (2, u "below"), (0, u "(I)I"), (0, u "GAMMA"), (1, u "(J)V")] 24

def k2c0 : Code := { maxStack := 3, maxLocals := 3, code := prog_41_method_1_code, exceptionTable := #[], attributes := #[] }
def k2m0 : Method := { name := "<init>", desc := "(J)V", sig := { parameters := [.long], returnType := none }, accessFlags := 0, code := some k2c0 }
def k2c1 : Code := { maxStack := 5, maxLocals := 3, code := prog_41_method_2_code, exceptionTable := #[], attributes := #[] }
def k2m1 : Method := { name := "bits", desc := "()J", sig := { parameters := [], returnType := some .long }, accessFlags := 0, code := some k2c1 }
def k2c2 : Code := { maxStack := 6, maxLocals := 6, code := prog_41_method_3_code, exceptionTable := #[], attributes := #[] }
def k2m2 : Method := { name := "below", desc := "(I)I", sig := { parameters := [.int], returnType := some .int }, accessFlags := 0, code := some k2c2 }
/-- com/example/holywell/holywell/generate/Draws -/
def k2 : Class := { plain "com/example/holywell/holywell/generate/Draws" (some 0) with
  accessFlags := 48
  interfaces := #[]
  cf := some (fileOf pool2 8 #[] #[{ accessFlags := 0, nameIndex := 5, descriptorIndex := 42, attributes := #[] }, { accessFlags := 0, nameIndex := 34, descriptorIndex := 35, attributes := #[] }, { accessFlags := 0, nameIndex := 38, descriptorIndex := 39, attributes := #[] }] 48 2 #[] #[{ accessFlags := 26, nameIndex := 40, descriptorIndex := 12, attributes := #[] }, { accessFlags := 2, nameIndex := 11, descriptorIndex := 12, attributes := #[] }])
  fields := #[{ name := "GAMMA", type := .long, accessFlags := 26, slot := 0, constantValue := 0 }, { name := "state", type := .long, accessFlags := 2, slot := 0, constantValue := 0 }]
  methods := #[k2m0, k2m1, k2m2]
  instanceTypes := #[.long]
  staticTypes := #[.long]
  resolved := Array.replicate 67 none
  statics := none }

def pool3 : Array CpInfo := pool [(1, u "java/lang/Cloneable"), (0, .class_ 1), (0, u "java/lang/Object"), (0, .class_ 3)] 3

/-- java/lang/Cloneable -/
def k3 : Class := { plain "java/lang/Cloneable" (some 0) with
  accessFlags := 1537
  interfaces := #[]
  cf := some (fileOf pool3 2 #[] #[] 1537 4 #[] #[])
  fields := #[]
  methods := #[]
  instanceTypes := #[]
  staticTypes := #[]
  resolved := Array.replicate 8 none
  statics := none }

def pool4 : Array CpInfo := pool [(1, u "java/io/Serializable"), (0, .class_ 1), (0, u "java/lang/Object"), (0, .class_ 3)] 3

/-- java/io/Serializable -/
def k4 : Class := { plain "java/io/Serializable" (some 0) with
  accessFlags := 1537
  interfaces := #[]
  cf := some (fileOf pool4 2 #[] #[] 1537 4 #[] #[])
  fields := #[]
  methods := #[]
  instanceTypes := #[]
  staticTypes := #[]
  resolved := Array.replicate 8 none
  statics := none }

/-- the primitive byte -/
def k5 : Class := { plain "byte" none with kind := .primitive 'B', accessFlags := 0x411 }
/-- [B -/
def k6 : Class := { plain "[B" (some 0) with kind := .array 5 .byte, interfaces := #[3, 4], accessFlags := 1041 }

/-- the primitive int -/
def k7 : Class := { plain "int" none with kind := .primitive 'I', accessFlags := 0x411 }
/-- [I -/
def k8 : Class := { plain "[I" (some 0) with kind := .array 7 .int, interfaces := #[3, 4], accessFlags := 1041 }

def heap : Heap := #[]
def classes : Array Class := #[k0, k1, k2, k3, k4, k5, k6, k7, k8]
def interned : List (Array UInt16 × Addr) := []
def slotsUsed : Nat := 0
def theMethod : MethodId := ⟨1, 1⟩
def args0 : Array Value := #[.long 5, .int 7]
def aboutOver (below : List Frame) : State where
  vm := { classes := classes, interned := interned.toArray }
  heap := heap
  slotsUsed := slotsUsed
  threads := #[{ frames := .invoking theMethod args0 :: below }]
def below0 : List Frame := [.native { method := ⟨0, 0⟩, args := #[] }]
def about1 : State := aboutOver below0
def p0 : Program := .bare "" "" ""
def e0 : Env := launch0.env 0 0 0
theorem w_frames : about1.frames = Frame.invoking theMethod args0 :: below0 := rfl
set_option maxRecDepth 65536 in
theorem w_args : argsFit about1.vm theMethod args0 = true := by decide +kernel
set_option maxRecDepth 65536 in
theorem w_heap : heapFits about1 = true := by decide +kernel
set_option maxRecDepth 65536 in
theorem w_runnable : about1.curStatus? = some .runnable := by decide +kernel
set_option maxRecDepth 65536 in
theorem w_alone : about1.alone = true := by decide +kernel
set_option maxRecDepth 65536 in
theorem w_named : about1.methodNamed? x = some theMethod := by decide +kernel
set_option maxRecDepth 65536 in
theorem w_hears : about1.hears theMethod below0 = true := by decide +kernel
set_option maxRecDepth 65536 in
theorem w_ripe : about1.ripe theMethod args0 below0 = true := by decide +kernel
theorem w_running : about1.status = .running := rfl
set_option maxRecDepth 65536 in
theorem w_room : about1.hasRoom e0.platform room_1 = true :=
  launch0.hasRoom_least _ room_1 (by decide +kernel) (by decide +kernel) (by decide +kernel) (by decide +kernel) (by decide +kernel) (by decide +kernel)
theorem allAtoms_all (ts : List Jvm.Cond) (a : Array Jvm.Value) (st : Jvm.State) : (allAtoms ts).before a st = ts.all (fun c => c.before a st) := by
  induction ts with
  | nil => rfl
  | cons c t ih =>
    show (Jvm.Cond.and c (allAtoms t)).before a st = _
    rw [Jvm.Cond.before_and, ih, List.all_cons]
def words1 : List Jvm.Cond := Jvm.Cond.code x code maxLocals ret :: tables_1
/-- a 'code' word, met by the world's own term for the bytes: nothing is compared byte by byte -/
theorem code_word {y : MethodName} {bytes : ByteArray} {mx : Nat} {rt : Option FieldType} {a : Array Value} {s : State} {m : MethodId} {meth : Method} {c : Code} (h1 : s.methodNamed? y = some m) (h2 : s.vm.method? m = some meth) (h3 : meth.code = some c) (h4 : c.code = bytes)
    (h5 : (c.maxLocals == mx && c.exceptionTable.isEmpty && decide (c.maxStack ≤ mostOperands) && decide (meth.sig.returnType = rt) && !meth.locks && decide (parseMethodDescriptor y.desc = some meth.sig)) = true) : (Jvm.Cond.code y bytes mx rt).before a s = true := by
  simp only [Bool.and_eq_true, beq_iff_eq, Bool.not_eq_true', decide_eq_true_eq] at h5
  obtain ⟨⟨⟨⟨⟨g1, g2⟩, g3⟩, g4⟩, g5⟩, g6⟩ := h5
  simp [Cond.before, Cond.holds, Cond.value, h1, h2, h3, h4, g1, g2, g3, g4, g5, g6]
def isCode : Jvm.Cond → Bool
  | .code _ _ _ _ => true
  | _ => false
theorem all_split {L : List Jvm.Cond} {P : Jvm.Cond → Bool} (h1 : L.all (fun c => isCode c || P c) = true) (h2 : ∀ c ∈ L.filter isCode, P c = true) : L.all P = true := by
  refine List.all_eq_true.mpr fun c hc => ?_
  have h := List.all_eq_true.mp h1 c hc
  rcases Bool.eq_false_or_eq_true (isCode c) with hi | hi
  · exact h2 c (List.mem_filter.mpr ⟨hc, hi⟩)
  · simpa [hi] using h
set_option maxRecDepth 65536 in
theorem w_c0 : (Jvm.Cond.code x code maxLocals ret).before args0 about1 = true := code_word (m := ⟨1, 1⟩) (meth := k1m1) (c := k1c1) (by decide +kernel) rfl rfl rfl (by decide +kernel)
set_option maxRecDepth 65536 in
theorem w_c1 : (Jvm.Cond.code ({ cls := "com/example/holywell/holywell/generate/Draws", name := "<init>", desc := "(J)V" } : Jvm.MethodName) prog_41_method_1_code (3 : Nat) (Option.none : Option Jvm.ClassFile.FieldType)).before args0 about1 = true := code_word (m := ⟨2, 0⟩) (meth := k2m0) (c := k2c0) (by decide +kernel) rfl rfl rfl (by decide +kernel)
set_option maxRecDepth 65536 in
theorem w_c2 : (Jvm.Cond.code ({ cls := "java/lang/Object", name := "<init>", desc := "()V" } : Jvm.MethodName) object_method_1_code (1 : Nat) (Option.none : Option Jvm.ClassFile.FieldType)).before args0 about1 = true := code_word (m := ⟨0, 0⟩) (meth := k0m0) (c := k0c0) (by decide +kernel) rfl rfl rfl (by decide +kernel)
set_option maxRecDepth 65536 in
theorem w_c3 : (Jvm.Cond.code ({ cls := "com/example/holywell/holywell/generate/Draws", name := "below", desc := "(I)I" } : Jvm.MethodName) prog_41_method_3_code (6 : Nat) (Option.some Jvm.ClassFile.FieldType.int)).before args0 about1 = true := code_word (m := ⟨2, 2⟩) (meth := k2m2) (c := k2c2) (by decide +kernel) rfl rfl rfl (by decide +kernel)
set_option maxRecDepth 65536 in
theorem w_c4 : (Jvm.Cond.code ({ cls := "com/example/holywell/holywell/generate/Draws", name := "bits", desc := "()J" } : Jvm.MethodName) prog_41_method_2_code (3 : Nat) (Option.some Jvm.ClassFile.FieldType.long)).before args0 about1 = true := code_word (m := ⟨2, 1⟩) (meth := k2m1) (c := k2c1) (by decide +kernel) rfl rfl rfl (by decide +kernel)
def codes1 : List Jvm.Cond := [Jvm.Cond.code x code maxLocals ret, Jvm.Cond.code ({ cls := "com/example/holywell/holywell/generate/Draws", name := "<init>", desc := "(J)V" } : Jvm.MethodName) prog_41_method_1_code (3 : Nat) (Option.none : Option Jvm.ClassFile.FieldType), Jvm.Cond.code ({ cls := "java/lang/Object", name := "<init>", desc := "()V" } : Jvm.MethodName) object_method_1_code (1 : Nat) (Option.none : Option Jvm.ClassFile.FieldType), Jvm.Cond.code ({ cls := "com/example/holywell/holywell/generate/Draws", name := "below", desc := "(I)I" } : Jvm.MethodName) prog_41_method_3_code (6 : Nat) (Option.some Jvm.ClassFile.FieldType.int), Jvm.Cond.code ({ cls := "com/example/holywell/holywell/generate/Draws", name := "bits", desc := "()J" } : Jvm.MethodName) prog_41_method_2_code (3 : Nat) (Option.some Jvm.ClassFile.FieldType.long)]
set_option maxRecDepth 65536 in
theorem codes_eq : words1.filter isCode = codes1 := rfl
theorem w_codes : ∀ c ∈ words1.filter isCode, c.before args0 about1 = true := by
  rw [codes_eq]
  intro c hc
  simp only [codes1, List.mem_cons, List.not_mem_nil, or_false] at hc
  rcases hc with rfl | rfl | rfl | rfl | rfl
  · exact w_c0
  · exact w_c1
  · exact w_c2
  · exact w_c3
  · exact w_c4
set_option maxRecDepth 65536 in
theorem w_t1 : (words1.take 24).all (fun c => isCode c || c.before args0 about1) = true := by decide +kernel
set_option maxRecDepth 65536 in
theorem w_t2 : (words1.drop 24).all (fun c => isCode c || c.before args0 about1) = true := by decide +kernel
theorem w_tables : (allAtoms (Jvm.Cond.code x code maxLocals ret :: tables_1)).before args0 about1 = true := by
  rw [allAtoms_all]
  show words1.all (fun c => c.before args0 about1) = true
  refine all_split ?_ w_codes
  rw [← List.take_append_drop 24 words1, List.all_append, w_t1, w_t2]
  rfl
set_option maxRecDepth 65536 in
theorem w_case : (Jvm.Cond.and given_1 narrow_1).before args0 about1 = true := by decide +kernel
theorem w_applies : (headSpec (Jvm.Cond.code x code maxLocals ret :: tables_1) room_1).applies x e0.platform about1 = true :=
  (Spec.applies_iff w_frames).mpr ⟨w_running, w_runnable, w_alone, w_named, w_hears, w_ripe, w_room, w_tables⟩
theorem atStart : AtStart classFile x code maxLocals ret World_1 tables_1 room_1 Calls_1 rest_1 Pre_1 launch0 p0 e0 about1 theMethod args0 below0 :=
  ⟨lists_1, trivial, launch0.admits_env _ _ _, launch0.least_env, fairChoices_fair.cas, fairChoices_fair.clock, w_frames, w_args, w_heap, w_applies, trivial, trivial, w_case⟩
end start1
theorem witness_1 : WitnessClaimed_1 := ⟨start1.p0, start1.e0, start1.about1, start1.theMethod, start1.args0, start1.below0, start1.atStart⟩
end Jvm.Pilot.@@N@@
