import JvmDerived
import JvmDerived.Pilot.@@N@@Statement
import JvmDerived.Pilot.@@N@@Code
set_option linter.unusedVariables false
set_option linter.unusedSimpArgs false
namespace Jvm.RoadKit
open Sem ClassFile Op Lib Jvm.Stand Jvm.Free Jvm.LawKit
section New
variable {p : Program} {l : Launch} {e : Env} {R : Room} {s : State} {m : MethodId} {args : Array Value} {below : List Frame} {meth : Method} {c : Code} {T : State} {locs : List Loc} {cells slots : Nat}
theorem retI (X : Stand p l e R s m args below meth c T locs cells slots) (hx : p.tables.exec = Jvm.exec) {pc : Nat} {Ls : Array Slot} {z : Int32} {rest : List Value} (hret : meth.sig.returnType = some .int) (hd : decode c.code pc = .ok (.ireturn, 1)) {fs : List Frame}
    (hl : ∀ (f : JFrame) (acts : List Action), f.method = m → f.locked = none → f.entered = [] → (doReturn e (T.setTop f) acts (some (.int z))).1 = T.setFrames fs) : Steps p.tables e below (T.setTop (mkF m pc Ls (.int z :: rest))) (T.setFrames fs) := by
  have hm' : T.vm.method? m = some meth := X.method'
  have hn : narrow .int (.int z) = .int z := rfl
  show Steps p.tables e below (T.setTop { method := m, pc := pc, locals := Ls, stack := _ :: rest, locked := none }) _
  jvm_step X.here [X.here.top, hx, hd, hm', hret, hn]
  first | (intro acts; rw [hl _ acts rfl rfl rfl]) | rw [hl _ _ rfl rfl rfl]
  exact Steps.refl _
end New
end Jvm.RoadKit
namespace Jvm.Pilot.@@N@@
open Jvm Jvm.ClassFile Sem Op Lib Jvm.Free Jvm.Stand Jvm.LawKit Jvm.RoadKit Bundle Jvm.Pilot.@@N@@.Jvm.D
/-! ### the frame of this text: 'Ends': the run from u ends in a return that Q says -/
section OwnFrame
variable {p : Program} {l : Launch} {e : Env} {R : Room} {s : State} {m : MethodId} {args : Array Value} {below : List Frame} {meth : Method} {c : Code} {T : State} {locs : List Loc} {cells slots cs ss : Nat} {Z : State} {a0 : Array Value} {h h' : Heap} {Q : Option Value → Heap → List Loc → Prop} {u u' : State}
def Ends (p : Program) (e : Env) (below : List Frame) (s : State) (cs ss : Nat) (Q : Option Value → Heap → List Loc → Prop) (u : State) : Prop :=
  ∃ t v L, Steps p.tables e below u t ∧ t.status = .running ∧ Ended t below (.returned v) ∧ Q v t.heap L ∧ s.WarmedH t.vm ∧ s.sameButNew ({ t with vm := s.vm } : State) L cs ss
theorem Ends.step (h : Ends p e below s cs ss Q u') (k : ∀ t, Steps p.tables e below u' t → Steps p.tables e below u t) : Ends p e below s cs ss Q u := by
  obtain ⟨t, v, L, h1, r⟩ := h; exact ⟨t, v, L, k t h1, r⟩
theorem Ends.ret (X : Stand p l e R s m args below meth c T locs cells slots) {v : Option Value} (hv : meth.sig.returnType = none → v = none) (hlk : meth.locks = false)
    (k : ∀ fs, (∀ (f : JFrame) (acts : List Action), f.method = m → f.locked = none → f.entered = [] → (doReturn e (T.setTop f) acts v).1 = T.setFrames fs) → Steps p.tables e below u (T.setFrames fs))
    (hc : cells ≤ cs) (hs : slots ≤ ss) (hq : Q v T.heap locs) : Ends p e below s cs ss Q u := by
  obtain ⟨fs, hr, hrun, hended, hW, hsame⟩ := X.leave (v := v) hv hlk
  exact ⟨T.setFrames fs, v, locs, k fs hr, hrun, hended, hq, hW, hsame.mono hc hs⟩
/-- what a body promises -/
abbrev Meets (l : Launch) (Z : State) (y : MethodName) (bytes : ByteArray) (maxL : Nat) (ret : Option FieldType) (ws : List Jvm.Cond) (rm : Room) (as' : Array Value) (h : Heap) (Q : Option Value → Heap → List Loc → Prop) (cs ss : Nat) : Prop :=
  MetFree l y (head1 (Jvm.Cond.code y bytes maxL ret :: ws) rm) (fun a U => a = as' ∧ Z.Warmed39 U.vm ∧ U.heap = h) (fun _ _ _ _ _ => True) (fun _ U o U' => ∃ v L, o = .returned v ∧ Q v U'.heap L ∧ FrameEnd U o U' L cs ss)
theorem Meets.of {y : MethodName} {bytes : ByteArray} {maxL : Nat} {ret : Option FieldType} {ws : List Jvm.Cond} {rm : Room} {as' : Array Value} (pn : plainFor y = true)
    (k : ∀ (p : Program) (e : Env) (s : State) (m : MethodId) (below : List Frame) (meth : Method) (c : Code) (s₁ : State), p.tables.exec = Jvm.exec → c.code = bytes → c.maxLocals = maxL → Z.Warmed39 s.vm → s.vm.findClass y.cls = some m.cls → meth.name = y.name → meth.sig.returnType = ret → meth.locks = false →
      Stand p l e rm s m as' below meth c s₁ [] 0 0 → s₁.heap = h → Ends p e below s cs ss Q (s₁.setTop (entryFrame m as' maxL))) : Meets l Z y bytes maxL ret ws rm as' h Q cs ss := by
  refine MetFree.of_bodySF pn hisR ?_
  intro p e s m args below meth c s₁ Bd hml0 hP hK
  obtain ⟨rfl, hZ, hh⟩ := hP
  obtain ⟨t, v, L, h1, h2, h3, h4, h5, h6⟩ := k p e s m below meth c s₁ Bd.exec Bd.bytes hml0 hZ (findClass_of_methodNamed Bd.named) (name_of_methodNamed Bd.named Bd.method).1 Bd.returns (BodyLoose.notSynchronized Bd) (Stand.of_body Bd) (by rw [← hh, Bd.state]; rfl)
  exact ⟨t, .returned v, h1, h2, h3, v, L, rfl, h4, ⟨_, rfl⟩, h5, h6⟩
theorem Ends.callS (X : Stand p l e R s m args below meth c T locs cells slots) (hx : p.tables.exec = Jvm.exec) (hZ : Z.Warmed39 s.vm) {own : String} {index : Nat} {y : MethodName} {bytes : ByteArray} {maxL : Nat} {ret : Option FieldType}
    (hown : s.vm.findClass own = some m.cls) (w1 : (Jvm.Cond.methodLink own index y).before a0 Z = true) (w2 : (Jvm.Cond.static y).before a0 Z = true) (w3 : (Jvm.Cond.initialized y.cls).before a0 Z = true) (w4 : (Jvm.Cond.code y bytes maxL ret).before a0 Z = true)
    (hy : y.cls ≠ "java/lang/invoke/MethodHandle" ∧ y.cls ≠ "java/lang/invoke/VarHandle") {rm : Room} {as' : Array Value} {Q' : Option Value → Heap → List Loc → Prop} (hM : Meets l Z y bytes maxL ret [] rm as' h Q' rm.cells rm.slots)
    (W : Nat) (hf : rm.frames + 1 ≤ R.frames) (hl : W + (maxL + 11) + rm.locals ≤ R.locals) (eT : T.heap = h) {g : JFrame} (hg : g.method = m) (hsize : g.locals.size = c.maxLocals) (argsL rest : List Value)
    (hlen : ∀ sig, parseMethodDescriptor y.desc = some sig → argsL.length = sig.parameters.length) (hstack : g.stack = argsL.reverse ++ rest) (hW : 2 * g.monitorRoom + (rest.map fun v => v.category).sum ≤ W) (hdg : decode c.code g.pc = .ok (.invokestatic index, 3))
    (ha : argsL.toArray = as') (hc : cells + rm.cells ≤ R.cells) (hs : slots + rm.slots ≤ R.slots)
    (k : ∀ v T' L, Stand p l e R s m args below meth c T' (locs ++ L) (cells + rm.cells) (slots + rm.slots) → Q' v T'.heap L → Ends p e below s cs ss Q (T'.setTop { g with pc := g.pc + 3, stack := v.toList ++ rest })) : Ends p e below s cs ss Q (T.setTop g) := by
  obtain ⟨v, _, ⟨T', L', k', n'⟩, -, X', ⟨Lc, hQ, rfl, rfl, rfl⟩, st⟩ := Jvm.LawKit.callS X hx (y := y) hown (mvT hZ w1) (mvT hZ w2) (mvT hZ w3) (mvT hZ w4) hy (backOf (W := W) hM hZ w4 w3 hf hl) hg hsize (argsL := argsL) (rest := rest) hlen hstack hW hdg (fun _ _ => ⟨ha, eT, hc, hs⟩)
  exact (k v T' Lc X' hQ).step st
theorem Ends.callC (X : Stand p l e R s m args below meth c T locs cells slots) (hx : p.tables.exec = Jvm.exec) (hZ : Z.Warmed39 s.vm) {own : String} {index : Nat} {y : MethodName} {bytes : ByteArray} {maxL : Nat} (hy1 : y.name = "<init>")
    (hown : s.vm.findClass own = some m.cls) (w1 : (Jvm.Cond.methodLink own index y).before a0 Z = true) (w2 : (Jvm.Cond.instanceMethod y).before a0 Z = true) (w3 : (Jvm.Cond.initialized y.cls).before a0 Z = true) (w4 : (Jvm.Cond.code y bytes maxL none).before a0 Z = true)
    (hy : y.cls ≠ "java/lang/invoke/MethodHandle" ∧ y.cls ≠ "java/lang/invoke/VarHandle") {rm : Room} {as' : Array Value} {Q' : Option Value → Heap → List Loc → Prop} (hM : Meets l Z y bytes maxL none [] rm as' h Q' rm.cells rm.slots)
    (W : Nat) (hf : rm.frames + 1 ≤ R.frames) (hl : W + (maxL + 11) + rm.locals ≤ R.locals) (eT : T.heap = h) {g : JFrame} (hg : g.method = m) (hsize : g.locals.size = c.maxLocals) (a : Addr) (argsL rest : List Value)
    (hlen : ∀ sig, parseMethodDescriptor y.desc = some sig → argsL.length = sig.parameters.length) (hstack : g.stack = argsL.reverse ++ .ref a :: rest) (hW : 2 * g.monitorRoom + (rest.map fun v => v.category).sum ≤ W) (hdg : decode c.code g.pc = .ok (.invokespecial index, 3))
    (ha : (.ref a :: argsL).toArray = as') (hc : cells + rm.cells ≤ R.cells) (hs : slots + rm.slots ≤ R.slots)
    (k : ∀ v T' L, Stand p l e R s m args below meth c T' (locs ++ L) (cells + rm.cells) (slots + rm.slots) → Q' v T'.heap L → Ends p e below s cs ss Q (T'.setTop { g with pc := g.pc + 3, stack := v.toList ++ rest })) : Ends p e below s cs ss Q (T.setTop g) := by
  obtain ⟨v, _, ⟨T', L', k', n'⟩, -, X', ⟨Lc, hQ, rfl, rfl, rfl⟩, st⟩ := X.specialBack hx (y := y) hy1 hown (mvT hZ w1) (mvT hZ w2) (mvT hZ w4) hy (backOf (W := W) hM hZ w4 w3 hf hl) hg hsize (Steps.refl _) (a := a) (argsL := argsL) (rest := rest) hlen hstack hW hdg (fun _ _ => ⟨ha, eT, hc, hs⟩)
  exact (k v T' Lc X' hQ).step (fun _ q => st.trans q)
theorem Ends.callV (X : Stand p l e R s m args below meth c T locs cells slots) (hx : p.tables.exec = Jvm.exec) (hZ : Z.Warmed39 s.vm) {own C : String} {index : Nat} {y : MethodName} {bytes : ByteArray} {maxL : Nat} {ret : Option FieldType}
    (hown : s.vm.findClass own = some m.cls) (w1 : (Jvm.Cond.methodLink own index y).before a0 Z = true) (wd : (Jvm.Cond.declares y).before a0 Z = true) (wsel : (Jvm.Cond.selects C y y).before a0 Z = true) (w2 : (Jvm.Cond.instanceMethod y).before a0 Z = true) (w3 : (Jvm.Cond.initialized y.cls).before a0 Z = true) (w4 : (Jvm.Cond.code y bytes maxL ret).before a0 Z = true)
    (hy : y.cls ≠ "java/lang/invoke/MethodHandle" ∧ y.cls ≠ "java/lang/invoke/VarHandle") {rm : Room} {as' : Array Value} {Q' : Option Value → Heap → List Loc → Prop} (hM : Meets l Z y bytes maxL ret [] rm as' h Q' rm.cells rm.slots)
    (W : Nat) (hf : rm.frames + 1 ≤ R.frames) (hl : W + (maxL + 11) + rm.locals ≤ R.locals) (eT : T.heap = h) (a : Addr) (E : Exa Z h a C) {g : JFrame} (hg : g.method = m) (hsize : g.locals.size = c.maxLocals) (argsL rest : List Value)
    (hlen : ∀ sig, parseMethodDescriptor y.desc = some sig → argsL.length = sig.parameters.length) (hstack : g.stack = argsL.reverse ++ .ref a :: rest) (hW : 2 * g.monitorRoom + (rest.map fun v => v.category).sum ≤ W) (hdg : decode c.code g.pc = .ok (.invokevirtual index, 3))
    (ha : (.ref a :: argsL).toArray = as') (hc : cells + rm.cells ≤ R.cells) (hs : slots + rm.slots ≤ R.slots)
    (k : ∀ v T' L, Stand p l e R s m args below meth c T' (locs ++ L) (cells + rm.cells) (slots + rm.slots) → Q' v T'.heap L → Ends p e below s cs ss Q (T'.setTop { g with pc := g.pc + 3, stack := v.toList ++ rest })) : Ends p e below s cs ss Q (T.setTop g) := by
  obtain ⟨cq, kq, q1, q2, q3⟩ := isOf (T := T) hZ eT E
  obtain ⟨v, _, ⟨T', L', k', n'⟩, -, X', ⟨Lc, hQ, rfl, rfl, rfl⟩, st⟩ := X.virtualBack hx (y := y) (z := y) hown (mvT hZ w1) (mvT hZ wd) (notFace_of_selects (args := #[]) (mvT hZ wsel)) (mvT hZ wsel) (mvT hZ w2) hy (backOf (W := W) hM hZ w4 w3 hf hl) q1 q3 hg hsize (Steps.refl _) (argsL := argsL) (rest := rest) hlen hstack hW hdg (fun _ _ => ⟨ha, eT, hc, hs⟩)
  exact (k v T' Lc X' hQ).step (fun _ q => st.trans q)
/-! ### arrays of small numbers: what each place holds, as a function -/
def Ar (Z : State) (h : Heap) (a : Addr) (ty : FieldType) (n : Nat) (f : Nat → Int32) : Prop := ∃ cl : Cell, Arr Z h a cl ty ∧ cl.slots.size = n ∧ n < 2 ^ 31 ∧ ∀ i, i < n → cl.slots[i]? = some (.int (f i))
def upd (f : Nat → Int32) (j : Nat) (v : Int32) : Nat → Int32 := fun i => if i = j then v else f i
def inb (j : Int32) (n : Nat) : Prop := ¬ (j < 0 ∨ n ≤ j.toNatClampNeg)
variable {a b : Addr} {ty : FieldType} {n sl : Nat} {f : Nat → Int32} {v : Value} {wsA : List Addr}
theorem Ar.lt (A : Ar Z h a ty n f) : a < h.size := by obtain ⟨cl, A1, -⟩ := A; exact A1.lt
theorem Ar.ext (A : Ar Z h a ty n f) (E : Ext h h') : Ar Z h' a ty n f := by obtain ⟨cl, A1, r⟩ := A; exact ⟨cl, A1.ext E, r⟩
theorem Ar.other (A : Ar Z h b ty n f) (W : Wr h h' a sl v) (q : b ≠ a) : Ar Z h' b ty n f := by obtain ⟨cl, A1, r⟩ := A; exact ⟨cl, A1.other W q, r⟩
theorem Ar.keep (A : Ar Z h a ty n f) (K : Keep h h' wsA) (q : a ∉ wsA) : Ar Z h' a ty n f := by obtain ⟨cl, A1, r⟩ := A; exact ⟨cl, ⟨K.2.1 a cl A1.1 q, A1.2⟩, r⟩
theorem Ar.small (A : Ar Z h a ty n f) : n < 2 ^ 31 := by obtain ⟨cl, A1, -, r, -⟩ := A; exact r
theorem Ar.set {j : Int32} {x : Int32} (A : Ar Z h a ty n f) (W : Wr h h' a j.toNatClampNeg (.int x)) : Ar Z h' a ty n (upd f j.toNatClampNeg x) := by
  obtain ⟨cl, A1, r1, r2, r3⟩ := A
  refine ⟨_, A1.same W, by rw [sz_set]; exact r1, r2, fun i hi => ?_⟩
  by_cases q : i = j.toNatClampNeg
  · subst q; simp [Cell.setSlot, upd, r1, hi]
  · simp only [Cell.setSlot, upd, if_neg q]; rw [Array.getElem?_setIfInBounds_ne (fun z => q z.symm)]; exact r3 i hi
theorem Ar.new {cA : ClassId} {k : Int32} (A : Arr Z h a (newA cA ty k) ty) (q : ¬ k < 0) (hd : defaultValue ty = .int 0) : Ar Z h a ty k.toNatClampNeg (fun _ => 0) :=
  ⟨_, A, sz_new _ _ _, (back32 q).2, fun i hi => by simp [newA, hi, hd]⟩
theorem Ends.newA (X : Stand p l e R s m args below meth c T locs cells slots) (hx : p.tables.exec = Jvm.exec) (hZ : Z.Warmed39 s.vm) {aty : ArrayType} (w : (Jvm.Cond.arrayClass (newarray.typeOf aty)).before a0 Z = true) (eT : T.heap = h) {g : JFrame} (hg : g.method = m) (hd : decode c.code g.pc = .ok (.newarray aty, 2)) {k : Int32} {rest : List Value} (hs : g.stack = .int k :: rest)
    (hdf : defaultValue (newarray.typeOf aty) = .int 0) (hn : ¬ k < 0) (cap : Nat) (hcap : k.toNatClampNeg ≤ cap) (hb : cap * 8 ≤ 536870912) (hc : cells + 1 ≤ R.cells) (hl : slots + cap ≤ R.slots)
    (kk : ∀ T' h' a, Stand p l e R s m args below meth c T' locs (cells + 1) (slots + cap) → T'.heap = h' → Ext h h' → h.size = a → Ar Z h' a (newarray.typeOf aty) k.toNatClampNeg (fun _ => 0) → Ends p e below s cs ss Q (T'.setTop { g with pc := g.pc + 2, stack := .ref a :: rest })) : Ends p e below s cs ss Q (T.setTop g) := by
  obtain ⟨T', h', cA, X', e', E, A, st⟩ := newP X hx hZ w eT hg hd hs hn hcap hb hc hl
  exact (kk T' h' h.size X' e' E rfl (Ar.new A hn hdf)).step st
theorem Ends.iaload (X : Stand p l e R s m args below meth c T locs cells slots) (hx : p.tables.exec = Jvm.exec) (hZ : Z.Warmed39 s.vm) (eT : T.heap = h) (A : Ar Z h a .int n f) {j : Int32} (hj : inb j n) {g : JFrame} (hg : g.method = m) {rest : List Value} (hs : g.stack = .int j :: .ref a :: rest) (hd : decode c.code g.pc = .ok (.iaload, 1))
    (k : Ends p e below s cs ss Q (T.setTop { g with pc := g.pc + 1, stack := .int (f j.toNatClampNeg) :: rest })) : Ends p e below s cs ss Q (T.setTop g) := by
  obtain ⟨cl, A1, r1, -, r3⟩ := A
  subst r1
  exact k.step (X.iaload hx (by rw [eT]; exact A1.1) (State.isArrayOf_alike hZ.alike A1.2.1) A1.2.2 hj (r3 _ (Nat.lt_of_not_le fun q => hj (Or.inr q))) hg hs hd)
theorem Ends.baload (X : Stand p l e R s m args below meth c T locs cells slots) (hx : p.tables.exec = Jvm.exec) (hZ : Z.Warmed39 s.vm) (eT : T.heap = h) (A : Ar Z h a .byte n f) {j : Int32} (hj : inb j n) {g : JFrame} (hg : g.method = m) {rest : List Value} (hs : g.stack = .int j :: .ref a :: rest) (hd : decode c.code g.pc = .ok (.baload, 1))
    (k : Ends p e below s cs ss Q (T.setTop { g with pc := g.pc + 1, stack := .int (f j.toNatClampNeg) :: rest })) : Ends p e below s cs ss Q (T.setTop g) := by
  obtain ⟨cl, A1, r1, -, r3⟩ := A
  subst r1
  exact k.step (X.baloadBytes hx (by rw [eT]; exact A1.1) (State.isArrayOf_alike hZ.alike A1.2.1) A1.2.2 hj (r3 _ (Nat.lt_of_not_le fun q => hj (Or.inr q))) hg hs hd)
theorem Ends.arrlen (X : Stand p l e R s m args below meth c T locs cells slots) (hx : p.tables.exec = Jvm.exec) (hZ : Z.Warmed39 s.vm) (eT : T.heap = h) (A : Ar Z h a ty n f) {g : JFrame} (hg : g.method = m) {rest : List Value} (hs : g.stack = .ref a :: rest) (hd : decode c.code g.pc = .ok (.arraylength, 1))
    (k : Ends p e below s cs ss Q (T.setTop { g with pc := g.pc + 1, stack := .int (Nat.toInt32 n) :: rest })) : Ends p e below s cs ss Q (T.setTop g) := by
  obtain ⟨cl, A1, r1, -, r3⟩ := A
  subst r1
  exact k.step (X.arraylength hx (by rw [eT]; exact A1.1) (State.isArrayOf_alike hZ.alike A1.2.1) hg hs hd)
theorem Ends.iastore (X : Stand p l e R s m args below meth c T locs cells slots) (hx : p.tables.exec = Jvm.exec) (hZ : Z.Warmed39 s.vm) (eT : T.heap = h) (A : Ar Z h a .int n f) {j x : Int32} (hj : inb j n) {n0 : Nat} (N : Fr n0 locs) (ge : n0 ≤ a) {g : JFrame} (hg : g.method = m) {rest : List Value} (hs : g.stack = .int x :: .int j :: .ref a :: rest) (hd : decode c.code g.pc = .ok (.iastore, 1))
    (k : ∀ T' h' sl, Stand p l e R s m args below meth c T' (locs ++ [⟨a, sl⟩]) cells slots → T'.heap = h' → Fr n0 (locs ++ [⟨a, sl⟩]) → Wr h h' a sl (.int x) → Ar Z h' a .int n (upd f j.toNatClampNeg x) → Ends p e below s cs ss Q (T'.setTop { g with pc := g.pc + 1, stack := rest })) : Ends p e below s cs ss Q (T.setTop g) := by
  obtain ⟨cl, A1, r1, r2, r3⟩ := A
  obtain ⟨T', h', X', e', W, st⟩ := stI X hx hZ eT A1 (by rw [r1]; exact hj) hg hs hd
  exact (k T' h' _ X' e' (Fr.snoc X' N ge) W (Ar.set ⟨cl, A1, r1, r2, r3⟩ W)).step st
theorem Ends.bastore (X : Stand p l e R s m args below meth c T locs cells slots) (hx : p.tables.exec = Jvm.exec) (hZ : Z.Warmed39 s.vm) (eT : T.heap = h) (A : Ar Z h a .byte n f) {j x : Int32} (hj : inb j n) {n0 : Nat} (N : Fr n0 locs) (ge : n0 ≤ a) {g : JFrame} (hg : g.method = m) {rest : List Value} (hs : g.stack = .int x :: .int j :: .ref a :: rest) (hd : decode c.code g.pc = .ok (.bastore, 1))
    (k : ∀ T' h' sl, Stand p l e R s m args below meth c T' (locs ++ [⟨a, sl⟩]) cells slots → T'.heap = h' → Fr n0 (locs ++ [⟨a, sl⟩]) → Wr h h' a sl (.int (nar .byte x)) → Ar Z h' a .byte n (upd f j.toNatClampNeg (nar .byte x)) → Ends p e below s cs ss Q (T'.setTop { g with pc := g.pc + 1, stack := rest })) : Ends p e below s cs ss Q (T.setTop g) := by
  obtain ⟨cl, A1, r1, r2, r3⟩ := A
  obtain ⟨T', h', X', e', W, st⟩ := stB X hx hZ eT A1 (by rw [r1]; exact hj) hg hs hd
  exact (k T' h' _ X' e' (Fr.snoc X' N ge) W (Ar.set ⟨cl, A1, r1, r2, r3⟩ W)).step st
theorem Ends.getF (X : Stand p l e R s m args below meth c T locs cells slots) (hx : p.tables.exec = Jvm.exec) (hZ : Z.Warmed39 s.vm) {own O fn d : String} {index : Nat} (hown : s.vm.findClass own = some m.cls) (w : (Jvm.Cond.fieldLink own index O fn d).before a0 Z = true) (eT : T.heap = h) (F : Fld Z h a O fn d v) {g : JFrame} (hg : g.method = m) {rest : List Value} (hs : g.stack = .ref a :: rest) (hd : decode c.code g.pc = .ok (.getfield index, 3))
    (k : ∀ T', Stand p l e R s m args below meth c T' locs cells slots → T'.heap = h → Ends p e below s cs ss Q (T'.setTop { g with pc := g.pc + 3, stack := v :: rest })) : Ends p e below s cs ss Q (T.setTop g) := by
  obtain ⟨T', X', e', st⟩ := Jvm.RoadKit.getF X hx hZ hown (host := "") (Or.inl w) Via.refl eT F hg hs hd
  exact (k T' X' e').step st
theorem Ends.putF (X : Stand p l e R s m args below meth c T locs cells slots) (hx : p.tables.exec = Jvm.exec) (hZ : Z.Warmed39 s.vm) {own O fn d : String} {index kk : Nat} {tf : FieldType} {old : Value} (hown : s.vm.findClass own = some m.cls) (w : (Jvm.Cond.fieldLink own index O fn d).before a0 Z = true) (eT : T.heap = h) (F : Fld Z h a O fn d old) (E : Exa Z h a O) (L : (Jvm.Cond.lays O O fn d).before a0 Z = true ∨ ((Jvm.Cond.laysFinal O O fn d).before a0 Z = true ∧ own = O ∧ meth.name = "<init>")) (wi : (Jvm.Cond.instantiable O kk).before a0 Z = true)
    (hty : parseFieldDescriptor d = some tf) (hn : narrow tf v = v) (hf : fits tf v = true) {n0 : Nat} (N : Fr n0 locs) (ge : n0 ≤ a) {g : JFrame} (hg : g.method = m) {rest : List Value} (hs : g.stack = v :: .ref a :: rest) (hd : decode c.code g.pc = .ok (.putfield index, 3))
    (k : ∀ T' h', Stand p l e R s m args below meth c T' (locs ++ [⟨a, Jvm.RoadKit.slotOf Z O fn d⟩]) cells slots → T'.heap = h' → Fr n0 (locs ++ [⟨a, Jvm.RoadKit.slotOf Z O fn d⟩]) → Wr h h' a (Jvm.RoadKit.slotOf Z O fn d) v → Ends p e below s cs ss Q (T'.setTop { g with pc := g.pc + 3, stack := rest })) : Ends p e below s cs ss Q (T.setTop g) := by
  obtain ⟨T', h', X', e', W, st⟩ := Jvm.RoadKit.putF X hx hZ hown (host := "") (Or.inl w) Via.refl eT F E L wi hty hn hf hg hs hd
  exact (k T' h' X' e' (Fr.snoc X' N ge) W).step st
theorem Ends.newO (X : Stand p l e R s m args below meth c T locs cells slots) (hx : p.tables.exec = Jvm.exec) (hZ : Z.Warmed39 s.vm) {own C : String} {index k : Nat} (hown : s.vm.findClass own = some m.cls) (w : (Jvm.Cond.classLink own index C).before a0 Z = true) (wi : (Jvm.Cond.instantiable C k).before a0 Z = true) (wz : (Jvm.Cond.initialized C).before a0 Z = true) (eT : T.heap = h)
    {g : JFrame} (hg : g.method = m) (hd : decode c.code g.pc = .ok (.new index, 3)) (hc : cells + 1 ≤ R.cells) (hl : slots + k ≤ R.slots)
    (kk : ∀ T' h' a, Stand p l e R s m args below meth c T' locs (cells + 1) (slots + k) → T'.heap = h' → Ext h h' → h.size = a → Exa Z h' a C → (∀ {O nm d : String} {ty : FieldType}, Laid Z a0 C O nm d → parseFieldDescriptor d = some ty → Fld Z h' a O nm d (defaultValue ty)) → Ends p e below s cs ss Q (T'.setTop { g with pc := g.pc + 3, stack := .ref a :: g.stack })) : Ends p e below s cs ss Q (T.setTop g) := by
  obtain ⟨T', h', X', e', E, A, D, -, st⟩ := Jvm.RoadKit.newO X hx hZ hown w wi wz eT hg hd hc hl
  exact (kk T' h' _ X' e' E rfl A D).step st
theorem Ends.initO (X : Stand p l e R s m args below meth c T locs cells slots) (hx : p.tables.exec = Jvm.exec) (hZ : Z.Warmed39 s.vm) {own : String} {idx : Nat} (hown : s.vm.findClass own = some m.cls) (w1 : (Jvm.Cond.methodLink own idx Lib.objectInit).before a0 Z = true) (w2 : (Jvm.Cond.instanceMethod Lib.objectInit).before a0 Z = true)
    (w3 : (Jvm.Cond.code Lib.objectInit ⟨#[0xb1]⟩ 1 none).before a0 Z = true) (eT : T.heap = h) {g : JFrame} (hg : g.method = m) (hsize : g.locals.size = c.maxLocals) {rest : List Value} (hs : g.stack = .ref a :: rest) (hd : decode c.code g.pc = .ok (.invokespecial idx, 3))
    (hf : 1 ≤ R.frames) (W : Nat) (hW : 2 * g.monitorRoom + (rest.map fun v => v.category).sum ≤ W) (hl : W + 12 ≤ R.locals)
    (k : ∀ T', Stand p l e R s m args below meth c T' locs cells slots → T'.heap = h → Ends p e below s cs ss Q (T'.setTop { g with pc := g.pc + 3, stack := rest })) : Ends p e below s cs ss Q (T.setTop g) := by
  obtain ⟨T', X', e', st⟩ := Jvm.RoadKit.initO X hx hZ hown w1 w2 w3 eT hg hsize hs hd hf hW hl
  exact (k T' X' e').step st
def OneS (o : Slot) : Prop := o = .unset ∨ ∃ w, o = .val w ∧ w.category = 1
theorem storeL {ls : Array Slot} {i : Nat} {x : Int64} {o o' : Slot} (h1 : ls[i]? = some o) (h2 : ls[i + 1]? = some o') (p1 : OneS o) (p2 : OneS o') : storeLocals ls i (.long x) = some ((ls.setIfInBounds i (.val (.long x))).setIfInBounds (i + 1) .second) := by
  have l1 : i < ls.size := (Array.getElem?_eq_some_iff.mp h1).1
  have l2 : i + 1 < ls.size := (Array.getElem?_eq_some_iff.mp h2).1
  have e2 : (ls.setIfInBounds i (.val (.long x)))[i + 1]? = some o' := by rw [Array.getElem?_setIfInBounds_ne (by omega)]; exact h2
  have q : storeSelf ls i (.long x) = some ((ls.setIfInBounds i (.val (.long x))).setIfInBounds (i + 1) .second) := by
    have cat : (Value.long x).category = 2 := rfl
    simp only [storeSelf, setAt, if_pos l1, cat, if_true, Option.bind_eq_bind, Option.bind_some, e2]
    rcases p2 with rfl | ⟨w, rfl, hw⟩
    · simp [l2]
    · simp [l2, hw]
  simp only [storeLocals, h1, Option.bind_eq_bind, Option.bind_some]
  rcases p1 with rfl | ⟨w, rfl, hw⟩
  · exact q
  · simp only [hw]; exact q
end OwnFrame
-- body 1
def F1 (p0 : Int32) : Int32 := ((p0 &&& (2147483647 : Int32)) % (12 : Int32))
-- body 2
def F2_119 (K : Nat) (n_o0 : Nat) (f_o0 : Nat → Int32) (cn_q69 : Nat) (cf_q69 : Nat → Int32) : Nat × (Nat → Int32) := (cn_q69, cf_q69)
def F2_113 (K : Nat) (rec : Nat → (Nat → Int32) → (Nat → Int32) → Nat → (Nat → Int32) → Int32 → Int32 → Nat × (Nat → Int32)) (n_o0 : Nat) (f_o0 : Nat → Int32) (cf_q2 : Nat → Int32) (cn_q69 : Nat) (cf_q69 : Nat → Int32) (x1 : Int32) (x4 : Int32) : Nat × (Nat → Int32) := (rec n_o0 f_o0 cf_q2 cn_q69 cf_q69 x1 (x4 + (1 : Int32)))
def O2_113 (K : Nat) (rec : Nat → (Nat → Int32) → (Nat → Int32) → Nat → (Nat → Int32) → Int32 → Int32 → Prop) (n_o0 : Nat) (f_o0 : Nat → Int32) (cf_q2 : Nat → Int32) (cn_q69 : Nat) (cf_q69 : Nat → Int32) (x1 : Int32) (x4 : Int32) : Prop := (rec n_o0 f_o0 cf_q2 cn_q69 cf_q69 x1 (x4 + (1 : Int32)))
def F2_92 (K : Nat) (rec : Nat → (Nat → Int32) → (Nat → Int32) → Nat → (Nat → Int32) → Int32 → Int32 → Nat × (Nat → Int32)) (n_o0 : Nat) (f_o0 : Nat → Int32) (cf_q2 : Nat → Int32) (cn_q69 : Nat) (cf_q69 : Nat → Int32) (x1 : Int32) (x4 : Int32) (x5 : Int32) : Nat × (Nat → Int32) := (F2_113 K rec n_o0 f_o0 (upd cf_q2 (x5).toNatClampNeg ((cf_q2 (x5).toNatClampNeg) + ((1 : Int32) <<< ((x5 - (1 : Int32)) &&& 31)))) cn_q69 (upd cf_q69 (x4).toNatClampNeg (cf_q2 (x5).toNatClampNeg)) x1 x4)
def O2_92 (K : Nat) (rec : Nat → (Nat → Int32) → (Nat → Int32) → Nat → (Nat → Int32) → Int32 → Int32 → Prop) (n_o0 : Nat) (f_o0 : Nat → Int32) (cf_q2 : Nat → Int32) (cn_q69 : Nat) (cf_q69 : Nat → Int32) (x1 : Int32) (x4 : Int32) (x5 : Int32) : Prop := (inb x5 13) ∧ (inb x4 cn_q69) ∧ (inb x5 13) ∧ (inb x5 13) ∧ (O2_113 K rec n_o0 f_o0 (upd cf_q2 (x5).toNatClampNeg ((cf_q2 (x5).toNatClampNeg) + ((1 : Int32) <<< ((x5 - (1 : Int32)) &&& 31)))) cn_q69 (upd cf_q69 (x4).toNatClampNeg (cf_q2 (x5).toNatClampNeg)) x1 x4)
def F2_87 (K : Nat) (rec : Nat → (Nat → Int32) → (Nat → Int32) → Nat → (Nat → Int32) → Int32 → Int32 → Nat × (Nat → Int32)) (n_o0 : Nat) (f_o0 : Nat → Int32) (cf_q2 : Nat → Int32) (cn_q69 : Nat) (cf_q69 : Nat → Int32) (x1 : Int32) (x4 : Int32) (x5 : Int32) : Nat × (Nat → Int32) := if 0 < x5 then (F2_92 K rec n_o0 f_o0 cf_q2 cn_q69 cf_q69 x1 x4 x5) else (F2_113 K rec n_o0 f_o0 cf_q2 cn_q69 cf_q69 x1 x4)
def O2_87 (K : Nat) (rec : Nat → (Nat → Int32) → (Nat → Int32) → Nat → (Nat → Int32) → Int32 → Int32 → Prop) (n_o0 : Nat) (f_o0 : Nat → Int32) (cf_q2 : Nat → Int32) (cn_q69 : Nat) (cf_q69 : Nat → Int32) (x1 : Int32) (x4 : Int32) (x5 : Int32) : Prop := (0 < x5 → (O2_92 K rec n_o0 f_o0 cf_q2 cn_q69 cf_q69 x1 x4 x5)) ∧ (¬ 0 < x5 → (O2_113 K rec n_o0 f_o0 cf_q2 cn_q69 cf_q69 x1 x4))
def F2_81 (K : Nat) (rec : Nat → (Nat → Int32) → (Nat → Int32) → Nat → (Nat → Int32) → Int32 → Int32 → Nat × (Nat → Int32)) (n_o0 : Nat) (f_o0 : Nat → Int32) (cf_q2 : Nat → Int32) (cn_q69 : Nat) (cf_q69 : Nat → Int32) (x1 : Int32) (x4 : Int32) : Nat × (Nat → Int32) := (F2_87 K rec n_o0 f_o0 cf_q2 cn_q69 cf_q69 x1 x4 (f_o0 (x4).toNatClampNeg))
def O2_81 (K : Nat) (rec : Nat → (Nat → Int32) → (Nat → Int32) → Nat → (Nat → Int32) → Int32 → Int32 → Prop) (n_o0 : Nat) (f_o0 : Nat → Int32) (cf_q2 : Nat → Int32) (cn_q69 : Nat) (cf_q69 : Nat → Int32) (x1 : Int32) (x4 : Int32) : Prop := (inb x4 n_o0) ∧ (O2_87 K rec n_o0 f_o0 cf_q2 cn_q69 cf_q69 x1 x4 (f_o0 (x4).toNatClampNeg))
def F2_75 (K : Nat) : Nat → Nat → (Nat → Int32) → (Nat → Int32) → Nat → (Nat → Int32) → Int32 → Int32 → Nat × (Nat → Int32)
  | 0, _, _, _, _, _, _, _ => default
  | j + 1, n_o0, f_o0, cf_q2, cn_q69, cf_q69, x1, x4 => if x4 < x1 then (F2_81 K (F2_75 K j) n_o0 f_o0 cf_q2 cn_q69 cf_q69 x1 x4) else (F2_119 K n_o0 f_o0 cn_q69 cf_q69)
def O2_75 (K : Nat) : Nat → Nat → (Nat → Int32) → (Nat → Int32) → Nat → (Nat → Int32) → Int32 → Int32 → Prop
  | 0, _, _, _, _, _, _, _ => False
  | j + 1, n_o0, f_o0, cf_q2, cn_q69, cf_q69, x1, x4 => (x4 < x1 → (O2_81 K (O2_75 K j) n_o0 f_o0 cf_q2 cn_q69 cf_q69 x1 x4)) ∧ (¬ x4 < x1 → True)
def F2_68 (K : Nat) (n_o0 : Nat) (f_o0 : Nat → Int32) (cf_q2 : Nat → Int32) (x1 : Int32) : Nat × (Nat → Int32) := (F2_75 K K n_o0 f_o0 cf_q2 (x1).toNatClampNeg (fun _ => 0) x1 (0 : Int32))
def O2_68 (K : Nat) (n_o0 : Nat) (f_o0 : Nat → Int32) (cf_q2 : Nat → Int32) (x1 : Int32) : Prop := (¬ x1 < 0) ∧ ((x1).toNatClampNeg ≤ 5) ∧ (O2_75 K K n_o0 f_o0 cf_q2 (x1).toNatClampNeg (fun _ => 0) x1 (0 : Int32))
def F2_51 (K : Nat) (rec : Nat → (Nat → Int32) → (Nat → Int32) → Int32 → Int32 → Nat × (Nat → Int32)) (n_o0 : Nat) (f_o0 : Nat → Int32) (cf_q2 : Nat → Int32) (x1 : Int32) (x3 : Int32) : Nat × (Nat → Int32) := (rec n_o0 f_o0 (upd cf_q2 (x3).toNatClampNeg ((cf_q2 (x3).toNatClampNeg) + (cf_q2 ((x3 - (1 : Int32))).toNatClampNeg))) x1 (x3 + (1 : Int32)))
def O2_51 (K : Nat) (rec : Nat → (Nat → Int32) → (Nat → Int32) → Int32 → Int32 → Prop) (n_o0 : Nat) (f_o0 : Nat → Int32) (cf_q2 : Nat → Int32) (x1 : Int32) (x3 : Int32) : Prop := (inb x3 13) ∧ (inb (x3 - (1 : Int32)) 13) ∧ (inb x3 13) ∧ (rec n_o0 f_o0 (upd cf_q2 (x3).toNatClampNeg ((cf_q2 (x3).toNatClampNeg) + (cf_q2 ((x3 - (1 : Int32))).toNatClampNeg))) x1 (x3 + (1 : Int32)))
def F2_45 (K : Nat) : Nat → Nat → (Nat → Int32) → (Nat → Int32) → Int32 → Int32 → Nat × (Nat → Int32)
  | 0, _, _, _, _, _ => default
  | j + 1, n_o0, f_o0, cf_q2, x1, x3 => if x3 < (Nat.toInt32 13) then (F2_51 K (F2_45 K j) n_o0 f_o0 cf_q2 x1 x3) else (F2_68 K n_o0 f_o0 cf_q2 x1)
def O2_45 (K : Nat) : Nat → Nat → (Nat → Int32) → (Nat → Int32) → Int32 → Int32 → Prop
  | 0, _, _, _, _, _ => False
  | j + 1, n_o0, f_o0, cf_q2, x1, x3 => (x3 < (Nat.toInt32 13) → (O2_51 K (O2_45 K j) n_o0 f_o0 cf_q2 x1 x3)) ∧ (¬ x3 < (Nat.toInt32 13) → (O2_68 K n_o0 f_o0 cf_q2 x1))
def F2_43 (K : Nat) (n_o0 : Nat) (f_o0 : Nat → Int32) (cf_q2 : Nat → Int32) (x1 : Int32) : Nat × (Nat → Int32) := (F2_45 K K n_o0 f_o0 cf_q2 x1 (2 : Int32))
def O2_43 (K : Nat) (n_o0 : Nat) (f_o0 : Nat → Int32) (cf_q2 : Nat → Int32) (x1 : Int32) : Prop := (O2_45 K K n_o0 f_o0 cf_q2 x1 (2 : Int32))
def F2_37 (K : Nat) (rec : Nat → (Nat → Int32) → (Nat → Int32) → Int32 → Int32 → Nat × (Nat → Int32)) (n_o0 : Nat) (f_o0 : Nat → Int32) (cf_q2 : Nat → Int32) (x1 : Int32) (x3 : Int32) : Nat × (Nat → Int32) := (rec n_o0 f_o0 cf_q2 x1 (x3 + (1 : Int32)))
def O2_37 (K : Nat) (rec : Nat → (Nat → Int32) → (Nat → Int32) → Int32 → Int32 → Prop) (n_o0 : Nat) (f_o0 : Nat → Int32) (cf_q2 : Nat → Int32) (x1 : Int32) (x3 : Int32) : Prop := (rec n_o0 f_o0 cf_q2 x1 (x3 + (1 : Int32)))
def F2_22 (K : Nat) (rec : Nat → (Nat → Int32) → (Nat → Int32) → Int32 → Int32 → Nat × (Nat → Int32)) (n_o0 : Nat) (f_o0 : Nat → Int32) (cf_q2 : Nat → Int32) (x1 : Int32) (x3 : Int32) (x4 : Int32) : Nat × (Nat → Int32) := (F2_37 K rec n_o0 f_o0 (upd cf_q2 ((x4 + (1 : Int32))).toNatClampNeg ((cf_q2 ((x4 + (1 : Int32))).toNatClampNeg) + ((1 : Int32) <<< ((x4 - (1 : Int32)) &&& 31)))) x1 x3)
def O2_22 (K : Nat) (rec : Nat → (Nat → Int32) → (Nat → Int32) → Int32 → Int32 → Prop) (n_o0 : Nat) (f_o0 : Nat → Int32) (cf_q2 : Nat → Int32) (x1 : Int32) (x3 : Int32) (x4 : Int32) : Prop := (inb (x4 + (1 : Int32)) 13) ∧ (inb (x4 + (1 : Int32)) 13) ∧ (O2_37 K rec n_o0 f_o0 (upd cf_q2 ((x4 + (1 : Int32))).toNatClampNeg ((cf_q2 ((x4 + (1 : Int32))).toNatClampNeg) + ((1 : Int32) <<< ((x4 - (1 : Int32)) &&& 31)))) x1 x3)
def F2_17 (K : Nat) (rec : Nat → (Nat → Int32) → (Nat → Int32) → Int32 → Int32 → Nat × (Nat → Int32)) (n_o0 : Nat) (f_o0 : Nat → Int32) (cf_q2 : Nat → Int32) (x1 : Int32) (x3 : Int32) (x4 : Int32) : Nat × (Nat → Int32) := if 0 < x4 then (F2_22 K rec n_o0 f_o0 cf_q2 x1 x3 x4) else (F2_37 K rec n_o0 f_o0 cf_q2 x1 x3)
def O2_17 (K : Nat) (rec : Nat → (Nat → Int32) → (Nat → Int32) → Int32 → Int32 → Prop) (n_o0 : Nat) (f_o0 : Nat → Int32) (cf_q2 : Nat → Int32) (x1 : Int32) (x3 : Int32) (x4 : Int32) : Prop := (0 < x4 → (O2_22 K rec n_o0 f_o0 cf_q2 x1 x3 x4)) ∧ (¬ 0 < x4 → (O2_37 K rec n_o0 f_o0 cf_q2 x1 x3))
def F2_12 (K : Nat) (rec : Nat → (Nat → Int32) → (Nat → Int32) → Int32 → Int32 → Nat × (Nat → Int32)) (n_o0 : Nat) (f_o0 : Nat → Int32) (cf_q2 : Nat → Int32) (x1 : Int32) (x3 : Int32) : Nat × (Nat → Int32) := (F2_17 K rec n_o0 f_o0 cf_q2 x1 x3 (f_o0 (x3).toNatClampNeg))
def O2_12 (K : Nat) (rec : Nat → (Nat → Int32) → (Nat → Int32) → Int32 → Int32 → Prop) (n_o0 : Nat) (f_o0 : Nat → Int32) (cf_q2 : Nat → Int32) (x1 : Int32) (x3 : Int32) : Prop := (inb x3 n_o0) ∧ (O2_17 K rec n_o0 f_o0 cf_q2 x1 x3 (f_o0 (x3).toNatClampNeg))
def F2_7 (K : Nat) : Nat → Nat → (Nat → Int32) → (Nat → Int32) → Int32 → Int32 → Nat × (Nat → Int32)
  | 0, _, _, _, _, _ => default
  | j + 1, n_o0, f_o0, cf_q2, x1, x3 => if x3 < x1 then (F2_12 K (F2_7 K j) n_o0 f_o0 cf_q2 x1 x3) else (F2_43 K n_o0 f_o0 cf_q2 x1)
def O2_7 (K : Nat) : Nat → Nat → (Nat → Int32) → (Nat → Int32) → Int32 → Int32 → Prop
  | 0, _, _, _, _, _ => False
  | j + 1, n_o0, f_o0, cf_q2, x1, x3 => (x3 < x1 → (O2_12 K (O2_7 K j) n_o0 f_o0 cf_q2 x1 x3)) ∧ (¬ x3 < x1 → (O2_43 K n_o0 f_o0 cf_q2 x1))
def F2 (K : Nat) (p1 : Int32) (n_o0 : Nat) (f_o0 : Nat → Int32) : Nat × (Nat → Int32) := (F2_7 K K n_o0 f_o0 (fun _ => 0) p1 (0 : Int32))
def O2 (K : Nat) (p1 : Int32) (n_o0 : Nat) (f_o0 : Nat → Int32) : Prop := (O2_7 K K n_o0 f_o0 (fun _ => 0) p1 (0 : Int32))
-- body 4
def F4_10 (n_o0 : Nat) (f_o0 : Nat → Int32) : Int32 := (0 : Int32)
def F4_22 (n_o0 : Nat) (f_o0 : Nat → Int32) : Int32 := (0 : Int32)
def F4_45 (n_o0 : Nat) (f_o0 : Nat → Int32) (x4 : Int32) : Int32 := ((1 : Int32) <<< ((x4 - (1 : Int32)) &&& 31))
def F4_52 (n_o0 : Nat) (f_o0 : Nat → Int32) : Int32 := (0 : Int32)
def F4_40 (n_o0 : Nat) (f_o0 : Nat → Int32) (x2 : Int32) (x3 : Int32) (x4 : Int32) : Int32 := if x3 < x2 then (F4_45 n_o0 f_o0 x4) else (F4_52 n_o0 f_o0)
def F4_32 (n_o0 : Nat) (f_o0 : Nat → Int32) (x2 : Int32) (x3 : Int32) (x4 : Int32) : Int32 := if x4 = (f_o0 (x2).toNatClampNeg) then (F4_40 n_o0 f_o0 x2 x3 x4) else (F4_52 n_o0 f_o0)
def O4_32 (n_o0 : Nat) (f_o0 : Nat → Int32) (x2 : Int32) (x3 : Int32) (x4 : Int32) : Prop := (inb x2 n_o0) ∧ (x4 = (f_o0 (x2).toNatClampNeg) → True) ∧ (¬ x4 = (f_o0 (x2).toNatClampNeg) → True)
def F4_24 (n_o0 : Nat) (f_o0 : Nat → Int32) (x2 : Int32) (x3 : Int32) (x4 : Int32) : Int32 := if x4 < (f_o0 (x2).toNatClampNeg) then (F4_45 n_o0 f_o0 x4) else (F4_32 n_o0 f_o0 x2 x3 x4)
def O4_24 (n_o0 : Nat) (f_o0 : Nat → Int32) (x2 : Int32) (x3 : Int32) (x4 : Int32) : Prop := (inb x2 n_o0) ∧ (x4 < (f_o0 (x2).toNatClampNeg) → True) ∧ (¬ x4 < (f_o0 (x2).toNatClampNeg) → (O4_32 n_o0 f_o0 x2 x3 x4))
def F4_17 (n_o0 : Nat) (f_o0 : Nat → Int32) (x2 : Int32) (x3 : Int32) (x4 : Int32) : Int32 := if x4 = 0 then (F4_22 n_o0 f_o0) else (F4_24 n_o0 f_o0 x2 x3 x4)
def O4_17 (n_o0 : Nat) (f_o0 : Nat → Int32) (x2 : Int32) (x3 : Int32) (x4 : Int32) : Prop := (x4 = 0 → True) ∧ (¬ x4 = 0 → (O4_24 n_o0 f_o0 x2 x3 x4))
def F4_12 (n_o0 : Nat) (f_o0 : Nat → Int32) (x2 : Int32) (x3 : Int32) : Int32 := (F4_17 n_o0 f_o0 x2 x3 (f_o0 (x3).toNatClampNeg))
def O4_12 (n_o0 : Nat) (f_o0 : Nat → Int32) (x2 : Int32) (x3 : Int32) : Prop := (inb x3 n_o0) ∧ (O4_17 n_o0 f_o0 x2 x3 (f_o0 (x3).toNatClampNeg))
def F4_5 (n_o0 : Nat) (f_o0 : Nat → Int32) (x2 : Int32) (x3 : Int32) : Int32 := if x3 = x2 then (F4_10 n_o0 f_o0) else (F4_12 n_o0 f_o0 x2 x3)
def O4_5 (n_o0 : Nat) (f_o0 : Nat → Int32) (x2 : Int32) (x3 : Int32) : Prop := (x3 = x2 → True) ∧ (¬ x3 = x2 → (O4_12 n_o0 f_o0 x2 x3))
def F4 (p1 : Int32) (p2 : Int32) (p3 : Int32) (n_o0 : Nat) (f_o0 : Nat → Int32) : Int32 := if p3 < p1 then (F4_5 n_o0 f_o0 p2 p3) else (F4_10 n_o0 f_o0)
def O4 (p1 : Int32) (p2 : Int32) (p3 : Int32) (n_o0 : Nat) (f_o0 : Nat → Int32) : Prop := (p3 < p1 → (O4_5 n_o0 f_o0 p2 p3)) ∧ (¬ p3 < p1 → True)
-- body 3
def F3_6 (n_o0 : Nat) (f_o0 : Nat → Int32) : Int32 := (0 : Int32)
def F3_8 (n_o0 : Nat) (f_o0 : Nat → Int32) (x1 : Int32) (x2 : Int32) : Int32 := (((((F4 x1 x2 (0 : Int32) n_o0 f_o0) + (F4 x1 x2 (1 : Int32) n_o0 f_o0)) + (F4 x1 x2 (2 : Int32) n_o0 f_o0)) + (F4 x1 x2 (3 : Int32) n_o0 f_o0)) + (F4 x1 x2 (4 : Int32) n_o0 f_o0))
def O3_8 (n_o0 : Nat) (f_o0 : Nat → Int32) (x1 : Int32) (x2 : Int32) : Prop := (O4 x1 x2 (0 : Int32) n_o0 f_o0) ∧ (O4 x1 x2 (1 : Int32) n_o0 f_o0) ∧ (O4 x1 x2 (2 : Int32) n_o0 f_o0) ∧ (O4 x1 x2 (3 : Int32) n_o0 f_o0) ∧ (O4 x1 x2 (4 : Int32) n_o0 f_o0) ∧ True
def F3 (p1 : Int32) (p2 : Int32) (n_o0 : Nat) (f_o0 : Nat → Int32) : Int32 := if (f_o0 (p2).toNatClampNeg) = 0 then (F3_6 n_o0 f_o0) else (F3_8 n_o0 f_o0 p1 p2)
def O3 (p1 : Int32) (p2 : Int32) (n_o0 : Nat) (f_o0 : Nat → Int32) : Prop := (inb p2 n_o0) ∧ ((f_o0 (p2).toNatClampNeg) = 0 → True) ∧ (¬ (f_o0 (p2).toNatClampNeg) = 0 → (O3_8 n_o0 f_o0 p1 p2))
-- body 0
def F0_123 (K : Nat)  : Int32 := (nar .boolean (0 : Int32))
def F0_290 (K : Nat) (t0 : Int32) : Int32 := (nar .boolean t0)
def F0_285 (K : Nat)  : Int32 := (F0_290 K (1 : Int32))
def F0_289 (K : Nat)  : Int32 := (F0_290 K (0 : Int32))
def F0_270 (K : Nat) (cf_q77 : Nat → Int32) (cn_q69_110 : Nat) (cf_q69_110 : Nat → Int32) (x6 : Int32) : Int32 := if (cf_q69_110 ((4 : Int32)).toNatClampNeg) = (F3 x6 (4 : Int32) 5 cf_q77) then (F0_285 K) else (F0_289 K)
def O0_270 (K : Nat) (cf_q77 : Nat → Int32) (cn_q69_110 : Nat) (cf_q69_110 : Nat → Int32) (x6 : Int32) : Prop := (inb (4 : Int32) cn_q69_110) ∧ (O3 x6 (4 : Int32) 5 cf_q77) ∧ ((cf_q69_110 ((4 : Int32)).toNatClampNeg) = (F3 x6 (4 : Int32) 5 cf_q77) → True) ∧ (¬ (cf_q69_110 ((4 : Int32)).toNatClampNeg) = (F3 x6 (4 : Int32) 5 cf_q77) → True)
def F0_264 (K : Nat) (cf_q77 : Nat → Int32) (cn_q69_110 : Nat) (cf_q69_110 : Nat → Int32) (x6 : Int32) : Int32 := if (4 : Int32) < x6 then (F0_270 K cf_q77 cn_q69_110 cf_q69_110 x6) else (F0_285 K)
def O0_264 (K : Nat) (cf_q77 : Nat → Int32) (cn_q69_110 : Nat) (cf_q69_110 : Nat → Int32) (x6 : Int32) : Prop := ((4 : Int32) < x6 → (O0_270 K cf_q77 cn_q69_110 cf_q69_110 x6)) ∧ (¬ (4 : Int32) < x6 → True)
def F0_257 (K : Nat) (cf_q77 : Nat → Int32) (cn_q69_110 : Nat) (cf_q69_110 : Nat → Int32) (x6 : Int32) (t0 : Int32) : Int32 := if t0 = 0 then (F0_289 K) else (F0_264 K cf_q77 cn_q69_110 cf_q69_110 x6)
def O0_257 (K : Nat) (cf_q77 : Nat → Int32) (cn_q69_110 : Nat) (cf_q69_110 : Nat → Int32) (x6 : Int32) (t0 : Int32) : Prop := (t0 = 0 → True) ∧ (¬ t0 = 0 → (O0_264 K cf_q77 cn_q69_110 cf_q69_110 x6))
def F0_252 (K : Nat) (cf_q77 : Nat → Int32) (cn_q69_110 : Nat) (cf_q69_110 : Nat → Int32) (x6 : Int32) : Int32 := (F0_257 K cf_q77 cn_q69_110 cf_q69_110 x6 (1 : Int32))
def O0_252 (K : Nat) (cf_q77 : Nat → Int32) (cn_q69_110 : Nat) (cf_q69_110 : Nat → Int32) (x6 : Int32) : Prop := (O0_257 K cf_q77 cn_q69_110 cf_q69_110 x6 (1 : Int32))
def F0_256 (K : Nat) (cf_q77 : Nat → Int32) (cn_q69_110 : Nat) (cf_q69_110 : Nat → Int32) (x6 : Int32) : Int32 := (F0_257 K cf_q77 cn_q69_110 cf_q69_110 x6 (0 : Int32))
def O0_256 (K : Nat) (cf_q77 : Nat → Int32) (cn_q69_110 : Nat) (cf_q69_110 : Nat → Int32) (x6 : Int32) : Prop := (O0_257 K cf_q77 cn_q69_110 cf_q69_110 x6 (0 : Int32))
def F0_237 (K : Nat) (cf_q77 : Nat → Int32) (cn_q69_110 : Nat) (cf_q69_110 : Nat → Int32) (x6 : Int32) : Int32 := if (cf_q69_110 ((3 : Int32)).toNatClampNeg) = (F3 x6 (3 : Int32) 5 cf_q77) then (F0_252 K cf_q77 cn_q69_110 cf_q69_110 x6) else (F0_256 K cf_q77 cn_q69_110 cf_q69_110 x6)
def O0_237 (K : Nat) (cf_q77 : Nat → Int32) (cn_q69_110 : Nat) (cf_q69_110 : Nat → Int32) (x6 : Int32) : Prop := (inb (3 : Int32) cn_q69_110) ∧ (O3 x6 (3 : Int32) 5 cf_q77) ∧ ((cf_q69_110 ((3 : Int32)).toNatClampNeg) = (F3 x6 (3 : Int32) 5 cf_q77) → (O0_252 K cf_q77 cn_q69_110 cf_q69_110 x6)) ∧ (¬ (cf_q69_110 ((3 : Int32)).toNatClampNeg) = (F3 x6 (3 : Int32) 5 cf_q77) → (O0_256 K cf_q77 cn_q69_110 cf_q69_110 x6))
def F0_231 (K : Nat) (cf_q77 : Nat → Int32) (cn_q69_110 : Nat) (cf_q69_110 : Nat → Int32) (x6 : Int32) : Int32 := if (3 : Int32) < x6 then (F0_237 K cf_q77 cn_q69_110 cf_q69_110 x6) else (F0_252 K cf_q77 cn_q69_110 cf_q69_110 x6)
def O0_231 (K : Nat) (cf_q77 : Nat → Int32) (cn_q69_110 : Nat) (cf_q69_110 : Nat → Int32) (x6 : Int32) : Prop := ((3 : Int32) < x6 → (O0_237 K cf_q77 cn_q69_110 cf_q69_110 x6)) ∧ (¬ (3 : Int32) < x6 → (O0_252 K cf_q77 cn_q69_110 cf_q69_110 x6))
def F0_224 (K : Nat) (cf_q77 : Nat → Int32) (cn_q69_110 : Nat) (cf_q69_110 : Nat → Int32) (x6 : Int32) (t0 : Int32) : Int32 := if t0 = 0 then (F0_256 K cf_q77 cn_q69_110 cf_q69_110 x6) else (F0_231 K cf_q77 cn_q69_110 cf_q69_110 x6)
def O0_224 (K : Nat) (cf_q77 : Nat → Int32) (cn_q69_110 : Nat) (cf_q69_110 : Nat → Int32) (x6 : Int32) (t0 : Int32) : Prop := (t0 = 0 → (O0_256 K cf_q77 cn_q69_110 cf_q69_110 x6)) ∧ (¬ t0 = 0 → (O0_231 K cf_q77 cn_q69_110 cf_q69_110 x6))
def F0_219 (K : Nat) (cf_q77 : Nat → Int32) (cn_q69_110 : Nat) (cf_q69_110 : Nat → Int32) (x6 : Int32) : Int32 := (F0_224 K cf_q77 cn_q69_110 cf_q69_110 x6 (1 : Int32))
def O0_219 (K : Nat) (cf_q77 : Nat → Int32) (cn_q69_110 : Nat) (cf_q69_110 : Nat → Int32) (x6 : Int32) : Prop := (O0_224 K cf_q77 cn_q69_110 cf_q69_110 x6 (1 : Int32))
def F0_223 (K : Nat) (cf_q77 : Nat → Int32) (cn_q69_110 : Nat) (cf_q69_110 : Nat → Int32) (x6 : Int32) : Int32 := (F0_224 K cf_q77 cn_q69_110 cf_q69_110 x6 (0 : Int32))
def O0_223 (K : Nat) (cf_q77 : Nat → Int32) (cn_q69_110 : Nat) (cf_q69_110 : Nat → Int32) (x6 : Int32) : Prop := (O0_224 K cf_q77 cn_q69_110 cf_q69_110 x6 (0 : Int32))
def F0_204 (K : Nat) (cf_q77 : Nat → Int32) (cn_q69_110 : Nat) (cf_q69_110 : Nat → Int32) (x6 : Int32) : Int32 := if (cf_q69_110 ((2 : Int32)).toNatClampNeg) = (F3 x6 (2 : Int32) 5 cf_q77) then (F0_219 K cf_q77 cn_q69_110 cf_q69_110 x6) else (F0_223 K cf_q77 cn_q69_110 cf_q69_110 x6)
def O0_204 (K : Nat) (cf_q77 : Nat → Int32) (cn_q69_110 : Nat) (cf_q69_110 : Nat → Int32) (x6 : Int32) : Prop := (inb (2 : Int32) cn_q69_110) ∧ (O3 x6 (2 : Int32) 5 cf_q77) ∧ ((cf_q69_110 ((2 : Int32)).toNatClampNeg) = (F3 x6 (2 : Int32) 5 cf_q77) → (O0_219 K cf_q77 cn_q69_110 cf_q69_110 x6)) ∧ (¬ (cf_q69_110 ((2 : Int32)).toNatClampNeg) = (F3 x6 (2 : Int32) 5 cf_q77) → (O0_223 K cf_q77 cn_q69_110 cf_q69_110 x6))
def F0_198 (K : Nat) (cf_q77 : Nat → Int32) (cn_q69_110 : Nat) (cf_q69_110 : Nat → Int32) (x6 : Int32) : Int32 := if (2 : Int32) < x6 then (F0_204 K cf_q77 cn_q69_110 cf_q69_110 x6) else (F0_219 K cf_q77 cn_q69_110 cf_q69_110 x6)
def O0_198 (K : Nat) (cf_q77 : Nat → Int32) (cn_q69_110 : Nat) (cf_q69_110 : Nat → Int32) (x6 : Int32) : Prop := ((2 : Int32) < x6 → (O0_204 K cf_q77 cn_q69_110 cf_q69_110 x6)) ∧ (¬ (2 : Int32) < x6 → (O0_219 K cf_q77 cn_q69_110 cf_q69_110 x6))
def F0_191 (K : Nat) (cf_q77 : Nat → Int32) (cn_q69_110 : Nat) (cf_q69_110 : Nat → Int32) (x6 : Int32) (t0 : Int32) : Int32 := if t0 = 0 then (F0_223 K cf_q77 cn_q69_110 cf_q69_110 x6) else (F0_198 K cf_q77 cn_q69_110 cf_q69_110 x6)
def O0_191 (K : Nat) (cf_q77 : Nat → Int32) (cn_q69_110 : Nat) (cf_q69_110 : Nat → Int32) (x6 : Int32) (t0 : Int32) : Prop := (t0 = 0 → (O0_223 K cf_q77 cn_q69_110 cf_q69_110 x6)) ∧ (¬ t0 = 0 → (O0_198 K cf_q77 cn_q69_110 cf_q69_110 x6))
def F0_186 (K : Nat) (cf_q77 : Nat → Int32) (cn_q69_110 : Nat) (cf_q69_110 : Nat → Int32) (x6 : Int32) : Int32 := (F0_191 K cf_q77 cn_q69_110 cf_q69_110 x6 (1 : Int32))
def O0_186 (K : Nat) (cf_q77 : Nat → Int32) (cn_q69_110 : Nat) (cf_q69_110 : Nat → Int32) (x6 : Int32) : Prop := (O0_191 K cf_q77 cn_q69_110 cf_q69_110 x6 (1 : Int32))
def F0_190 (K : Nat) (cf_q77 : Nat → Int32) (cn_q69_110 : Nat) (cf_q69_110 : Nat → Int32) (x6 : Int32) : Int32 := (F0_191 K cf_q77 cn_q69_110 cf_q69_110 x6 (0 : Int32))
def O0_190 (K : Nat) (cf_q77 : Nat → Int32) (cn_q69_110 : Nat) (cf_q69_110 : Nat → Int32) (x6 : Int32) : Prop := (O0_191 K cf_q77 cn_q69_110 cf_q69_110 x6 (0 : Int32))
def F0_171 (K : Nat) (cf_q77 : Nat → Int32) (cn_q69_110 : Nat) (cf_q69_110 : Nat → Int32) (x6 : Int32) : Int32 := if (cf_q69_110 ((1 : Int32)).toNatClampNeg) = (F3 x6 (1 : Int32) 5 cf_q77) then (F0_186 K cf_q77 cn_q69_110 cf_q69_110 x6) else (F0_190 K cf_q77 cn_q69_110 cf_q69_110 x6)
def O0_171 (K : Nat) (cf_q77 : Nat → Int32) (cn_q69_110 : Nat) (cf_q69_110 : Nat → Int32) (x6 : Int32) : Prop := (inb (1 : Int32) cn_q69_110) ∧ (O3 x6 (1 : Int32) 5 cf_q77) ∧ ((cf_q69_110 ((1 : Int32)).toNatClampNeg) = (F3 x6 (1 : Int32) 5 cf_q77) → (O0_186 K cf_q77 cn_q69_110 cf_q69_110 x6)) ∧ (¬ (cf_q69_110 ((1 : Int32)).toNatClampNeg) = (F3 x6 (1 : Int32) 5 cf_q77) → (O0_190 K cf_q77 cn_q69_110 cf_q69_110 x6))
def F0_165 (K : Nat) (cf_q77 : Nat → Int32) (cn_q69_110 : Nat) (cf_q69_110 : Nat → Int32) (x6 : Int32) : Int32 := if (1 : Int32) < x6 then (F0_171 K cf_q77 cn_q69_110 cf_q69_110 x6) else (F0_186 K cf_q77 cn_q69_110 cf_q69_110 x6)
def O0_165 (K : Nat) (cf_q77 : Nat → Int32) (cn_q69_110 : Nat) (cf_q69_110 : Nat → Int32) (x6 : Int32) : Prop := ((1 : Int32) < x6 → (O0_171 K cf_q77 cn_q69_110 cf_q69_110 x6)) ∧ (¬ (1 : Int32) < x6 → (O0_186 K cf_q77 cn_q69_110 cf_q69_110 x6))
def F0_158 (K : Nat) (cf_q77 : Nat → Int32) (cn_q69_110 : Nat) (cf_q69_110 : Nat → Int32) (x6 : Int32) (t0 : Int32) : Int32 := if t0 = 0 then (F0_190 K cf_q77 cn_q69_110 cf_q69_110 x6) else (F0_165 K cf_q77 cn_q69_110 cf_q69_110 x6)
def O0_158 (K : Nat) (cf_q77 : Nat → Int32) (cn_q69_110 : Nat) (cf_q69_110 : Nat → Int32) (x6 : Int32) (t0 : Int32) : Prop := (t0 = 0 → (O0_190 K cf_q77 cn_q69_110 cf_q69_110 x6)) ∧ (¬ t0 = 0 → (O0_165 K cf_q77 cn_q69_110 cf_q69_110 x6))
def F0_153 (K : Nat) (cf_q77 : Nat → Int32) (cn_q69_110 : Nat) (cf_q69_110 : Nat → Int32) (x6 : Int32) : Int32 := (F0_158 K cf_q77 cn_q69_110 cf_q69_110 x6 (1 : Int32))
def O0_153 (K : Nat) (cf_q77 : Nat → Int32) (cn_q69_110 : Nat) (cf_q69_110 : Nat → Int32) (x6 : Int32) : Prop := (O0_158 K cf_q77 cn_q69_110 cf_q69_110 x6 (1 : Int32))
def F0_157 (K : Nat) (cf_q77 : Nat → Int32) (cn_q69_110 : Nat) (cf_q69_110 : Nat → Int32) (x6 : Int32) : Int32 := (F0_158 K cf_q77 cn_q69_110 cf_q69_110 x6 (0 : Int32))
def O0_157 (K : Nat) (cf_q77 : Nat → Int32) (cn_q69_110 : Nat) (cf_q69_110 : Nat → Int32) (x6 : Int32) : Prop := (O0_158 K cf_q77 cn_q69_110 cf_q69_110 x6 (0 : Int32))
def F0_138 (K : Nat) (cf_q77 : Nat → Int32) (cn_q69_110 : Nat) (cf_q69_110 : Nat → Int32) (x6 : Int32) : Int32 := if (cf_q69_110 ((0 : Int32)).toNatClampNeg) = (F3 x6 (0 : Int32) 5 cf_q77) then (F0_153 K cf_q77 cn_q69_110 cf_q69_110 x6) else (F0_157 K cf_q77 cn_q69_110 cf_q69_110 x6)
def O0_138 (K : Nat) (cf_q77 : Nat → Int32) (cn_q69_110 : Nat) (cf_q69_110 : Nat → Int32) (x6 : Int32) : Prop := (inb (0 : Int32) cn_q69_110) ∧ (O3 x6 (0 : Int32) 5 cf_q77) ∧ ((cf_q69_110 ((0 : Int32)).toNatClampNeg) = (F3 x6 (0 : Int32) 5 cf_q77) → (O0_153 K cf_q77 cn_q69_110 cf_q69_110 x6)) ∧ (¬ (cf_q69_110 ((0 : Int32)).toNatClampNeg) = (F3 x6 (0 : Int32) 5 cf_q77) → (O0_157 K cf_q77 cn_q69_110 cf_q69_110 x6))
def F0_133 (K : Nat) (cf_q77 : Nat → Int32) (cn_q69_110 : Nat) (cf_q69_110 : Nat → Int32) (x6 : Int32) : Int32 := if 0 < x6 then (F0_138 K cf_q77 cn_q69_110 cf_q69_110 x6) else (F0_153 K cf_q77 cn_q69_110 cf_q69_110 x6)
def O0_133 (K : Nat) (cf_q77 : Nat → Int32) (cn_q69_110 : Nat) (cf_q69_110 : Nat → Int32) (x6 : Int32) : Prop := (0 < x6 → (O0_138 K cf_q77 cn_q69_110 cf_q69_110 x6)) ∧ (¬ 0 < x6 → (O0_153 K cf_q77 cn_q69_110 cf_q69_110 x6))
def F0_125 (K : Nat) (cf_q77 : Nat → Int32) (cn_q69_110 : Nat) (cf_q69_110 : Nat → Int32) (x6 : Int32) : Int32 := if (1 : Int32) = 0 then (F0_157 K cf_q77 cn_q69_110 cf_q69_110 x6) else (F0_133 K cf_q77 cn_q69_110 cf_q69_110 x6)
def O0_125 (K : Nat) (cf_q77 : Nat → Int32) (cn_q69_110 : Nat) (cf_q69_110 : Nat → Int32) (x6 : Int32) : Prop := ((1 : Int32) = 0 → (O0_157 K cf_q77 cn_q69_110 cf_q69_110 x6)) ∧ (¬ (1 : Int32) = 0 → (O0_133 K cf_q77 cn_q69_110 cf_q69_110 x6))
def F0_106 (K : Nat) (cf_q42 : Nat → Int32) (cf_q77 : Nat → Int32) (x6 : Int32) : Int32 := if (Nat.toInt32 (F2 K x6 5 cf_q42).1) = x6 then (F0_125 K cf_q77 (F2 K x6 5 cf_q42).1 (F2 K x6 5 cf_q42).2 x6) else (F0_123 K)
def O0_106 (K : Nat) (cf_q42 : Nat → Int32) (cf_q77 : Nat → Int32) (x6 : Int32) : Prop := (O2 K x6 5 cf_q42) ∧ ((Nat.toInt32 (F2 K x6 5 cf_q42).1) = x6 → (O0_125 K cf_q77 (F2 K x6 5 cf_q42).1 (F2 K x6 5 cf_q42).2 x6)) ∧ (¬ (Nat.toInt32 (F2 K x6 5 cf_q42).1) = x6 → True)
def F0_76 (K : Nat) (cf_q42 : Nat → Int32) (x6 : Int32) (x7 : Int32) (x8 : Int32) (x9 : Int32) (x10 : Int32) (x11 : Int32) : Int32 := (F0_106 K cf_q42 (upd (upd (upd (upd (upd (fun _ => 0) 0 x7) 1 x8) 2 x9) 3 x10) 4 x11) x6)
def O0_76 (K : Nat) (cf_q42 : Nat → Int32) (x6 : Int32) (x7 : Int32) (x8 : Int32) (x9 : Int32) (x10 : Int32) (x11 : Int32) : Prop := (O0_106 K cf_q42 (upd (upd (upd (upd (upd (fun _ => 0) 0 x7) 1 x8) 2 x9) 3 x10) 4 x11) x6)
def F0_41 (K : Nat) (x6 : Int32) (x7 : Int32) (x8 : Int32) (x9 : Int32) (x10 : Int32) (x11 : Int32) : Int32 := (F0_76 K (upd (upd (upd (upd (upd (fun _ => 0) 0 (nar .byte ((x7).toInt8.toInt32))) 1 (nar .byte ((x8).toInt8.toInt32))) 2 (nar .byte ((x9).toInt8.toInt32))) 3 (nar .byte ((x10).toInt8.toInt32))) 4 (nar .byte ((x11).toInt8.toInt32))) x6 x7 x8 x9 x10 x11)
def O0_41 (K : Nat) (x6 : Int32) (x7 : Int32) (x8 : Int32) (x9 : Int32) (x10 : Int32) (x11 : Int32) : Prop := (O0_76 K (upd (upd (upd (upd (upd (fun _ => 0) 0 (nar .byte ((x7).toInt8.toInt32))) 1 (nar .byte ((x8).toInt8.toInt32))) 2 (nar .byte ((x9).toInt8.toInt32))) 3 (nar .byte ((x10).toInt8.toInt32))) 4 (nar .byte ((x11).toInt8.toInt32))) x6 x7 x8 x9 x10 x11)
def F0_34 (K : Nat) (x4 : Int32) (x6 : Int32) (x7 : Int32) (x8 : Int32) (x9 : Int32) (x10 : Int32) : Int32 := (F0_41 K x6 x7 x8 x9 x10 (F1 x4))
def O0_34 (K : Nat) (x4 : Int32) (x6 : Int32) (x7 : Int32) (x8 : Int32) (x9 : Int32) (x10 : Int32) : Prop := (O0_41 K x6 x7 x8 x9 x10 (F1 x4))
def F0_28 (K : Nat) (x3 : Int32) (x4 : Int32) (x6 : Int32) (x7 : Int32) (x8 : Int32) (x9 : Int32) : Int32 := (F0_34 K x4 x6 x7 x8 x9 (F1 x3))
def O0_28 (K : Nat) (x3 : Int32) (x4 : Int32) (x6 : Int32) (x7 : Int32) (x8 : Int32) (x9 : Int32) : Prop := (O0_34 K x4 x6 x7 x8 x9 (F1 x3))
def F0_22 (K : Nat) (x2 : Int32) (x3 : Int32) (x4 : Int32) (x6 : Int32) (x7 : Int32) (x8 : Int32) : Int32 := (F0_28 K x3 x4 x6 x7 x8 (F1 x2))
def O0_22 (K : Nat) (x2 : Int32) (x3 : Int32) (x4 : Int32) (x6 : Int32) (x7 : Int32) (x8 : Int32) : Prop := (O0_28 K x3 x4 x6 x7 x8 (F1 x2))
def F0_16 (K : Nat) (x1 : Int32) (x2 : Int32) (x3 : Int32) (x4 : Int32) (x6 : Int32) (x7 : Int32) : Int32 := (F0_22 K x2 x3 x4 x6 x7 (F1 x1))
def O0_16 (K : Nat) (x1 : Int32) (x2 : Int32) (x3 : Int32) (x4 : Int32) (x6 : Int32) (x7 : Int32) : Prop := (O0_22 K x2 x3 x4 x6 x7 (F1 x1))
def F0_10 (K : Nat) (x0 : Int32) (x1 : Int32) (x2 : Int32) (x3 : Int32) (x4 : Int32) (x6 : Int32) : Int32 := (F0_16 K x1 x2 x3 x4 x6 (F1 x0))
def O0_10 (K : Nat) (x0 : Int32) (x1 : Int32) (x2 : Int32) (x3 : Int32) (x4 : Int32) (x6 : Int32) : Prop := (O0_16 K x1 x2 x3 x4 x6 (F1 x0))
def F0 (K : Nat) (p0 : Int32) (p1 : Int32) (p2 : Int32) (p3 : Int32) (p4 : Int32) (p5 : Int32) : Int32 := (F0_10 K p0 p1 p2 p3 p4 ((p5 &&& (2147483647 : Int32)) % (6 : Int32)))
def O0 (K : Nat) (p0 : Int32) (p1 : Int32) (p2 : Int32) (p3 : Int32) (p4 : Int32) (p5 : Int32) : Prop := (O0_10 K p0 p1 p2 p3 p4 ((p5 &&& (2147483647 : Int32)) % (6 : Int32)))
theorem pd_0 : parseMethodDescriptor "([IIII)I" = some ⟨[(.array .int), .int, .int, .int], (some .int)⟩ := by decide +kernel
theorem pd_1 : parseMethodDescriptor "(I)I" = some ⟨[.int], (some .int)⟩ := by decide +kernel
theorem pd_2 : parseMethodDescriptor "([BI)[I" = some ⟨[(.array .byte), .int], (some (.array .int))⟩ := by decide +kernel
theorem pd_3 : parseMethodDescriptor "([III)I" = some ⟨[(.array .int), .int, .int], (some .int)⟩ := by decide +kernel
theorem d1_0 : decode method_3_code 0 = .ok (.iload_n 0, 1) := by decide +kernel
theorem d1_1 : decode method_3_code 1 = .ok (.ldc 7, 2) := by decide +kernel
theorem d1_3 : decode method_3_code 3 = .ok (.iand, 1) := by decide +kernel
theorem d1_4 : decode method_3_code 4 = .ok (.bipush 12, 2) := by decide +kernel
theorem d1_6 : decode method_3_code 6 = .ok (.irem, 1) := by decide +kernel
theorem d1_7 : decode method_3_code 7 = .ok (.ireturn, 1) := by decide +kernel
theorem pn_1 : plainFor (⟨"lakewright/zstd/HuffmanTableFirstEntriesPinLaw", "wt", "(I)I"⟩ : MethodName) = true := by first | exact plainFor_of_name (by first | (simp [plainName, overriddenIn]; done) | decide +kernel) | decide +kernel
theorem ef_1 (m : MethodId) (y0 : Int32) : entryFrame m #[(.int y0)] 1 = mkF m 0 #[.val (.int y0)] [] := by first | (simp [entryFrame, mkF, argsToLocals, Value.category]; done) | rfl
def Q1 (Z : State)   (h0 : Heap) (n0 : Nat) (ans : Int32) (v : Option Value) (h : Heap) (L : List Loc) : Prop := v = some (.int ans) ∧ Fr n0 L ∧ h = h0
set_option maxRecDepth 65536 in
set_option maxHeartbeats 40000000 in
theorem rm1 (l : Launch) (Z : State) (a0 : Array Value) (hw : ∀ d ∈ tables_1, d.before a0 Z = true) (p0 : Int32)  (h0 : Heap) (n0 : Nat) (Z0 : n0 ≤ h0.size)  :
    Meets l Z (⟨"lakewright/zstd/HuffmanTableFirstEntriesPinLaw", "wt", "(I)I"⟩ : MethodName) method_3_code 1 (some .int) [] ({ frames := 0, cells := 0, slots := 0, locals := 0 } : Room) #[(.int p0)] h0 (Q1 Z  h0 n0 (F1 p0)) 0 0 := by
  refine Meets.of pn_1 ?_
  intro p e s m below meth c s₁ hx hby hml hZ hown hnm hret hlk X0 e0
  have hml : c.maxLocals = 1 := hml
  have hown : s.vm.findClass "lakewright/zstd/HuffmanTableFirstEntriesPinLaw" = some m.cls := hown
  have N0 := Fr.nil n0
  refine Ends.step (u' := (s₁.setTop (mkF m 0 #[.val (.int p0)] []))) ?_ (fun _ k => castTop (ef_1 m p0) k)
  refine Ends.step (u' := (s₁.setTop (mkF m 1 #[.val (.int p0)] [(.int p0)]))) ?_ (fun _ k => XS.iloadN X0.here hx rfl (hb hby d1_0) rfl k)
  refine Ends.step (u' := (s₁.setTop (mkF m 3 #[.val (.int p0)] [(.int (2147483647 : Int32)), (.int p0)]))) ?_ (fun _ k => X0.ldcI hx hown (mvT hZ (hw _ (List.mem_of_getElem? (i := 0) rfl))) rfl (hb hby d1_1) k)
  refine Ends.step (u' := (s₁.setTop (mkF m 4 #[.val (.int p0)] [(.int (p0 &&& (2147483647 : Int32)))]))) ?_ (fun _ k => XS.iand X0.here hx rfl (hb hby d1_3) rfl k)
  refine Ends.step (u' := (s₁.setTop (mkF m 6 #[.val (.int p0)] [(.int (12 : Int32)), (.int (p0 &&& (2147483647 : Int32)))]))) ?_ (fun _ k => XT.bipushV X0.here hx rfl (12 : Int32) (hb hby d1_4) rfl k)
  refine Ends.step (u' := (s₁.setTop (mkF m 7 #[.val (.int p0)] [(.int ((p0 &&& (2147483647 : Int32)) % (12 : Int32)))]))) ?_ (fun _ k => iremM X0 hx rfl (hb hby d1_6) rfl (by decide) k)
  exact Ends.ret X0 (v := some (.int ((p0 &&& (2147483647 : Int32)) % (12 : Int32)))) (fun q => by rw [hret] at q; cases q) hlk (fun fs hr => retI X0 hx hret (hb hby d1_7) hr) (by decide) (by decide) ⟨rfl, N0, e0⟩
theorem d2_0 : decode prog_106_method_3_code 0 = .ok (.bipush 13, 2) := by decide +kernel
theorem d2_2 : decode prog_106_method_3_code 2 = .ok (.newarray .int, 2) := by decide +kernel
theorem d2_4 : decode prog_106_method_3_code 4 = .ok (.astore_n 2, 1) := by decide +kernel
theorem d2_5 : decode prog_106_method_3_code 5 = .ok (.iconst 0, 1) := by decide +kernel
theorem d2_6 : decode prog_106_method_3_code 6 = .ok (.istore_n 3, 1) := by decide +kernel
theorem d2_7 : decode prog_106_method_3_code 7 = .ok (.iload_n 3, 1) := by decide +kernel
theorem d2_8 : decode prog_106_method_3_code 8 = .ok (.iload_n 1, 1) := by decide +kernel
theorem d2_9 : decode prog_106_method_3_code 9 = .ok (.if_icmp .ge 34, 3) := by decide +kernel
theorem d2_12 : decode prog_106_method_3_code 12 = .ok (.aload_n 0, 1) := by decide +kernel
theorem d2_13 : decode prog_106_method_3_code 13 = .ok (.iload_n 3, 1) := by decide +kernel
theorem d2_14 : decode prog_106_method_3_code 14 = .ok (.baload, 1) := by decide +kernel
theorem d2_15 : decode prog_106_method_3_code 15 = .ok (.istore 4, 2) := by decide +kernel
theorem d2_17 : decode prog_106_method_3_code 17 = .ok (.iload 4, 2) := by decide +kernel
theorem d2_19 : decode prog_106_method_3_code 19 = .ok (.ifCond .le 18, 3) := by decide +kernel
theorem d2_22 : decode prog_106_method_3_code 22 = .ok (.aload_n 2, 1) := by decide +kernel
theorem d2_23 : decode prog_106_method_3_code 23 = .ok (.iload 4, 2) := by decide +kernel
theorem d2_25 : decode prog_106_method_3_code 25 = .ok (.iconst 1, 1) := by decide +kernel
theorem d2_26 : decode prog_106_method_3_code 26 = .ok (.iadd, 1) := by decide +kernel
theorem d2_27 : decode prog_106_method_3_code 27 = .ok (.dup2, 1) := by decide +kernel
theorem d2_28 : decode prog_106_method_3_code 28 = .ok (.iaload, 1) := by decide +kernel
theorem d2_29 : decode prog_106_method_3_code 29 = .ok (.iconst 1, 1) := by decide +kernel
theorem d2_30 : decode prog_106_method_3_code 30 = .ok (.iload 4, 2) := by decide +kernel
theorem d2_32 : decode prog_106_method_3_code 32 = .ok (.iconst 1, 1) := by decide +kernel
theorem d2_33 : decode prog_106_method_3_code 33 = .ok (.isub, 1) := by decide +kernel
theorem d2_34 : decode prog_106_method_3_code 34 = .ok (.ishl, 1) := by decide +kernel
theorem d2_35 : decode prog_106_method_3_code 35 = .ok (.iadd, 1) := by decide +kernel
theorem d2_36 : decode prog_106_method_3_code 36 = .ok (.iastore, 1) := by decide +kernel
theorem d2_37 : decode prog_106_method_3_code 37 = .ok (.iinc 3 1, 3) := by decide +kernel
theorem d2_40 : decode prog_106_method_3_code 40 = .ok (.goto (-33), 3) := by decide +kernel
theorem d2_43 : decode prog_106_method_3_code 43 = .ok (.iconst 2, 1) := by decide +kernel
theorem d2_44 : decode prog_106_method_3_code 44 = .ok (.istore_n 3, 1) := by decide +kernel
theorem d2_45 : decode prog_106_method_3_code 45 = .ok (.iload_n 3, 1) := by decide +kernel
theorem d2_46 : decode prog_106_method_3_code 46 = .ok (.aload_n 2, 1) := by decide +kernel
theorem d2_47 : decode prog_106_method_3_code 47 = .ok (.arraylength, 1) := by decide +kernel
theorem d2_48 : decode prog_106_method_3_code 48 = .ok (.if_icmp .ge 20, 3) := by decide +kernel
theorem d2_51 : decode prog_106_method_3_code 51 = .ok (.aload_n 2, 1) := by decide +kernel
theorem d2_52 : decode prog_106_method_3_code 52 = .ok (.iload_n 3, 1) := by decide +kernel
theorem d2_53 : decode prog_106_method_3_code 53 = .ok (.dup2, 1) := by decide +kernel
theorem d2_54 : decode prog_106_method_3_code 54 = .ok (.iaload, 1) := by decide +kernel
theorem d2_55 : decode prog_106_method_3_code 55 = .ok (.aload_n 2, 1) := by decide +kernel
theorem d2_56 : decode prog_106_method_3_code 56 = .ok (.iload_n 3, 1) := by decide +kernel
theorem d2_57 : decode prog_106_method_3_code 57 = .ok (.iconst 1, 1) := by decide +kernel
theorem d2_58 : decode prog_106_method_3_code 58 = .ok (.isub, 1) := by decide +kernel
theorem d2_59 : decode prog_106_method_3_code 59 = .ok (.iaload, 1) := by decide +kernel
theorem d2_60 : decode prog_106_method_3_code 60 = .ok (.iadd, 1) := by decide +kernel
theorem d2_61 : decode prog_106_method_3_code 61 = .ok (.iastore, 1) := by decide +kernel
theorem d2_62 : decode prog_106_method_3_code 62 = .ok (.iinc 3 1, 3) := by decide +kernel
theorem d2_65 : decode prog_106_method_3_code 65 = .ok (.goto (-20), 3) := by decide +kernel
theorem d2_68 : decode prog_106_method_3_code 68 = .ok (.iload_n 1, 1) := by decide +kernel
theorem d2_69 : decode prog_106_method_3_code 69 = .ok (.newarray .int, 2) := by decide +kernel
theorem d2_71 : decode prog_106_method_3_code 71 = .ok (.astore_n 3, 1) := by decide +kernel
theorem d2_72 : decode prog_106_method_3_code 72 = .ok (.iconst 0, 1) := by decide +kernel
theorem d2_73 : decode prog_106_method_3_code 73 = .ok (.istore 4, 2) := by decide +kernel
theorem d2_75 : decode prog_106_method_3_code 75 = .ok (.iload 4, 2) := by decide +kernel
theorem d2_77 : decode prog_106_method_3_code 77 = .ok (.iload_n 1, 1) := by decide +kernel
theorem d2_78 : decode prog_106_method_3_code 78 = .ok (.if_icmp .ge 41, 3) := by decide +kernel
theorem d2_81 : decode prog_106_method_3_code 81 = .ok (.aload_n 0, 1) := by decide +kernel
theorem d2_82 : decode prog_106_method_3_code 82 = .ok (.iload 4, 2) := by decide +kernel
theorem d2_84 : decode prog_106_method_3_code 84 = .ok (.baload, 1) := by decide +kernel
theorem d2_85 : decode prog_106_method_3_code 85 = .ok (.istore 5, 2) := by decide +kernel
theorem d2_87 : decode prog_106_method_3_code 87 = .ok (.iload 5, 2) := by decide +kernel
theorem d2_89 : decode prog_106_method_3_code 89 = .ok (.ifCond .le 24, 3) := by decide +kernel
theorem d2_92 : decode prog_106_method_3_code 92 = .ok (.aload_n 3, 1) := by decide +kernel
theorem d2_93 : decode prog_106_method_3_code 93 = .ok (.iload 4, 2) := by decide +kernel
theorem d2_95 : decode prog_106_method_3_code 95 = .ok (.aload_n 2, 1) := by decide +kernel
theorem d2_96 : decode prog_106_method_3_code 96 = .ok (.iload 5, 2) := by decide +kernel
theorem d2_98 : decode prog_106_method_3_code 98 = .ok (.iaload, 1) := by decide +kernel
theorem d2_99 : decode prog_106_method_3_code 99 = .ok (.iastore, 1) := by decide +kernel
theorem d2_100 : decode prog_106_method_3_code 100 = .ok (.aload_n 2, 1) := by decide +kernel
theorem d2_101 : decode prog_106_method_3_code 101 = .ok (.iload 5, 2) := by decide +kernel
theorem d2_103 : decode prog_106_method_3_code 103 = .ok (.dup2, 1) := by decide +kernel
theorem d2_104 : decode prog_106_method_3_code 104 = .ok (.iaload, 1) := by decide +kernel
theorem d2_105 : decode prog_106_method_3_code 105 = .ok (.iconst 1, 1) := by decide +kernel
theorem d2_106 : decode prog_106_method_3_code 106 = .ok (.iload 5, 2) := by decide +kernel
theorem d2_108 : decode prog_106_method_3_code 108 = .ok (.iconst 1, 1) := by decide +kernel
theorem d2_109 : decode prog_106_method_3_code 109 = .ok (.isub, 1) := by decide +kernel
theorem d2_110 : decode prog_106_method_3_code 110 = .ok (.ishl, 1) := by decide +kernel
theorem d2_111 : decode prog_106_method_3_code 111 = .ok (.iadd, 1) := by decide +kernel
theorem d2_112 : decode prog_106_method_3_code 112 = .ok (.iastore, 1) := by decide +kernel
theorem d2_113 : decode prog_106_method_3_code 113 = .ok (.iinc 4 1, 3) := by decide +kernel
theorem d2_116 : decode prog_106_method_3_code 116 = .ok (.goto (-41), 3) := by decide +kernel
theorem d2_119 : decode prog_106_method_3_code 119 = .ok (.aload_n 3, 1) := by decide +kernel
theorem d2_120 : decode prog_106_method_3_code 120 = .ok (.areturn, 1) := by decide +kernel
theorem pn_2 : plainFor (⟨"lakewright/zstd/HuffmanTable", "firstEntries", "([BI)[I"⟩ : MethodName) = true := by first | exact plainFor_of_name (by first | (simp [plainName, overriddenIn]; done) | decide +kernel) | decide +kernel
theorem ef_2 (m : MethodId) (y0 : Addr) (y1 : Int32) : entryFrame m #[(.ref y0), (.int y1)] 6 = mkF m 0 #[.val (.ref y0), .val (.int y1), .unset, .unset, .unset, .unset] [] := by first | (simp [entryFrame, mkF, argsToLocals, Value.category]; done) | rfl
def Q2 (Z : State) (a_o0 : Addr) (n_o0 : Nat) (f_o0 : Nat → Int32) (h0 : Heap) (n0 : Nat) (ans : Nat × (Nat → Int32)) (v : Option Value) (h : Heap) (L : List Loc) : Prop := ∃ r_q69 : Addr, v = some (.ref r_q69) ∧ Fr n0 L ∧ Keep h0 h [] ∧ h0.size ≤ r_q69 ∧ Ar Z h r_q69 .int ans.1 ans.2
set_option maxRecDepth 65536 in
set_option maxHeartbeats 40000000 in
theorem rm2 (l : Launch) (Z : State) (a0 : Array Value) (hw : ∀ d ∈ tables_1, d.before a0 Z = true) (K : Nat) (p1 : Int32) (n_o0 : Nat) (f_o0 : Nat → Int32) (a_o0 : Addr) (h0 : Heap) (n0 : Nat) (Z0 : n0 ≤ h0.size) (A_o0 : Ar Z h0 a_o0 .byte n_o0 f_o0) (ok : O2 K p1 n_o0 f_o0) :
    Meets l Z (⟨"lakewright/zstd/HuffmanTable", "firstEntries", "([BI)[I"⟩ : MethodName) prog_106_method_3_code 6 (some (.array .int)) [] ({ frames := 0, cells := 2, slots := 18, locals := 0 } : Room) #[(.ref a_o0), (.int p1)] h0 (Q2 Z a_o0 n_o0 f_o0 h0 n0 (F2 K p1 n_o0 f_o0)) 2 18 := by
  refine Meets.of pn_2 ?_
  intro p e s m below meth c s₁ hx hby hml hZ hown hnm hret hlk X0 e0
  have hml : c.maxLocals = 6 := hml
  have hown : s.vm.findClass "lakewright/zstd/HuffmanTable" = some m.cls := hown
  have N0 := Fr.nil n0
  have K0 := Keep.refl h0 []
  have b119 : ∀ (T : State) (L : List Loc) (h : Heap) (X : Stand p l e ({ frames := 0, cells := 2, slots := 18, locals := 0 } : Room) s m #[(.ref a_o0), (.int p1)] below meth c T L 2 18) (eT : T.heap = h) (N : Fr n0 L) (Zs : n0 ≤ h.size) (Kp : Keep h0 h []) (cn_q69 : Nat) (cf_q69 : Nat → Int32) (d0 : Slot) (od0 : OneS d0) (d1 : Slot) (od1 : OneS d1) (d2 : Slot) (od2 : OneS d2) (d4 : Slot) (od4 : OneS d4) (d5 : Slot) (od5 : OneS d5) (a_q69 : Addr) (g_q69 : n0 ≤ a_q69) (fr_q69 : h0.size ≤ a_q69) (ne_o0_q69 : a_o0 ≠ a_q69) (A_o0 : Ar Z h a_o0 .byte n_o0 f_o0) (A_q69 : Ar Z h a_q69 .int cn_q69 cf_q69), Ends p e below s 2 18 (Q2 Z a_o0 n_o0 f_o0 h0 n0 (F2_119 K n_o0 f_o0 cn_q69 cf_q69)) (T.setTop (mkF m 119 #[d0, d1, d2, .val (.ref a_q69), d4, d5] [])) := by
    intro T L h X eT N Zs Kp cn_q69 cf_q69 d0 od0 d1 od1 d2 od2 d4 od4 d5 od5 a_q69 g_q69 fr_q69 ne_o0_q69 A_o0 A_q69
    refine Ends.step (u' := (T.setTop (mkF m 120 #[d0, d1, d2, .val (.ref a_q69), d4, d5] [(.ref a_q69)]))) ?_ (fun _ k => XS.aloadN X.here hx rfl (hb hby d2_119) rfl rfl k)
    exact Ends.ret X (v := some (.ref a_q69)) (fun q => by rw [hret] at q; cases q) hlk (fun fs hr => X.areturnOut hx rfl hret rfl (hb hby d2_120) hr) (by decide) (by decide) (by rw [eT]; exact ⟨a_q69, rfl, N, Kp, fr_q69, A_q69⟩)
  have b75 : ∀ (j : Nat) (T : State) (L : List Loc) (h : Heap) (X : Stand p l e ({ frames := 0, cells := 2, slots := 18, locals := 0 } : Room) s m #[(.ref a_o0), (.int p1)] below meth c T L 2 18) (eT : T.heap = h) (N : Fr n0 L) (Zs : n0 ≤ h.size) (Kp : Keep h0 h []) (cf_q2 : Nat → Int32) (cn_q69 : Nat) (cf_q69 : Nat → Int32) (x1 : Int32) (x4 : Int32) (d5 : Slot) (od5 : OneS d5) (a_q2 : Addr) (g_q2 : n0 ≤ a_q2) (fr_q2 : h0.size ≤ a_q2) (a_q69 : Addr) (g_q69 : n0 ≤ a_q69) (fr_q69 : h0.size ≤ a_q69) (ne_o0_q2 : a_o0 ≠ a_q2) (ne_o0_q69 : a_o0 ≠ a_q69) (ne_q2_q69 : a_q2 ≠ a_q69) (A_o0 : Ar Z h a_o0 .byte n_o0 f_o0) (A_q2 : Ar Z h a_q2 .int 13 cf_q2) (A_q69 : Ar Z h a_q69 .int cn_q69 cf_q69) (ok : (O2_75 K j n_o0 f_o0 cf_q2 cn_q69 cf_q69 x1 x4)), Ends p e below s 2 18 (Q2 Z a_o0 n_o0 f_o0 h0 n0 (F2_75 K j n_o0 f_o0 cf_q2 cn_q69 cf_q69 x1 x4)) (T.setTop (mkF m 75 #[.val (.ref a_o0), .val (.int x1), .val (.ref a_q2), .val (.ref a_q69), .val (.int x4), d5] [])) := by
    intro j
    induction j with
    | zero => intro T L h X eT N Zs Kp cf_q2 cn_q69 cf_q69 x1 x4 d5 od5 a_q2 g_q2 fr_q2 a_q69 g_q69 fr_q69 ne_o0_q2 ne_o0_q69 ne_q2_q69 A_o0 A_q2 A_q69 ok; exact ok.elim
    | succ j ih =>
      have b113 : ∀ (T : State) (L : List Loc) (h : Heap) (X : Stand p l e ({ frames := 0, cells := 2, slots := 18, locals := 0 } : Room) s m #[(.ref a_o0), (.int p1)] below meth c T L 2 18) (eT : T.heap = h) (N : Fr n0 L) (Zs : n0 ≤ h.size) (Kp : Keep h0 h []) (cf_q2 : Nat → Int32) (cn_q69 : Nat) (cf_q69 : Nat → Int32) (x1 : Int32) (x4 : Int32) (d5 : Slot) (od5 : OneS d5) (a_q2 : Addr) (g_q2 : n0 ≤ a_q2) (fr_q2 : h0.size ≤ a_q2) (a_q69 : Addr) (g_q69 : n0 ≤ a_q69) (fr_q69 : h0.size ≤ a_q69) (ne_o0_q2 : a_o0 ≠ a_q2) (ne_o0_q69 : a_o0 ≠ a_q69) (ne_q2_q69 : a_q2 ≠ a_q69) (A_o0 : Ar Z h a_o0 .byte n_o0 f_o0) (A_q2 : Ar Z h a_q2 .int 13 cf_q2) (A_q69 : Ar Z h a_q69 .int cn_q69 cf_q69) (ok : (O2_113 K (O2_75 K j) n_o0 f_o0 cf_q2 cn_q69 cf_q69 x1 x4)), Ends p e below s 2 18 (Q2 Z a_o0 n_o0 f_o0 h0 n0 (F2_113 K (F2_75 K j) n_o0 f_o0 cf_q2 cn_q69 cf_q69 x1 x4)) (T.setTop (mkF m 113 #[.val (.ref a_o0), .val (.int x1), .val (.ref a_q2), .val (.ref a_q69), .val (.int x4), d5] [])) := by
        intro T L h X eT N Zs Kp cf_q2 cn_q69 cf_q69 x1 x4 d5 od5 a_q2 g_q2 fr_q2 a_q69 g_q69 fr_q69 ne_o0_q2 ne_o0_q69 ne_q2_q69 A_o0 A_q2 A_q69 ok
        refine Ends.step (u' := (T.setTop (mkF m 116 #[.val (.ref a_o0), .val (.int x1), .val (.ref a_q2), .val (.ref a_q69), .val (.int (x4 + (1 : Int32))), d5] []))) ?_ (fun _ k => XT.iincV X.here hx rfl (1 : Int32) (hb hby d2_113) rfl rfl (l' := #[.val (.ref a_o0), .val (.int x1), .val (.ref a_q2), .val (.ref a_q69), .val (.int (x4 + (1 : Int32))), d5]) rfl k)
        refine Ends.step (u' := (T.setTop (mkF m 75 #[.val (.ref a_o0), .val (.int x1), .val (.ref a_q2), .val (.ref a_q69), .val (.int (x4 + (1 : Int32))), d5] []))) ?_ (fun _ k => XS.goto X.here hx rfl (pc0 := 116) (pc' := 75) rfl (hb hby d2_116) (by decide) (by decide) k)
        exact ih T _ _ X eT N Zs Kp cf_q2 cn_q69 cf_q69 x1 (x4 + (1 : Int32)) (d5) od5 a_q2 g_q2 fr_q2 a_q69 g_q69 fr_q69 ne_o0_q2 ne_o0_q69 ne_q2_q69 A_o0 A_q2 A_q69 ok
      have b92 : ∀ (T : State) (L : List Loc) (h : Heap) (X : Stand p l e ({ frames := 0, cells := 2, slots := 18, locals := 0 } : Room) s m #[(.ref a_o0), (.int p1)] below meth c T L 2 18) (eT : T.heap = h) (N : Fr n0 L) (Zs : n0 ≤ h.size) (Kp : Keep h0 h []) (cf_q2 : Nat → Int32) (cn_q69 : Nat) (cf_q69 : Nat → Int32) (x1 : Int32) (x4 : Int32) (x5 : Int32) (a_q2 : Addr) (g_q2 : n0 ≤ a_q2) (fr_q2 : h0.size ≤ a_q2) (a_q69 : Addr) (g_q69 : n0 ≤ a_q69) (fr_q69 : h0.size ≤ a_q69) (ne_o0_q2 : a_o0 ≠ a_q2) (ne_o0_q69 : a_o0 ≠ a_q69) (ne_q2_q69 : a_q2 ≠ a_q69) (A_o0 : Ar Z h a_o0 .byte n_o0 f_o0) (A_q2 : Ar Z h a_q2 .int 13 cf_q2) (A_q69 : Ar Z h a_q69 .int cn_q69 cf_q69) (ok : (O2_92 K (O2_75 K j) n_o0 f_o0 cf_q2 cn_q69 cf_q69 x1 x4 x5)), Ends p e below s 2 18 (Q2 Z a_o0 n_o0 f_o0 h0 n0 (F2_92 K (F2_75 K j) n_o0 f_o0 cf_q2 cn_q69 cf_q69 x1 x4 x5)) (T.setTop (mkF m 92 #[.val (.ref a_o0), .val (.int x1), .val (.ref a_q2), .val (.ref a_q69), .val (.int x4), .val (.int x5)] [])) := by
        intro T L h X eT N Zs Kp cf_q2 cn_q69 cf_q69 x1 x4 x5 a_q2 g_q2 fr_q2 a_q69 g_q69 fr_q69 ne_o0_q2 ne_o0_q69 ne_q2_q69 A_o0 A_q2 A_q69 ok
        obtain ⟨o1, o2, o3, o4, ok⟩ := ok
        refine Ends.step (u' := (T.setTop (mkF m 93 #[.val (.ref a_o0), .val (.int x1), .val (.ref a_q2), .val (.ref a_q69), .val (.int x4), .val (.int x5)] [(.ref a_q69)]))) ?_ (fun _ k => XS.aloadN X.here hx rfl (hb hby d2_92) rfl rfl k)
        refine Ends.step (u' := (T.setTop (mkF m 95 #[.val (.ref a_o0), .val (.int x1), .val (.ref a_q2), .val (.ref a_q69), .val (.int x4), .val (.int x5)] [(.int x4), (.ref a_q69)]))) ?_ (fun _ k => XS.iload X.here hx rfl (hb hby d2_93) rfl k)
        refine Ends.step (u' := (T.setTop (mkF m 96 #[.val (.ref a_o0), .val (.int x1), .val (.ref a_q2), .val (.ref a_q69), .val (.int x4), .val (.int x5)] [(.ref a_q2), (.int x4), (.ref a_q69)]))) ?_ (fun _ k => XS.aloadN X.here hx rfl (hb hby d2_95) rfl rfl k)
        refine Ends.step (u' := (T.setTop (mkF m 98 #[.val (.ref a_o0), .val (.int x1), .val (.ref a_q2), .val (.ref a_q69), .val (.int x4), .val (.int x5)] [(.int x5), (.ref a_q2), (.int x4), (.ref a_q69)]))) ?_ (fun _ k => XS.iload X.here hx rfl (hb hby d2_96) rfl k)
        refine Ends.iaload X hx hZ eT A_q2 o1 (g := (mkF m 98 #[.val (.ref a_o0), .val (.int x1), .val (.ref a_q2), .val (.ref a_q69), .val (.int x4), .val (.int x5)] [(.int x5), (.ref a_q2), (.int x4), (.ref a_q69)])) rfl rfl (hb hby d2_98) ?_
        show Ends p e below s _ _ _ (T.setTop (mkF m 99 #[.val (.ref a_o0), .val (.int x1), .val (.ref a_q2), .val (.ref a_q69), .val (.int x4), .val (.int x5)] [(.int (cf_q2 (x5).toNatClampNeg)), (.int x4), (.ref a_q69)]))
        refine Ends.iastore X hx hZ eT A_q69 o2 N g_q69 (g := (mkF m 99 #[.val (.ref a_o0), .val (.int x1), .val (.ref a_q2), .val (.ref a_q69), .val (.int x4), .val (.int x5)] [(.int (cf_q2 (x5).toNatClampNeg)), (.int x4), (.ref a_q69)])) rfl rfl (hb hby d2_99) (fun T1 h1 sl1 X1 e1 N1 W1 A1 => ?_)
        show Ends p e below s _ _ _ (T1.setTop (mkF m 100 #[.val (.ref a_o0), .val (.int x1), .val (.ref a_q2), .val (.ref a_q69), .val (.int x4), .val (.int x5)] []))
        have A2 := A_o0.other W1 ne_o0_q69
        have A3 := A_q2.other W1 ne_q2_q69
        have Z4 : n0 ≤ h1.size := W1.size.symm ▸ Zs
        have K5 := Kp.wr W1 (Or.inr fr_q69)
        refine Ends.step (u' := (T1.setTop (mkF m 101 #[.val (.ref a_o0), .val (.int x1), .val (.ref a_q2), .val (.ref a_q69), .val (.int x4), .val (.int x5)] [(.ref a_q2)]))) ?_ (fun _ k => XS.aloadN X1.here hx rfl (hb hby d2_100) rfl rfl k)
        refine Ends.step (u' := (T1.setTop (mkF m 103 #[.val (.ref a_o0), .val (.int x1), .val (.ref a_q2), .val (.ref a_q69), .val (.int x4), .val (.int x5)] [(.int x5), (.ref a_q2)]))) ?_ (fun _ k => XS.iload X1.here hx rfl (hb hby d2_101) rfl k)
        refine Ends.step (u' := (T1.setTop (mkF m 104 #[.val (.ref a_o0), .val (.int x1), .val (.ref a_q2), .val (.ref a_q69), .val (.int x4), .val (.int x5)] [(.int x5), (.ref a_q2), (.int x5), (.ref a_q2)]))) ?_ (fun _ k => XT.dup2 X1.here hx rfl (hb hby d2_103) rfl rfl rfl k)
        refine Ends.iaload X1 hx hZ e1 A3 o3 (g := (mkF m 104 #[.val (.ref a_o0), .val (.int x1), .val (.ref a_q2), .val (.ref a_q69), .val (.int x4), .val (.int x5)] [(.int x5), (.ref a_q2), (.int x5), (.ref a_q2)])) rfl rfl (hb hby d2_104) ?_
        show Ends p e below s _ _ _ (T1.setTop (mkF m 105 #[.val (.ref a_o0), .val (.int x1), .val (.ref a_q2), .val (.ref a_q69), .val (.int x4), .val (.int x5)] [(.int (cf_q2 (x5).toNatClampNeg)), (.int x5), (.ref a_q2)]))
        refine Ends.step (u' := (T1.setTop (mkF m 106 #[.val (.ref a_o0), .val (.int x1), .val (.ref a_q2), .val (.ref a_q69), .val (.int x4), .val (.int x5)] [(.int (1 : Int32)), (.int (cf_q2 (x5).toNatClampNeg)), (.int x5), (.ref a_q2)]))) ?_ (fun _ k => XT.iconstV X1.here hx rfl (1 : Int32) (hb hby d2_105) rfl k)
        refine Ends.step (u' := (T1.setTop (mkF m 108 #[.val (.ref a_o0), .val (.int x1), .val (.ref a_q2), .val (.ref a_q69), .val (.int x4), .val (.int x5)] [(.int x5), (.int (1 : Int32)), (.int (cf_q2 (x5).toNatClampNeg)), (.int x5), (.ref a_q2)]))) ?_ (fun _ k => XS.iload X1.here hx rfl (hb hby d2_106) rfl k)
        refine Ends.step (u' := (T1.setTop (mkF m 109 #[.val (.ref a_o0), .val (.int x1), .val (.ref a_q2), .val (.ref a_q69), .val (.int x4), .val (.int x5)] [(.int (1 : Int32)), (.int x5), (.int (1 : Int32)), (.int (cf_q2 (x5).toNatClampNeg)), (.int x5), (.ref a_q2)]))) ?_ (fun _ k => XT.iconstV X1.here hx rfl (1 : Int32) (hb hby d2_108) rfl k)
        refine Ends.step (u' := (T1.setTop (mkF m 110 #[.val (.ref a_o0), .val (.int x1), .val (.ref a_q2), .val (.ref a_q69), .val (.int x4), .val (.int x5)] [(.int (x5 - (1 : Int32))), (.int (1 : Int32)), (.int (cf_q2 (x5).toNatClampNeg)), (.int x5), (.ref a_q2)]))) ?_ (fun _ k => XS.isub X1.here hx rfl (hb hby d2_109) rfl k)
        refine Ends.step (u' := (T1.setTop (mkF m 111 #[.val (.ref a_o0), .val (.int x1), .val (.ref a_q2), .val (.ref a_q69), .val (.int x4), .val (.int x5)] [(.int ((1 : Int32) <<< ((x5 - (1 : Int32)) &&& 31))), (.int (cf_q2 (x5).toNatClampNeg)), (.int x5), (.ref a_q2)]))) ?_ (fun _ k => XT.ishl X1.here hx rfl (hb hby d2_110) rfl k)
        refine Ends.step (u' := (T1.setTop (mkF m 112 #[.val (.ref a_o0), .val (.int x1), .val (.ref a_q2), .val (.ref a_q69), .val (.int x4), .val (.int x5)] [(.int ((cf_q2 (x5).toNatClampNeg) + ((1 : Int32) <<< ((x5 - (1 : Int32)) &&& 31)))), (.int x5), (.ref a_q2)]))) ?_ (fun _ k => XS.iadd X1.here hx rfl (hb hby d2_111) rfl k)
        refine Ends.iastore X1 hx hZ e1 A3 o4 N1 g_q2 (g := (mkF m 112 #[.val (.ref a_o0), .val (.int x1), .val (.ref a_q2), .val (.ref a_q69), .val (.int x4), .val (.int x5)] [(.int ((cf_q2 (x5).toNatClampNeg) + ((1 : Int32) <<< ((x5 - (1 : Int32)) &&& 31)))), (.int x5), (.ref a_q2)])) rfl rfl (hb hby d2_112) (fun T6 h6 sl6 X6 e6 N6 W6 A6 => ?_)
        show Ends p e below s _ _ _ (T6.setTop (mkF m 113 #[.val (.ref a_o0), .val (.int x1), .val (.ref a_q2), .val (.ref a_q69), .val (.int x4), .val (.int x5)] []))
        have A7 := A2.other W6 ne_o0_q2
        have A8 := A1.other W6 ne_q2_q69.symm
        have Z9 : n0 ≤ h6.size := W6.size.symm ▸ Z4
        have K10 := K5.wr W6 (Or.inr fr_q2)
        exact b113 T6 _ _ X6 e6 N6 Z9 K10 (upd cf_q2 (x5).toNatClampNeg ((cf_q2 (x5).toNatClampNeg) + ((1 : Int32) <<< ((x5 - (1 : Int32)) &&& 31)))) cn_q69 (upd cf_q69 (x4).toNatClampNeg (cf_q2 (x5).toNatClampNeg)) x1 x4 (.val (.int x5)) (Or.inr ⟨_, rfl, rfl⟩) a_q2 g_q2 fr_q2 a_q69 g_q69 fr_q69 ne_o0_q2 ne_o0_q69 ne_q2_q69 A7 A6 A8 ok
      have b87 : ∀ (T : State) (L : List Loc) (h : Heap) (X : Stand p l e ({ frames := 0, cells := 2, slots := 18, locals := 0 } : Room) s m #[(.ref a_o0), (.int p1)] below meth c T L 2 18) (eT : T.heap = h) (N : Fr n0 L) (Zs : n0 ≤ h.size) (Kp : Keep h0 h []) (cf_q2 : Nat → Int32) (cn_q69 : Nat) (cf_q69 : Nat → Int32) (x1 : Int32) (x4 : Int32) (x5 : Int32) (a_q2 : Addr) (g_q2 : n0 ≤ a_q2) (fr_q2 : h0.size ≤ a_q2) (a_q69 : Addr) (g_q69 : n0 ≤ a_q69) (fr_q69 : h0.size ≤ a_q69) (ne_o0_q2 : a_o0 ≠ a_q2) (ne_o0_q69 : a_o0 ≠ a_q69) (ne_q2_q69 : a_q2 ≠ a_q69) (A_o0 : Ar Z h a_o0 .byte n_o0 f_o0) (A_q2 : Ar Z h a_q2 .int 13 cf_q2) (A_q69 : Ar Z h a_q69 .int cn_q69 cf_q69) (ok : (O2_87 K (O2_75 K j) n_o0 f_o0 cf_q2 cn_q69 cf_q69 x1 x4 x5)), Ends p e below s 2 18 (Q2 Z a_o0 n_o0 f_o0 h0 n0 (F2_87 K (F2_75 K j) n_o0 f_o0 cf_q2 cn_q69 cf_q69 x1 x4 x5)) (T.setTop (mkF m 87 #[.val (.ref a_o0), .val (.int x1), .val (.ref a_q2), .val (.ref a_q69), .val (.int x4), .val (.int x5)] [])) := by
        intro T L h X eT N Zs Kp cf_q2 cn_q69 cf_q69 x1 x4 x5 a_q2 g_q2 fr_q2 a_q69 g_q69 fr_q69 ne_o0_q2 ne_o0_q69 ne_q2_q69 A_o0 A_q2 A_q69 ok
        obtain ⟨okt, okf⟩ := ok
        refine Ends.step (u' := (T.setTop (mkF m 89 #[.val (.ref a_o0), .val (.int x1), .val (.ref a_q2), .val (.ref a_q69), .val (.int x4), .val (.int x5)] [(.int x5)]))) ?_ (fun _ k => XS.iload X.here hx rfl (hb hby d2_87) rfl k)
        by_cases hc89 : 0 < x5
        · refine Eq.mp (congrArg (fun z => Ends p e below s 2 18 (Q2 Z a_o0 n_o0 f_o0 h0 n0 z) (T.setTop (mkF m 89 #[.val (.ref a_o0), .val (.int x1), .val (.ref a_q2), .val (.ref a_q69), .val (.int x4), .val (.int x5)] [(.int x5)]))) (show (F2_87 K (F2_75 K j) n_o0 f_o0 cf_q2 cn_q69 cf_q69 x1 x4 x5) = (F2_92 K (F2_75 K j) n_o0 f_o0 cf_q2 cn_q69 cf_q69 x1 x4 x5) from (if_pos hc89)).symm) ?_
          refine Ends.step (u' := (T.setTop (mkF m 92 #[.val (.ref a_o0), .val (.int x1), .val (.ref a_q2), .val (.ref a_q69), .val (.int x4), .val (.int x5)] []))) ?_ (fun _ k => XS.ifNo X.here hx rfl (hb hby d2_89) rfl (XT.i0_le_f hc89) k)
          exact b92 T _ _ X eT N Zs Kp cf_q2 cn_q69 cf_q69 x1 x4 x5 a_q2 g_q2 fr_q2 a_q69 g_q69 fr_q69 ne_o0_q2 ne_o0_q69 ne_q2_q69 A_o0 A_q2 A_q69 (okt hc89)
        · refine Eq.mp (congrArg (fun z => Ends p e below s 2 18 (Q2 Z a_o0 n_o0 f_o0 h0 n0 z) (T.setTop (mkF m 89 #[.val (.ref a_o0), .val (.int x1), .val (.ref a_q2), .val (.ref a_q69), .val (.int x4), .val (.int x5)] [(.int x5)]))) (show (F2_87 K (F2_75 K j) n_o0 f_o0 cf_q2 cn_q69 cf_q69 x1 x4 x5) = (F2_113 K (F2_75 K j) n_o0 f_o0 cf_q2 cn_q69 cf_q69 x1 x4) from (if_neg hc89)).symm) ?_
          refine Ends.step (u' := (T.setTop (mkF m 113 #[.val (.ref a_o0), .val (.int x1), .val (.ref a_q2), .val (.ref a_q69), .val (.int x4), .val (.int x5)] []))) ?_ (fun _ k => XS.ifYes X.here hx rfl (pc0 := 89) (pc' := 113) rfl (hb hby d2_89) rfl (XT.i0_le_t hc89) (by decide) (by decide) k)
          exact b113 T _ _ X eT N Zs Kp cf_q2 cn_q69 cf_q69 x1 x4 (.val (.int x5)) (Or.inr ⟨_, rfl, rfl⟩) a_q2 g_q2 fr_q2 a_q69 g_q69 fr_q69 ne_o0_q2 ne_o0_q69 ne_q2_q69 A_o0 A_q2 A_q69 (okf hc89)
      have b81 : ∀ (T : State) (L : List Loc) (h : Heap) (X : Stand p l e ({ frames := 0, cells := 2, slots := 18, locals := 0 } : Room) s m #[(.ref a_o0), (.int p1)] below meth c T L 2 18) (eT : T.heap = h) (N : Fr n0 L) (Zs : n0 ≤ h.size) (Kp : Keep h0 h []) (cf_q2 : Nat → Int32) (cn_q69 : Nat) (cf_q69 : Nat → Int32) (x1 : Int32) (x4 : Int32) (d5 : Slot) (od5 : OneS d5) (a_q2 : Addr) (g_q2 : n0 ≤ a_q2) (fr_q2 : h0.size ≤ a_q2) (a_q69 : Addr) (g_q69 : n0 ≤ a_q69) (fr_q69 : h0.size ≤ a_q69) (ne_o0_q2 : a_o0 ≠ a_q2) (ne_o0_q69 : a_o0 ≠ a_q69) (ne_q2_q69 : a_q2 ≠ a_q69) (A_o0 : Ar Z h a_o0 .byte n_o0 f_o0) (A_q2 : Ar Z h a_q2 .int 13 cf_q2) (A_q69 : Ar Z h a_q69 .int cn_q69 cf_q69) (ok : (O2_81 K (O2_75 K j) n_o0 f_o0 cf_q2 cn_q69 cf_q69 x1 x4)), Ends p e below s 2 18 (Q2 Z a_o0 n_o0 f_o0 h0 n0 (F2_81 K (F2_75 K j) n_o0 f_o0 cf_q2 cn_q69 cf_q69 x1 x4)) (T.setTop (mkF m 81 #[.val (.ref a_o0), .val (.int x1), .val (.ref a_q2), .val (.ref a_q69), .val (.int x4), d5] [])) := by
        intro T L h X eT N Zs Kp cf_q2 cn_q69 cf_q69 x1 x4 d5 od5 a_q2 g_q2 fr_q2 a_q69 g_q69 fr_q69 ne_o0_q2 ne_o0_q69 ne_q2_q69 A_o0 A_q2 A_q69 ok
        obtain ⟨o1, ok⟩ := ok
        refine Ends.step (u' := (T.setTop (mkF m 82 #[.val (.ref a_o0), .val (.int x1), .val (.ref a_q2), .val (.ref a_q69), .val (.int x4), d5] [(.ref a_o0)]))) ?_ (fun _ k => XS.aloadN X.here hx rfl (hb hby d2_81) rfl rfl k)
        refine Ends.step (u' := (T.setTop (mkF m 84 #[.val (.ref a_o0), .val (.int x1), .val (.ref a_q2), .val (.ref a_q69), .val (.int x4), d5] [(.int x4), (.ref a_o0)]))) ?_ (fun _ k => XS.iload X.here hx rfl (hb hby d2_82) rfl k)
        refine Ends.baload X hx hZ eT A_o0 o1 (g := (mkF m 84 #[.val (.ref a_o0), .val (.int x1), .val (.ref a_q2), .val (.ref a_q69), .val (.int x4), d5] [(.int x4), (.ref a_o0)])) rfl rfl (hb hby d2_84) ?_
        show Ends p e below s _ _ _ (T.setTop (mkF m 85 #[.val (.ref a_o0), .val (.int x1), .val (.ref a_q2), .val (.ref a_q69), .val (.int x4), d5] [(.int (f_o0 (x4).toNatClampNeg))]))
        refine Ends.step (u' := (T.setTop (mkF m 87 #[.val (.ref a_o0), .val (.int x1), .val (.ref a_q2), .val (.ref a_q69), .val (.int x4), .val (.int (f_o0 (x4).toNatClampNeg))] []))) ?_ (fun _ k => XS.istoreS X.here hx rfl (hb hby d2_85) rfl rfl od5 k)
        exact b87 T _ _ X eT N Zs Kp cf_q2 cn_q69 cf_q69 x1 x4 (f_o0 (x4).toNatClampNeg) a_q2 g_q2 fr_q2 a_q69 g_q69 fr_q69 ne_o0_q2 ne_o0_q69 ne_q2_q69 A_o0 A_q2 A_q69 ok
      intro T L h X eT N Zs Kp cf_q2 cn_q69 cf_q69 x1 x4 d5 od5 a_q2 g_q2 fr_q2 a_q69 g_q69 fr_q69 ne_o0_q2 ne_o0_q69 ne_q2_q69 A_o0 A_q2 A_q69 ok
      obtain ⟨okt, okf⟩ := ok
      refine Ends.step (u' := (T.setTop (mkF m 77 #[.val (.ref a_o0), .val (.int x1), .val (.ref a_q2), .val (.ref a_q69), .val (.int x4), d5] [(.int x4)]))) ?_ (fun _ k => XS.iload X.here hx rfl (hb hby d2_75) rfl k)
      refine Ends.step (u' := (T.setTop (mkF m 78 #[.val (.ref a_o0), .val (.int x1), .val (.ref a_q2), .val (.ref a_q69), .val (.int x4), d5] [(.int x1), (.int x4)]))) ?_ (fun _ k => XS.iloadN X.here hx rfl (hb hby d2_77) rfl k)
      by_cases hc78 : x4 < x1
      · refine Eq.mp (congrArg (fun z => Ends p e below s 2 18 (Q2 Z a_o0 n_o0 f_o0 h0 n0 z) (T.setTop (mkF m 78 #[.val (.ref a_o0), .val (.int x1), .val (.ref a_q2), .val (.ref a_q69), .val (.int x4), d5] [(.int x1), (.int x4)]))) (show (F2_75 K (j + 1) n_o0 f_o0 cf_q2 cn_q69 cf_q69 x1 x4) = (F2_81 K (F2_75 K j) n_o0 f_o0 cf_q2 cn_q69 cf_q69 x1 x4) from (if_pos hc78)).symm) ?_
        refine Ends.step (u' := (T.setTop (mkF m 81 #[.val (.ref a_o0), .val (.int x1), .val (.ref a_q2), .val (.ref a_q69), .val (.int x4), d5] []))) ?_ (fun _ k => XS.icmpNo X.here hx rfl (hb hby d2_78) rfl (XT.ii_ge_f hc78) k)
        exact b81 T _ _ X eT N Zs Kp cf_q2 cn_q69 cf_q69 x1 x4 (d5) od5 a_q2 g_q2 fr_q2 a_q69 g_q69 fr_q69 ne_o0_q2 ne_o0_q69 ne_q2_q69 A_o0 A_q2 A_q69 (okt hc78)
      · refine Eq.mp (congrArg (fun z => Ends p e below s 2 18 (Q2 Z a_o0 n_o0 f_o0 h0 n0 z) (T.setTop (mkF m 78 #[.val (.ref a_o0), .val (.int x1), .val (.ref a_q2), .val (.ref a_q69), .val (.int x4), d5] [(.int x1), (.int x4)]))) (show (F2_75 K (j + 1) n_o0 f_o0 cf_q2 cn_q69 cf_q69 x1 x4) = (F2_119 K n_o0 f_o0 cn_q69 cf_q69) from (if_neg hc78)).symm) ?_
        refine Ends.step (u' := (T.setTop (mkF m 119 #[.val (.ref a_o0), .val (.int x1), .val (.ref a_q2), .val (.ref a_q69), .val (.int x4), d5] []))) ?_ (fun _ k => XS.icmpYes X.here hx rfl (pc0 := 78) (pc' := 119) rfl (hb hby d2_78) rfl (XT.ii_ge_t hc78) (by decide) (by decide) k)
        exact b119 T _ _ X eT N Zs Kp cn_q69 cf_q69 (.val (.ref a_o0)) (Or.inr ⟨_, rfl, rfl⟩) (.val (.int x1)) (Or.inr ⟨_, rfl, rfl⟩) (.val (.ref a_q2)) (Or.inr ⟨_, rfl, rfl⟩) (.val (.int x4)) (Or.inr ⟨_, rfl, rfl⟩) (d5) od5 a_q69 g_q69 fr_q69 ne_o0_q69 A_o0 A_q69
  have b68 : ∀ (T : State) (L : List Loc) (h : Heap) (X : Stand p l e ({ frames := 0, cells := 2, slots := 18, locals := 0 } : Room) s m #[(.ref a_o0), (.int p1)] below meth c T L 1 13) (eT : T.heap = h) (N : Fr n0 L) (Zs : n0 ≤ h.size) (Kp : Keep h0 h []) (cf_q2 : Nat → Int32) (x1 : Int32) (d3 : Slot) (od3 : OneS d3) (d4 : Slot) (od4 : OneS d4) (a_q2 : Addr) (g_q2 : n0 ≤ a_q2) (fr_q2 : h0.size ≤ a_q2) (ne_o0_q2 : a_o0 ≠ a_q2) (A_o0 : Ar Z h a_o0 .byte n_o0 f_o0) (A_q2 : Ar Z h a_q2 .int 13 cf_q2) (ok : (O2_68 K n_o0 f_o0 cf_q2 x1)), Ends p e below s 2 18 (Q2 Z a_o0 n_o0 f_o0 h0 n0 (F2_68 K n_o0 f_o0 cf_q2 x1)) (T.setTop (mkF m 68 #[.val (.ref a_o0), .val (.int x1), .val (.ref a_q2), d3, d4, .unset] [])) := by
    intro T L h X eT N Zs Kp cf_q2 x1 d3 od3 d4 od4 a_q2 g_q2 fr_q2 ne_o0_q2 A_o0 A_q2 ok
    obtain ⟨o1, o2, ok⟩ := ok
    refine Ends.step (u' := (T.setTop (mkF m 69 #[.val (.ref a_o0), .val (.int x1), .val (.ref a_q2), d3, d4, .unset] [(.int x1)]))) ?_ (fun _ k => XS.iloadN X.here hx rfl (hb hby d2_68) rfl k)
    refine Ends.newA X hx hZ (hw _ (List.mem_of_getElem? (i := 6) rfl)) eT (g := (mkF m 69 #[.val (.ref a_o0), .val (.int x1), .val (.ref a_q2), d3, d4, .unset] [(.int x1)])) rfl (hb hby d2_69) rfl rfl o1 5 o2 (by decide) (by decide) (by decide) (fun T11 h11 a11 X11 e11 E11 q11 A11 => ?_)
    have ne12 : a_o0 ≠ a11 := q11 ▸ Nat.ne_of_lt A_o0.lt
    have A13 := A_o0.ext E11
    have ne14 : a_q2 ≠ a11 := q11 ▸ Nat.ne_of_lt A_q2.lt
    have A15 := A_q2.ext E11
    have g16 : n0 ≤ a11 := q11 ▸ Zs
    have fr17 : h0.size ≤ a11 := q11 ▸ Kp.1
    have K18 := Kp.ext E11
    have Z19 := Nat.le_trans Zs E11.1
    show Ends p e below s _ _ _ (T11.setTop (mkF m 71 #[.val (.ref a_o0), .val (.int x1), .val (.ref a_q2), d3, d4, .unset] [(.ref a11)]))
    refine Ends.step (u' := (T11.setTop (mkF m 72 #[.val (.ref a_o0), .val (.int x1), .val (.ref a_q2), .val (.ref a11), d4, .unset] []))) ?_ (fun _ k => XT.astoreNS X11.here hx rfl (hb hby d2_71) rfl rfl rfl rfl od3 k)
    refine Ends.step (u' := (T11.setTop (mkF m 73 #[.val (.ref a_o0), .val (.int x1), .val (.ref a_q2), .val (.ref a11), d4, .unset] [(.int (0 : Int32))]))) ?_ (fun _ k => XT.iconstV X11.here hx rfl (0 : Int32) (hb hby d2_72) rfl k)
    refine Ends.step (u' := (T11.setTop (mkF m 75 #[.val (.ref a_o0), .val (.int x1), .val (.ref a_q2), .val (.ref a11), .val (.int (0 : Int32)), .unset] []))) ?_ (fun _ k => XS.istoreS X11.here hx rfl (hb hby d2_73) rfl rfl od4 k)
    exact b75 K T11 _ _ X11 e11 N Z19 K18 cf_q2 (x1).toNatClampNeg (fun _ => 0) x1 (0 : Int32) (.unset) (Or.inl rfl) a_q2 g_q2 fr_q2 a11 g16 fr17 ne_o0_q2 ne12 ne14 A13 A15 A11 ok
  have b45 : ∀ (j : Nat) (T : State) (L : List Loc) (h : Heap) (X : Stand p l e ({ frames := 0, cells := 2, slots := 18, locals := 0 } : Room) s m #[(.ref a_o0), (.int p1)] below meth c T L 1 13) (eT : T.heap = h) (N : Fr n0 L) (Zs : n0 ≤ h.size) (Kp : Keep h0 h []) (cf_q2 : Nat → Int32) (x1 : Int32) (x3 : Int32) (d4 : Slot) (od4 : OneS d4) (a_q2 : Addr) (g_q2 : n0 ≤ a_q2) (fr_q2 : h0.size ≤ a_q2) (ne_o0_q2 : a_o0 ≠ a_q2) (A_o0 : Ar Z h a_o0 .byte n_o0 f_o0) (A_q2 : Ar Z h a_q2 .int 13 cf_q2) (ok : (O2_45 K j n_o0 f_o0 cf_q2 x1 x3)), Ends p e below s 2 18 (Q2 Z a_o0 n_o0 f_o0 h0 n0 (F2_45 K j n_o0 f_o0 cf_q2 x1 x3)) (T.setTop (mkF m 45 #[.val (.ref a_o0), .val (.int x1), .val (.ref a_q2), .val (.int x3), d4, .unset] [])) := by
    intro j
    induction j with
    | zero => intro T L h X eT N Zs Kp cf_q2 x1 x3 d4 od4 a_q2 g_q2 fr_q2 ne_o0_q2 A_o0 A_q2 ok; exact ok.elim
    | succ j ih =>
      have b51 : ∀ (T : State) (L : List Loc) (h : Heap) (X : Stand p l e ({ frames := 0, cells := 2, slots := 18, locals := 0 } : Room) s m #[(.ref a_o0), (.int p1)] below meth c T L 1 13) (eT : T.heap = h) (N : Fr n0 L) (Zs : n0 ≤ h.size) (Kp : Keep h0 h []) (cf_q2 : Nat → Int32) (x1 : Int32) (x3 : Int32) (d4 : Slot) (od4 : OneS d4) (a_q2 : Addr) (g_q2 : n0 ≤ a_q2) (fr_q2 : h0.size ≤ a_q2) (ne_o0_q2 : a_o0 ≠ a_q2) (A_o0 : Ar Z h a_o0 .byte n_o0 f_o0) (A_q2 : Ar Z h a_q2 .int 13 cf_q2) (ok : (O2_51 K (O2_45 K j) n_o0 f_o0 cf_q2 x1 x3)), Ends p e below s 2 18 (Q2 Z a_o0 n_o0 f_o0 h0 n0 (F2_51 K (F2_45 K j) n_o0 f_o0 cf_q2 x1 x3)) (T.setTop (mkF m 51 #[.val (.ref a_o0), .val (.int x1), .val (.ref a_q2), .val (.int x3), d4, .unset] [])) := by
        intro T L h X eT N Zs Kp cf_q2 x1 x3 d4 od4 a_q2 g_q2 fr_q2 ne_o0_q2 A_o0 A_q2 ok
        obtain ⟨o1, o2, o3, ok⟩ := ok
        refine Ends.step (u' := (T.setTop (mkF m 52 #[.val (.ref a_o0), .val (.int x1), .val (.ref a_q2), .val (.int x3), d4, .unset] [(.ref a_q2)]))) ?_ (fun _ k => XS.aloadN X.here hx rfl (hb hby d2_51) rfl rfl k)
        refine Ends.step (u' := (T.setTop (mkF m 53 #[.val (.ref a_o0), .val (.int x1), .val (.ref a_q2), .val (.int x3), d4, .unset] [(.int x3), (.ref a_q2)]))) ?_ (fun _ k => XS.iloadN X.here hx rfl (hb hby d2_52) rfl k)
        refine Ends.step (u' := (T.setTop (mkF m 54 #[.val (.ref a_o0), .val (.int x1), .val (.ref a_q2), .val (.int x3), d4, .unset] [(.int x3), (.ref a_q2), (.int x3), (.ref a_q2)]))) ?_ (fun _ k => XT.dup2 X.here hx rfl (hb hby d2_53) rfl rfl rfl k)
        refine Ends.iaload X hx hZ eT A_q2 o1 (g := (mkF m 54 #[.val (.ref a_o0), .val (.int x1), .val (.ref a_q2), .val (.int x3), d4, .unset] [(.int x3), (.ref a_q2), (.int x3), (.ref a_q2)])) rfl rfl (hb hby d2_54) ?_
        show Ends p e below s _ _ _ (T.setTop (mkF m 55 #[.val (.ref a_o0), .val (.int x1), .val (.ref a_q2), .val (.int x3), d4, .unset] [(.int (cf_q2 (x3).toNatClampNeg)), (.int x3), (.ref a_q2)]))
        refine Ends.step (u' := (T.setTop (mkF m 56 #[.val (.ref a_o0), .val (.int x1), .val (.ref a_q2), .val (.int x3), d4, .unset] [(.ref a_q2), (.int (cf_q2 (x3).toNatClampNeg)), (.int x3), (.ref a_q2)]))) ?_ (fun _ k => XS.aloadN X.here hx rfl (hb hby d2_55) rfl rfl k)
        refine Ends.step (u' := (T.setTop (mkF m 57 #[.val (.ref a_o0), .val (.int x1), .val (.ref a_q2), .val (.int x3), d4, .unset] [(.int x3), (.ref a_q2), (.int (cf_q2 (x3).toNatClampNeg)), (.int x3), (.ref a_q2)]))) ?_ (fun _ k => XS.iloadN X.here hx rfl (hb hby d2_56) rfl k)
        refine Ends.step (u' := (T.setTop (mkF m 58 #[.val (.ref a_o0), .val (.int x1), .val (.ref a_q2), .val (.int x3), d4, .unset] [(.int (1 : Int32)), (.int x3), (.ref a_q2), (.int (cf_q2 (x3).toNatClampNeg)), (.int x3), (.ref a_q2)]))) ?_ (fun _ k => XT.iconstV X.here hx rfl (1 : Int32) (hb hby d2_57) rfl k)
        refine Ends.step (u' := (T.setTop (mkF m 59 #[.val (.ref a_o0), .val (.int x1), .val (.ref a_q2), .val (.int x3), d4, .unset] [(.int (x3 - (1 : Int32))), (.ref a_q2), (.int (cf_q2 (x3).toNatClampNeg)), (.int x3), (.ref a_q2)]))) ?_ (fun _ k => XS.isub X.here hx rfl (hb hby d2_58) rfl k)
        refine Ends.iaload X hx hZ eT A_q2 o2 (g := (mkF m 59 #[.val (.ref a_o0), .val (.int x1), .val (.ref a_q2), .val (.int x3), d4, .unset] [(.int (x3 - (1 : Int32))), (.ref a_q2), (.int (cf_q2 (x3).toNatClampNeg)), (.int x3), (.ref a_q2)])) rfl rfl (hb hby d2_59) ?_
        show Ends p e below s _ _ _ (T.setTop (mkF m 60 #[.val (.ref a_o0), .val (.int x1), .val (.ref a_q2), .val (.int x3), d4, .unset] [(.int (cf_q2 ((x3 - (1 : Int32))).toNatClampNeg)), (.int (cf_q2 (x3).toNatClampNeg)), (.int x3), (.ref a_q2)]))
        refine Ends.step (u' := (T.setTop (mkF m 61 #[.val (.ref a_o0), .val (.int x1), .val (.ref a_q2), .val (.int x3), d4, .unset] [(.int ((cf_q2 (x3).toNatClampNeg) + (cf_q2 ((x3 - (1 : Int32))).toNatClampNeg))), (.int x3), (.ref a_q2)]))) ?_ (fun _ k => XS.iadd X.here hx rfl (hb hby d2_60) rfl k)
        refine Ends.iastore X hx hZ eT A_q2 o3 N g_q2 (g := (mkF m 61 #[.val (.ref a_o0), .val (.int x1), .val (.ref a_q2), .val (.int x3), d4, .unset] [(.int ((cf_q2 (x3).toNatClampNeg) + (cf_q2 ((x3 - (1 : Int32))).toNatClampNeg))), (.int x3), (.ref a_q2)])) rfl rfl (hb hby d2_61) (fun T20 h20 sl20 X20 e20 N20 W20 A20 => ?_)
        show Ends p e below s _ _ _ (T20.setTop (mkF m 62 #[.val (.ref a_o0), .val (.int x1), .val (.ref a_q2), .val (.int x3), d4, .unset] []))
        have A21 := A_o0.other W20 ne_o0_q2
        have Z22 : n0 ≤ h20.size := W20.size.symm ▸ Zs
        have K23 := Kp.wr W20 (Or.inr fr_q2)
        refine Ends.step (u' := (T20.setTop (mkF m 65 #[.val (.ref a_o0), .val (.int x1), .val (.ref a_q2), .val (.int (x3 + (1 : Int32))), d4, .unset] []))) ?_ (fun _ k => XT.iincV X20.here hx rfl (1 : Int32) (hb hby d2_62) rfl rfl (l' := #[.val (.ref a_o0), .val (.int x1), .val (.ref a_q2), .val (.int (x3 + (1 : Int32))), d4, .unset]) rfl k)
        refine Ends.step (u' := (T20.setTop (mkF m 45 #[.val (.ref a_o0), .val (.int x1), .val (.ref a_q2), .val (.int (x3 + (1 : Int32))), d4, .unset] []))) ?_ (fun _ k => XS.goto X20.here hx rfl (pc0 := 65) (pc' := 45) rfl (hb hby d2_65) (by decide) (by decide) k)
        exact ih T20 _ _ X20 e20 N20 Z22 K23 (upd cf_q2 (x3).toNatClampNeg ((cf_q2 (x3).toNatClampNeg) + (cf_q2 ((x3 - (1 : Int32))).toNatClampNeg))) x1 (x3 + (1 : Int32)) (d4) od4 a_q2 g_q2 fr_q2 ne_o0_q2 A21 A20 ok
      intro T L h X eT N Zs Kp cf_q2 x1 x3 d4 od4 a_q2 g_q2 fr_q2 ne_o0_q2 A_o0 A_q2 ok
      obtain ⟨okt, okf⟩ := ok
      refine Ends.step (u' := (T.setTop (mkF m 46 #[.val (.ref a_o0), .val (.int x1), .val (.ref a_q2), .val (.int x3), d4, .unset] [(.int x3)]))) ?_ (fun _ k => XS.iloadN X.here hx rfl (hb hby d2_45) rfl k)
      refine Ends.step (u' := (T.setTop (mkF m 47 #[.val (.ref a_o0), .val (.int x1), .val (.ref a_q2), .val (.int x3), d4, .unset] [(.ref a_q2), (.int x3)]))) ?_ (fun _ k => XS.aloadN X.here hx rfl (hb hby d2_46) rfl rfl k)
      refine Ends.arrlen X hx hZ eT A_q2 (g := (mkF m 47 #[.val (.ref a_o0), .val (.int x1), .val (.ref a_q2), .val (.int x3), d4, .unset] [(.ref a_q2), (.int x3)])) rfl rfl (hb hby d2_47) ?_
      show Ends p e below s _ _ _ (T.setTop (mkF m 48 #[.val (.ref a_o0), .val (.int x1), .val (.ref a_q2), .val (.int x3), d4, .unset] [(.int (Nat.toInt32 13)), (.int x3)]))
      by_cases hc48 : x3 < (Nat.toInt32 13)
      · refine Eq.mp (congrArg (fun z => Ends p e below s 2 18 (Q2 Z a_o0 n_o0 f_o0 h0 n0 z) (T.setTop (mkF m 48 #[.val (.ref a_o0), .val (.int x1), .val (.ref a_q2), .val (.int x3), d4, .unset] [(.int (Nat.toInt32 13)), (.int x3)]))) (show (F2_45 K (j + 1) n_o0 f_o0 cf_q2 x1 x3) = (F2_51 K (F2_45 K j) n_o0 f_o0 cf_q2 x1 x3) from (if_pos hc48)).symm) ?_
        refine Ends.step (u' := (T.setTop (mkF m 51 #[.val (.ref a_o0), .val (.int x1), .val (.ref a_q2), .val (.int x3), d4, .unset] []))) ?_ (fun _ k => XS.icmpNo X.here hx rfl (hb hby d2_48) rfl (XT.ii_ge_f hc48) k)
        exact b51 T _ _ X eT N Zs Kp cf_q2 x1 x3 (d4) od4 a_q2 g_q2 fr_q2 ne_o0_q2 A_o0 A_q2 (okt hc48)
      · refine Eq.mp (congrArg (fun z => Ends p e below s 2 18 (Q2 Z a_o0 n_o0 f_o0 h0 n0 z) (T.setTop (mkF m 48 #[.val (.ref a_o0), .val (.int x1), .val (.ref a_q2), .val (.int x3), d4, .unset] [(.int (Nat.toInt32 13)), (.int x3)]))) (show (F2_45 K (j + 1) n_o0 f_o0 cf_q2 x1 x3) = (F2_68 K n_o0 f_o0 cf_q2 x1) from (if_neg hc48)).symm) ?_
        refine Ends.step (u' := (T.setTop (mkF m 68 #[.val (.ref a_o0), .val (.int x1), .val (.ref a_q2), .val (.int x3), d4, .unset] []))) ?_ (fun _ k => XS.icmpYes X.here hx rfl (pc0 := 48) (pc' := 68) rfl (hb hby d2_48) rfl (XT.ii_ge_t hc48) (by decide) (by decide) k)
        exact b68 T _ _ X eT N Zs Kp cf_q2 x1 (.val (.int x3)) (Or.inr ⟨_, rfl, rfl⟩) (d4) od4 a_q2 g_q2 fr_q2 ne_o0_q2 A_o0 A_q2 (okf hc48)
  have b43 : ∀ (T : State) (L : List Loc) (h : Heap) (X : Stand p l e ({ frames := 0, cells := 2, slots := 18, locals := 0 } : Room) s m #[(.ref a_o0), (.int p1)] below meth c T L 1 13) (eT : T.heap = h) (N : Fr n0 L) (Zs : n0 ≤ h.size) (Kp : Keep h0 h []) (cf_q2 : Nat → Int32) (x1 : Int32) (d3 : Slot) (od3 : OneS d3) (d4 : Slot) (od4 : OneS d4) (a_q2 : Addr) (g_q2 : n0 ≤ a_q2) (fr_q2 : h0.size ≤ a_q2) (ne_o0_q2 : a_o0 ≠ a_q2) (A_o0 : Ar Z h a_o0 .byte n_o0 f_o0) (A_q2 : Ar Z h a_q2 .int 13 cf_q2) (ok : (O2_43 K n_o0 f_o0 cf_q2 x1)), Ends p e below s 2 18 (Q2 Z a_o0 n_o0 f_o0 h0 n0 (F2_43 K n_o0 f_o0 cf_q2 x1)) (T.setTop (mkF m 43 #[.val (.ref a_o0), .val (.int x1), .val (.ref a_q2), d3, d4, .unset] [])) := by
    intro T L h X eT N Zs Kp cf_q2 x1 d3 od3 d4 od4 a_q2 g_q2 fr_q2 ne_o0_q2 A_o0 A_q2 ok
    refine Ends.step (u' := (T.setTop (mkF m 44 #[.val (.ref a_o0), .val (.int x1), .val (.ref a_q2), d3, d4, .unset] [(.int (2 : Int32))]))) ?_ (fun _ k => XT.iconstV X.here hx rfl (2 : Int32) (hb hby d2_43) rfl k)
    refine Ends.step (u' := (T.setTop (mkF m 45 #[.val (.ref a_o0), .val (.int x1), .val (.ref a_q2), .val (.int (2 : Int32)), d4, .unset] []))) ?_ (fun _ k => XS.istoreNS X.here hx rfl (hb hby d2_44) rfl rfl od3 k)
    exact b45 K T _ _ X eT N Zs Kp cf_q2 x1 (2 : Int32) (d4) od4 a_q2 g_q2 fr_q2 ne_o0_q2 A_o0 A_q2 ok
  have b7 : ∀ (j : Nat) (T : State) (L : List Loc) (h : Heap) (X : Stand p l e ({ frames := 0, cells := 2, slots := 18, locals := 0 } : Room) s m #[(.ref a_o0), (.int p1)] below meth c T L 1 13) (eT : T.heap = h) (N : Fr n0 L) (Zs : n0 ≤ h.size) (Kp : Keep h0 h []) (cf_q2 : Nat → Int32) (x1 : Int32) (x3 : Int32) (d4 : Slot) (od4 : OneS d4) (a_q2 : Addr) (g_q2 : n0 ≤ a_q2) (fr_q2 : h0.size ≤ a_q2) (ne_o0_q2 : a_o0 ≠ a_q2) (A_o0 : Ar Z h a_o0 .byte n_o0 f_o0) (A_q2 : Ar Z h a_q2 .int 13 cf_q2) (ok : (O2_7 K j n_o0 f_o0 cf_q2 x1 x3)), Ends p e below s 2 18 (Q2 Z a_o0 n_o0 f_o0 h0 n0 (F2_7 K j n_o0 f_o0 cf_q2 x1 x3)) (T.setTop (mkF m 7 #[.val (.ref a_o0), .val (.int x1), .val (.ref a_q2), .val (.int x3), d4, .unset] [])) := by
    intro j
    induction j with
    | zero => intro T L h X eT N Zs Kp cf_q2 x1 x3 d4 od4 a_q2 g_q2 fr_q2 ne_o0_q2 A_o0 A_q2 ok; exact ok.elim
    | succ j ih =>
      have b37 : ∀ (T : State) (L : List Loc) (h : Heap) (X : Stand p l e ({ frames := 0, cells := 2, slots := 18, locals := 0 } : Room) s m #[(.ref a_o0), (.int p1)] below meth c T L 1 13) (eT : T.heap = h) (N : Fr n0 L) (Zs : n0 ≤ h.size) (Kp : Keep h0 h []) (cf_q2 : Nat → Int32) (x1 : Int32) (x3 : Int32) (d4 : Slot) (od4 : OneS d4) (a_q2 : Addr) (g_q2 : n0 ≤ a_q2) (fr_q2 : h0.size ≤ a_q2) (ne_o0_q2 : a_o0 ≠ a_q2) (A_o0 : Ar Z h a_o0 .byte n_o0 f_o0) (A_q2 : Ar Z h a_q2 .int 13 cf_q2) (ok : (O2_37 K (O2_7 K j) n_o0 f_o0 cf_q2 x1 x3)), Ends p e below s 2 18 (Q2 Z a_o0 n_o0 f_o0 h0 n0 (F2_37 K (F2_7 K j) n_o0 f_o0 cf_q2 x1 x3)) (T.setTop (mkF m 37 #[.val (.ref a_o0), .val (.int x1), .val (.ref a_q2), .val (.int x3), d4, .unset] [])) := by
        intro T L h X eT N Zs Kp cf_q2 x1 x3 d4 od4 a_q2 g_q2 fr_q2 ne_o0_q2 A_o0 A_q2 ok
        refine Ends.step (u' := (T.setTop (mkF m 40 #[.val (.ref a_o0), .val (.int x1), .val (.ref a_q2), .val (.int (x3 + (1 : Int32))), d4, .unset] []))) ?_ (fun _ k => XT.iincV X.here hx rfl (1 : Int32) (hb hby d2_37) rfl rfl (l' := #[.val (.ref a_o0), .val (.int x1), .val (.ref a_q2), .val (.int (x3 + (1 : Int32))), d4, .unset]) rfl k)
        refine Ends.step (u' := (T.setTop (mkF m 7 #[.val (.ref a_o0), .val (.int x1), .val (.ref a_q2), .val (.int (x3 + (1 : Int32))), d4, .unset] []))) ?_ (fun _ k => XS.goto X.here hx rfl (pc0 := 40) (pc' := 7) rfl (hb hby d2_40) (by decide) (by decide) k)
        exact ih T _ _ X eT N Zs Kp cf_q2 x1 (x3 + (1 : Int32)) (d4) od4 a_q2 g_q2 fr_q2 ne_o0_q2 A_o0 A_q2 ok
      have b22 : ∀ (T : State) (L : List Loc) (h : Heap) (X : Stand p l e ({ frames := 0, cells := 2, slots := 18, locals := 0 } : Room) s m #[(.ref a_o0), (.int p1)] below meth c T L 1 13) (eT : T.heap = h) (N : Fr n0 L) (Zs : n0 ≤ h.size) (Kp : Keep h0 h []) (cf_q2 : Nat → Int32) (x1 : Int32) (x3 : Int32) (x4 : Int32) (a_q2 : Addr) (g_q2 : n0 ≤ a_q2) (fr_q2 : h0.size ≤ a_q2) (ne_o0_q2 : a_o0 ≠ a_q2) (A_o0 : Ar Z h a_o0 .byte n_o0 f_o0) (A_q2 : Ar Z h a_q2 .int 13 cf_q2) (ok : (O2_22 K (O2_7 K j) n_o0 f_o0 cf_q2 x1 x3 x4)), Ends p e below s 2 18 (Q2 Z a_o0 n_o0 f_o0 h0 n0 (F2_22 K (F2_7 K j) n_o0 f_o0 cf_q2 x1 x3 x4)) (T.setTop (mkF m 22 #[.val (.ref a_o0), .val (.int x1), .val (.ref a_q2), .val (.int x3), .val (.int x4), .unset] [])) := by
        intro T L h X eT N Zs Kp cf_q2 x1 x3 x4 a_q2 g_q2 fr_q2 ne_o0_q2 A_o0 A_q2 ok
        obtain ⟨o1, o2, ok⟩ := ok
        refine Ends.step (u' := (T.setTop (mkF m 23 #[.val (.ref a_o0), .val (.int x1), .val (.ref a_q2), .val (.int x3), .val (.int x4), .unset] [(.ref a_q2)]))) ?_ (fun _ k => XS.aloadN X.here hx rfl (hb hby d2_22) rfl rfl k)
        refine Ends.step (u' := (T.setTop (mkF m 25 #[.val (.ref a_o0), .val (.int x1), .val (.ref a_q2), .val (.int x3), .val (.int x4), .unset] [(.int x4), (.ref a_q2)]))) ?_ (fun _ k => XS.iload X.here hx rfl (hb hby d2_23) rfl k)
        refine Ends.step (u' := (T.setTop (mkF m 26 #[.val (.ref a_o0), .val (.int x1), .val (.ref a_q2), .val (.int x3), .val (.int x4), .unset] [(.int (1 : Int32)), (.int x4), (.ref a_q2)]))) ?_ (fun _ k => XT.iconstV X.here hx rfl (1 : Int32) (hb hby d2_25) rfl k)
        refine Ends.step (u' := (T.setTop (mkF m 27 #[.val (.ref a_o0), .val (.int x1), .val (.ref a_q2), .val (.int x3), .val (.int x4), .unset] [(.int (x4 + (1 : Int32))), (.ref a_q2)]))) ?_ (fun _ k => XS.iadd X.here hx rfl (hb hby d2_26) rfl k)
        refine Ends.step (u' := (T.setTop (mkF m 28 #[.val (.ref a_o0), .val (.int x1), .val (.ref a_q2), .val (.int x3), .val (.int x4), .unset] [(.int (x4 + (1 : Int32))), (.ref a_q2), (.int (x4 + (1 : Int32))), (.ref a_q2)]))) ?_ (fun _ k => XT.dup2 X.here hx rfl (hb hby d2_27) rfl rfl rfl k)
        refine Ends.iaload X hx hZ eT A_q2 o1 (g := (mkF m 28 #[.val (.ref a_o0), .val (.int x1), .val (.ref a_q2), .val (.int x3), .val (.int x4), .unset] [(.int (x4 + (1 : Int32))), (.ref a_q2), (.int (x4 + (1 : Int32))), (.ref a_q2)])) rfl rfl (hb hby d2_28) ?_
        show Ends p e below s _ _ _ (T.setTop (mkF m 29 #[.val (.ref a_o0), .val (.int x1), .val (.ref a_q2), .val (.int x3), .val (.int x4), .unset] [(.int (cf_q2 ((x4 + (1 : Int32))).toNatClampNeg)), (.int (x4 + (1 : Int32))), (.ref a_q2)]))
        refine Ends.step (u' := (T.setTop (mkF m 30 #[.val (.ref a_o0), .val (.int x1), .val (.ref a_q2), .val (.int x3), .val (.int x4), .unset] [(.int (1 : Int32)), (.int (cf_q2 ((x4 + (1 : Int32))).toNatClampNeg)), (.int (x4 + (1 : Int32))), (.ref a_q2)]))) ?_ (fun _ k => XT.iconstV X.here hx rfl (1 : Int32) (hb hby d2_29) rfl k)
        refine Ends.step (u' := (T.setTop (mkF m 32 #[.val (.ref a_o0), .val (.int x1), .val (.ref a_q2), .val (.int x3), .val (.int x4), .unset] [(.int x4), (.int (1 : Int32)), (.int (cf_q2 ((x4 + (1 : Int32))).toNatClampNeg)), (.int (x4 + (1 : Int32))), (.ref a_q2)]))) ?_ (fun _ k => XS.iload X.here hx rfl (hb hby d2_30) rfl k)
        refine Ends.step (u' := (T.setTop (mkF m 33 #[.val (.ref a_o0), .val (.int x1), .val (.ref a_q2), .val (.int x3), .val (.int x4), .unset] [(.int (1 : Int32)), (.int x4), (.int (1 : Int32)), (.int (cf_q2 ((x4 + (1 : Int32))).toNatClampNeg)), (.int (x4 + (1 : Int32))), (.ref a_q2)]))) ?_ (fun _ k => XT.iconstV X.here hx rfl (1 : Int32) (hb hby d2_32) rfl k)
        refine Ends.step (u' := (T.setTop (mkF m 34 #[.val (.ref a_o0), .val (.int x1), .val (.ref a_q2), .val (.int x3), .val (.int x4), .unset] [(.int (x4 - (1 : Int32))), (.int (1 : Int32)), (.int (cf_q2 ((x4 + (1 : Int32))).toNatClampNeg)), (.int (x4 + (1 : Int32))), (.ref a_q2)]))) ?_ (fun _ k => XS.isub X.here hx rfl (hb hby d2_33) rfl k)
        refine Ends.step (u' := (T.setTop (mkF m 35 #[.val (.ref a_o0), .val (.int x1), .val (.ref a_q2), .val (.int x3), .val (.int x4), .unset] [(.int ((1 : Int32) <<< ((x4 - (1 : Int32)) &&& 31))), (.int (cf_q2 ((x4 + (1 : Int32))).toNatClampNeg)), (.int (x4 + (1 : Int32))), (.ref a_q2)]))) ?_ (fun _ k => XT.ishl X.here hx rfl (hb hby d2_34) rfl k)
        refine Ends.step (u' := (T.setTop (mkF m 36 #[.val (.ref a_o0), .val (.int x1), .val (.ref a_q2), .val (.int x3), .val (.int x4), .unset] [(.int ((cf_q2 ((x4 + (1 : Int32))).toNatClampNeg) + ((1 : Int32) <<< ((x4 - (1 : Int32)) &&& 31)))), (.int (x4 + (1 : Int32))), (.ref a_q2)]))) ?_ (fun _ k => XS.iadd X.here hx rfl (hb hby d2_35) rfl k)
        refine Ends.iastore X hx hZ eT A_q2 o2 N g_q2 (g := (mkF m 36 #[.val (.ref a_o0), .val (.int x1), .val (.ref a_q2), .val (.int x3), .val (.int x4), .unset] [(.int ((cf_q2 ((x4 + (1 : Int32))).toNatClampNeg) + ((1 : Int32) <<< ((x4 - (1 : Int32)) &&& 31)))), (.int (x4 + (1 : Int32))), (.ref a_q2)])) rfl rfl (hb hby d2_36) (fun T24 h24 sl24 X24 e24 N24 W24 A24 => ?_)
        show Ends p e below s _ _ _ (T24.setTop (mkF m 37 #[.val (.ref a_o0), .val (.int x1), .val (.ref a_q2), .val (.int x3), .val (.int x4), .unset] []))
        have A25 := A_o0.other W24 ne_o0_q2
        have Z26 : n0 ≤ h24.size := W24.size.symm ▸ Zs
        have K27 := Kp.wr W24 (Or.inr fr_q2)
        exact b37 T24 _ _ X24 e24 N24 Z26 K27 (upd cf_q2 ((x4 + (1 : Int32))).toNatClampNeg ((cf_q2 ((x4 + (1 : Int32))).toNatClampNeg) + ((1 : Int32) <<< ((x4 - (1 : Int32)) &&& 31)))) x1 x3 (.val (.int x4)) (Or.inr ⟨_, rfl, rfl⟩) a_q2 g_q2 fr_q2 ne_o0_q2 A25 A24 ok
      have b17 : ∀ (T : State) (L : List Loc) (h : Heap) (X : Stand p l e ({ frames := 0, cells := 2, slots := 18, locals := 0 } : Room) s m #[(.ref a_o0), (.int p1)] below meth c T L 1 13) (eT : T.heap = h) (N : Fr n0 L) (Zs : n0 ≤ h.size) (Kp : Keep h0 h []) (cf_q2 : Nat → Int32) (x1 : Int32) (x3 : Int32) (x4 : Int32) (a_q2 : Addr) (g_q2 : n0 ≤ a_q2) (fr_q2 : h0.size ≤ a_q2) (ne_o0_q2 : a_o0 ≠ a_q2) (A_o0 : Ar Z h a_o0 .byte n_o0 f_o0) (A_q2 : Ar Z h a_q2 .int 13 cf_q2) (ok : (O2_17 K (O2_7 K j) n_o0 f_o0 cf_q2 x1 x3 x4)), Ends p e below s 2 18 (Q2 Z a_o0 n_o0 f_o0 h0 n0 (F2_17 K (F2_7 K j) n_o0 f_o0 cf_q2 x1 x3 x4)) (T.setTop (mkF m 17 #[.val (.ref a_o0), .val (.int x1), .val (.ref a_q2), .val (.int x3), .val (.int x4), .unset] [])) := by
        intro T L h X eT N Zs Kp cf_q2 x1 x3 x4 a_q2 g_q2 fr_q2 ne_o0_q2 A_o0 A_q2 ok
        obtain ⟨okt, okf⟩ := ok
        refine Ends.step (u' := (T.setTop (mkF m 19 #[.val (.ref a_o0), .val (.int x1), .val (.ref a_q2), .val (.int x3), .val (.int x4), .unset] [(.int x4)]))) ?_ (fun _ k => XS.iload X.here hx rfl (hb hby d2_17) rfl k)
        by_cases hc19 : 0 < x4
        · refine Eq.mp (congrArg (fun z => Ends p e below s 2 18 (Q2 Z a_o0 n_o0 f_o0 h0 n0 z) (T.setTop (mkF m 19 #[.val (.ref a_o0), .val (.int x1), .val (.ref a_q2), .val (.int x3), .val (.int x4), .unset] [(.int x4)]))) (show (F2_17 K (F2_7 K j) n_o0 f_o0 cf_q2 x1 x3 x4) = (F2_22 K (F2_7 K j) n_o0 f_o0 cf_q2 x1 x3 x4) from (if_pos hc19)).symm) ?_
          refine Ends.step (u' := (T.setTop (mkF m 22 #[.val (.ref a_o0), .val (.int x1), .val (.ref a_q2), .val (.int x3), .val (.int x4), .unset] []))) ?_ (fun _ k => XS.ifNo X.here hx rfl (hb hby d2_19) rfl (XT.i0_le_f hc19) k)
          exact b22 T _ _ X eT N Zs Kp cf_q2 x1 x3 x4 a_q2 g_q2 fr_q2 ne_o0_q2 A_o0 A_q2 (okt hc19)
        · refine Eq.mp (congrArg (fun z => Ends p e below s 2 18 (Q2 Z a_o0 n_o0 f_o0 h0 n0 z) (T.setTop (mkF m 19 #[.val (.ref a_o0), .val (.int x1), .val (.ref a_q2), .val (.int x3), .val (.int x4), .unset] [(.int x4)]))) (show (F2_17 K (F2_7 K j) n_o0 f_o0 cf_q2 x1 x3 x4) = (F2_37 K (F2_7 K j) n_o0 f_o0 cf_q2 x1 x3) from (if_neg hc19)).symm) ?_
          refine Ends.step (u' := (T.setTop (mkF m 37 #[.val (.ref a_o0), .val (.int x1), .val (.ref a_q2), .val (.int x3), .val (.int x4), .unset] []))) ?_ (fun _ k => XS.ifYes X.here hx rfl (pc0 := 19) (pc' := 37) rfl (hb hby d2_19) rfl (XT.i0_le_t hc19) (by decide) (by decide) k)
          exact b37 T _ _ X eT N Zs Kp cf_q2 x1 x3 (.val (.int x4)) (Or.inr ⟨_, rfl, rfl⟩) a_q2 g_q2 fr_q2 ne_o0_q2 A_o0 A_q2 (okf hc19)
      have b12 : ∀ (T : State) (L : List Loc) (h : Heap) (X : Stand p l e ({ frames := 0, cells := 2, slots := 18, locals := 0 } : Room) s m #[(.ref a_o0), (.int p1)] below meth c T L 1 13) (eT : T.heap = h) (N : Fr n0 L) (Zs : n0 ≤ h.size) (Kp : Keep h0 h []) (cf_q2 : Nat → Int32) (x1 : Int32) (x3 : Int32) (d4 : Slot) (od4 : OneS d4) (a_q2 : Addr) (g_q2 : n0 ≤ a_q2) (fr_q2 : h0.size ≤ a_q2) (ne_o0_q2 : a_o0 ≠ a_q2) (A_o0 : Ar Z h a_o0 .byte n_o0 f_o0) (A_q2 : Ar Z h a_q2 .int 13 cf_q2) (ok : (O2_12 K (O2_7 K j) n_o0 f_o0 cf_q2 x1 x3)), Ends p e below s 2 18 (Q2 Z a_o0 n_o0 f_o0 h0 n0 (F2_12 K (F2_7 K j) n_o0 f_o0 cf_q2 x1 x3)) (T.setTop (mkF m 12 #[.val (.ref a_o0), .val (.int x1), .val (.ref a_q2), .val (.int x3), d4, .unset] [])) := by
        intro T L h X eT N Zs Kp cf_q2 x1 x3 d4 od4 a_q2 g_q2 fr_q2 ne_o0_q2 A_o0 A_q2 ok
        obtain ⟨o1, ok⟩ := ok
        refine Ends.step (u' := (T.setTop (mkF m 13 #[.val (.ref a_o0), .val (.int x1), .val (.ref a_q2), .val (.int x3), d4, .unset] [(.ref a_o0)]))) ?_ (fun _ k => XS.aloadN X.here hx rfl (hb hby d2_12) rfl rfl k)
        refine Ends.step (u' := (T.setTop (mkF m 14 #[.val (.ref a_o0), .val (.int x1), .val (.ref a_q2), .val (.int x3), d4, .unset] [(.int x3), (.ref a_o0)]))) ?_ (fun _ k => XS.iloadN X.here hx rfl (hb hby d2_13) rfl k)
        refine Ends.baload X hx hZ eT A_o0 o1 (g := (mkF m 14 #[.val (.ref a_o0), .val (.int x1), .val (.ref a_q2), .val (.int x3), d4, .unset] [(.int x3), (.ref a_o0)])) rfl rfl (hb hby d2_14) ?_
        show Ends p e below s _ _ _ (T.setTop (mkF m 15 #[.val (.ref a_o0), .val (.int x1), .val (.ref a_q2), .val (.int x3), d4, .unset] [(.int (f_o0 (x3).toNatClampNeg))]))
        refine Ends.step (u' := (T.setTop (mkF m 17 #[.val (.ref a_o0), .val (.int x1), .val (.ref a_q2), .val (.int x3), .val (.int (f_o0 (x3).toNatClampNeg)), .unset] []))) ?_ (fun _ k => XS.istoreS X.here hx rfl (hb hby d2_15) rfl rfl od4 k)
        exact b17 T _ _ X eT N Zs Kp cf_q2 x1 x3 (f_o0 (x3).toNatClampNeg) a_q2 g_q2 fr_q2 ne_o0_q2 A_o0 A_q2 ok
      intro T L h X eT N Zs Kp cf_q2 x1 x3 d4 od4 a_q2 g_q2 fr_q2 ne_o0_q2 A_o0 A_q2 ok
      obtain ⟨okt, okf⟩ := ok
      refine Ends.step (u' := (T.setTop (mkF m 8 #[.val (.ref a_o0), .val (.int x1), .val (.ref a_q2), .val (.int x3), d4, .unset] [(.int x3)]))) ?_ (fun _ k => XS.iloadN X.here hx rfl (hb hby d2_7) rfl k)
      refine Ends.step (u' := (T.setTop (mkF m 9 #[.val (.ref a_o0), .val (.int x1), .val (.ref a_q2), .val (.int x3), d4, .unset] [(.int x1), (.int x3)]))) ?_ (fun _ k => XS.iloadN X.here hx rfl (hb hby d2_8) rfl k)
      by_cases hc9 : x3 < x1
      · refine Eq.mp (congrArg (fun z => Ends p e below s 2 18 (Q2 Z a_o0 n_o0 f_o0 h0 n0 z) (T.setTop (mkF m 9 #[.val (.ref a_o0), .val (.int x1), .val (.ref a_q2), .val (.int x3), d4, .unset] [(.int x1), (.int x3)]))) (show (F2_7 K (j + 1) n_o0 f_o0 cf_q2 x1 x3) = (F2_12 K (F2_7 K j) n_o0 f_o0 cf_q2 x1 x3) from (if_pos hc9)).symm) ?_
        refine Ends.step (u' := (T.setTop (mkF m 12 #[.val (.ref a_o0), .val (.int x1), .val (.ref a_q2), .val (.int x3), d4, .unset] []))) ?_ (fun _ k => XS.icmpNo X.here hx rfl (hb hby d2_9) rfl (XT.ii_ge_f hc9) k)
        exact b12 T _ _ X eT N Zs Kp cf_q2 x1 x3 (d4) od4 a_q2 g_q2 fr_q2 ne_o0_q2 A_o0 A_q2 (okt hc9)
      · refine Eq.mp (congrArg (fun z => Ends p e below s 2 18 (Q2 Z a_o0 n_o0 f_o0 h0 n0 z) (T.setTop (mkF m 9 #[.val (.ref a_o0), .val (.int x1), .val (.ref a_q2), .val (.int x3), d4, .unset] [(.int x1), (.int x3)]))) (show (F2_7 K (j + 1) n_o0 f_o0 cf_q2 x1 x3) = (F2_43 K n_o0 f_o0 cf_q2 x1) from (if_neg hc9)).symm) ?_
        refine Ends.step (u' := (T.setTop (mkF m 43 #[.val (.ref a_o0), .val (.int x1), .val (.ref a_q2), .val (.int x3), d4, .unset] []))) ?_ (fun _ k => XS.icmpYes X.here hx rfl (pc0 := 9) (pc' := 43) rfl (hb hby d2_9) rfl (XT.ii_ge_t hc9) (by decide) (by decide) k)
        exact b43 T _ _ X eT N Zs Kp cf_q2 x1 (.val (.int x3)) (Or.inr ⟨_, rfl, rfl⟩) (d4) od4 a_q2 g_q2 fr_q2 ne_o0_q2 A_o0 A_q2 (okf hc9)
  refine Ends.step (u' := (s₁.setTop (mkF m 0 #[.val (.ref a_o0), .val (.int p1), .unset, .unset, .unset, .unset] []))) ?_ (fun _ k => castTop (ef_2 m a_o0 p1) k)
  refine Ends.step (u' := (s₁.setTop (mkF m 2 #[.val (.ref a_o0), .val (.int p1), .unset, .unset, .unset, .unset] [(.int (13 : Int32))]))) ?_ (fun _ k => XT.bipushV X0.here hx rfl (13 : Int32) (hb hby d2_0) rfl k)
  refine Ends.newA X0 hx hZ (hw _ (List.mem_of_getElem? (i := 6) rfl)) e0 (g := (mkF m 2 #[.val (.ref a_o0), .val (.int p1), .unset, .unset, .unset, .unset] [(.int (13 : Int32))])) rfl (hb hby d2_2) rfl rfl (by decide) 13 (by decide) (by decide) (by decide) (by decide) (fun T28 h28 a28 X28 e28 E28 q28 A28 => ?_)
  have ne29 : a_o0 ≠ a28 := q28 ▸ Nat.ne_of_lt A_o0.lt
  have A30 := A_o0.ext E28
  have g31 : n0 ≤ a28 := q28 ▸ Z0
  have fr32 : h0.size ≤ a28 := q28 ▸ K0.1
  have K33 := K0.ext E28
  have Z34 := Nat.le_trans Z0 E28.1
  show Ends p e below s _ _ _ (T28.setTop (mkF m 4 #[.val (.ref a_o0), .val (.int p1), .unset, .unset, .unset, .unset] [(.ref a28)]))
  refine Ends.step (u' := (T28.setTop (mkF m 5 #[.val (.ref a_o0), .val (.int p1), .val (.ref a28), .unset, .unset, .unset] []))) ?_ (fun _ k => XS.astoreN X28.here hx rfl (hb hby d2_4) rfl rfl (l' := #[.val (.ref a_o0), .val (.int p1), .val (.ref a28), .unset, .unset, .unset]) rfl k)
  refine Ends.step (u' := (T28.setTop (mkF m 6 #[.val (.ref a_o0), .val (.int p1), .val (.ref a28), .unset, .unset, .unset] [(.int (0 : Int32))]))) ?_ (fun _ k => XT.iconstV X28.here hx rfl (0 : Int32) (hb hby d2_5) rfl k)
  refine Ends.step (u' := (T28.setTop (mkF m 7 #[.val (.ref a_o0), .val (.int p1), .val (.ref a28), .val (.int (0 : Int32)), .unset, .unset] []))) ?_ (fun _ k => XS.istoreN X28.here hx rfl (hb hby d2_6) rfl (l' := #[.val (.ref a_o0), .val (.int p1), .val (.ref a28), .val (.int (0 : Int32)), .unset, .unset]) rfl k)
  exact b7 K T28 _ _ X28 e28 N0 Z34 K33 (fun _ => 0) p1 (0 : Int32) (.unset) (Or.inl rfl) a28 g31 fr32 ne29 A30 A28 ok
theorem d4_0 : decode method_5_code 0 = .ok (.iload_n 3, 1) := by decide +kernel
theorem d4_1 : decode method_5_code 1 = .ok (.iload_n 1, 1) := by decide +kernel
theorem d4_2 : decode method_5_code 2 = .ok (.if_icmp .ge 8, 3) := by decide +kernel
theorem d4_5 : decode method_5_code 5 = .ok (.iload_n 3, 1) := by decide +kernel
theorem d4_6 : decode method_5_code 6 = .ok (.iload_n 2, 1) := by decide +kernel
theorem d4_7 : decode method_5_code 7 = .ok (.if_icmp .ne 5, 3) := by decide +kernel
theorem d4_10 : decode method_5_code 10 = .ok (.iconst 0, 1) := by decide +kernel
theorem d4_11 : decode method_5_code 11 = .ok (.ireturn, 1) := by decide +kernel
theorem d4_12 : decode method_5_code 12 = .ok (.aload_n 0, 1) := by decide +kernel
theorem d4_13 : decode method_5_code 13 = .ok (.iload_n 3, 1) := by decide +kernel
theorem d4_14 : decode method_5_code 14 = .ok (.iaload, 1) := by decide +kernel
theorem d4_15 : decode method_5_code 15 = .ok (.istore 4, 2) := by decide +kernel
theorem d4_17 : decode method_5_code 17 = .ok (.iload 4, 2) := by decide +kernel
theorem d4_19 : decode method_5_code 19 = .ok (.ifCond .ne 5, 3) := by decide +kernel
theorem d4_22 : decode method_5_code 22 = .ok (.iconst 0, 1) := by decide +kernel
theorem d4_23 : decode method_5_code 23 = .ok (.ireturn, 1) := by decide +kernel
theorem d4_24 : decode method_5_code 24 = .ok (.iload 4, 2) := by decide +kernel
theorem d4_26 : decode method_5_code 26 = .ok (.aload_n 0, 1) := by decide +kernel
theorem d4_27 : decode method_5_code 27 = .ok (.iload_n 2, 1) := by decide +kernel
theorem d4_28 : decode method_5_code 28 = .ok (.iaload, 1) := by decide +kernel
theorem d4_29 : decode method_5_code 29 = .ok (.if_icmp .lt 16, 3) := by decide +kernel
theorem d4_32 : decode method_5_code 32 = .ok (.iload 4, 2) := by decide +kernel
theorem d4_34 : decode method_5_code 34 = .ok (.aload_n 0, 1) := by decide +kernel
theorem d4_35 : decode method_5_code 35 = .ok (.iload_n 2, 1) := by decide +kernel
theorem d4_36 : decode method_5_code 36 = .ok (.iaload, 1) := by decide +kernel
theorem d4_37 : decode method_5_code 37 = .ok (.if_icmp .ne 15, 3) := by decide +kernel
theorem d4_40 : decode method_5_code 40 = .ok (.iload_n 3, 1) := by decide +kernel
theorem d4_41 : decode method_5_code 41 = .ok (.iload_n 2, 1) := by decide +kernel
theorem d4_42 : decode method_5_code 42 = .ok (.if_icmp .ge 10, 3) := by decide +kernel
theorem d4_45 : decode method_5_code 45 = .ok (.iconst 1, 1) := by decide +kernel
theorem d4_46 : decode method_5_code 46 = .ok (.iload 4, 2) := by decide +kernel
theorem d4_48 : decode method_5_code 48 = .ok (.iconst 1, 1) := by decide +kernel
theorem d4_49 : decode method_5_code 49 = .ok (.isub, 1) := by decide +kernel
theorem d4_50 : decode method_5_code 50 = .ok (.ishl, 1) := by decide +kernel
theorem d4_51 : decode method_5_code 51 = .ok (.ireturn, 1) := by decide +kernel
theorem d4_52 : decode method_5_code 52 = .ok (.iconst 0, 1) := by decide +kernel
theorem d4_53 : decode method_5_code 53 = .ok (.ireturn, 1) := by decide +kernel
theorem pn_4 : plainFor (⟨"lakewright/zstd/HuffmanTableFirstEntriesPinLaw", "part", "([IIII)I"⟩ : MethodName) = true := by first | exact plainFor_of_name (by first | (simp [plainName, overriddenIn]; done) | decide +kernel) | decide +kernel
theorem ef_4 (m : MethodId) (y0 : Addr) (y1 : Int32) (y2 : Int32) (y3 : Int32) : entryFrame m #[(.ref y0), (.int y1), (.int y2), (.int y3)] 5 = mkF m 0 #[.val (.ref y0), .val (.int y1), .val (.int y2), .val (.int y3), .unset] [] := by first | (simp [entryFrame, mkF, argsToLocals, Value.category]; done) | rfl
def Q4 (Z : State) (a_o0 : Addr) (n_o0 : Nat) (f_o0 : Nat → Int32) (h0 : Heap) (n0 : Nat) (ans : Int32) (v : Option Value) (h : Heap) (L : List Loc) : Prop := v = some (.int ans) ∧ Fr n0 L ∧ h = h0
set_option maxRecDepth 65536 in
set_option maxHeartbeats 40000000 in
theorem rm4 (l : Launch) (Z : State) (a0 : Array Value) (hw : ∀ d ∈ tables_1, d.before a0 Z = true) (p1 : Int32) (p2 : Int32) (p3 : Int32) (n_o0 : Nat) (f_o0 : Nat → Int32) (a_o0 : Addr) (h0 : Heap) (n0 : Nat) (Z0 : n0 ≤ h0.size) (A_o0 : Ar Z h0 a_o0 .int n_o0 f_o0) (ok : O4 p1 p2 p3 n_o0 f_o0) :
    Meets l Z (⟨"lakewright/zstd/HuffmanTableFirstEntriesPinLaw", "part", "([IIII)I"⟩ : MethodName) method_5_code 5 (some .int) [] ({ frames := 0, cells := 0, slots := 0, locals := 0 } : Room) #[(.ref a_o0), (.int p1), (.int p2), (.int p3)] h0 (Q4 Z a_o0 n_o0 f_o0 h0 n0 (F4 p1 p2 p3 n_o0 f_o0)) 0 0 := by
  refine Meets.of pn_4 ?_
  intro p e s m below meth c s₁ hx hby hml hZ hown hnm hret hlk X0 e0
  have hml : c.maxLocals = 5 := hml
  have hown : s.vm.findClass "lakewright/zstd/HuffmanTableFirstEntriesPinLaw" = some m.cls := hown
  have N0 := Fr.nil n0
  have b10 : ∀ (T : State) (L : List Loc) (X : Stand p l e ({ frames := 0, cells := 0, slots := 0, locals := 0 } : Room) s m #[(.ref a_o0), (.int p1), (.int p2), (.int p3)] below meth c T L 0 0) (eT : T.heap = h0) (N : Fr n0 L) (d0 : Slot) (od0 : OneS d0) (d1 : Slot) (od1 : OneS d1) (d2 : Slot) (od2 : OneS d2) (d3 : Slot) (od3 : OneS d3), Ends p e below s 0 0 (Q4 Z a_o0 n_o0 f_o0 h0 n0 (F4_10 n_o0 f_o0)) (T.setTop (mkF m 10 #[d0, d1, d2, d3, .unset] [])) := by
    intro T L X eT N d0 od0 d1 od1 d2 od2 d3 od3
    refine Ends.step (u' := (T.setTop (mkF m 11 #[d0, d1, d2, d3, .unset] [(.int (0 : Int32))]))) ?_ (fun _ k => XT.iconstV X.here hx rfl (0 : Int32) (hb hby d4_10) rfl k)
    exact Ends.ret X (v := some (.int (0 : Int32))) (fun q => by rw [hret] at q; cases q) hlk (fun fs hr => retI X hx hret (hb hby d4_11) hr) (by decide) (by decide) ⟨rfl, N, eT⟩
  have b22 : ∀ (T : State) (L : List Loc) (X : Stand p l e ({ frames := 0, cells := 0, slots := 0, locals := 0 } : Room) s m #[(.ref a_o0), (.int p1), (.int p2), (.int p3)] below meth c T L 0 0) (eT : T.heap = h0) (N : Fr n0 L) (d0 : Slot) (od0 : OneS d0) (d1 : Slot) (od1 : OneS d1) (d2 : Slot) (od2 : OneS d2) (d3 : Slot) (od3 : OneS d3) (d4 : Slot) (od4 : OneS d4), Ends p e below s 0 0 (Q4 Z a_o0 n_o0 f_o0 h0 n0 (F4_22 n_o0 f_o0)) (T.setTop (mkF m 22 #[d0, d1, d2, d3, d4] [])) := by
    intro T L X eT N d0 od0 d1 od1 d2 od2 d3 od3 d4 od4
    refine Ends.step (u' := (T.setTop (mkF m 23 #[d0, d1, d2, d3, d4] [(.int (0 : Int32))]))) ?_ (fun _ k => XT.iconstV X.here hx rfl (0 : Int32) (hb hby d4_22) rfl k)
    exact Ends.ret X (v := some (.int (0 : Int32))) (fun q => by rw [hret] at q; cases q) hlk (fun fs hr => retI X hx hret (hb hby d4_23) hr) (by decide) (by decide) ⟨rfl, N, eT⟩
  have b45 : ∀ (T : State) (L : List Loc) (X : Stand p l e ({ frames := 0, cells := 0, slots := 0, locals := 0 } : Room) s m #[(.ref a_o0), (.int p1), (.int p2), (.int p3)] below meth c T L 0 0) (eT : T.heap = h0) (N : Fr n0 L) (x4 : Int32) (d0 : Slot) (od0 : OneS d0) (d1 : Slot) (od1 : OneS d1) (d2 : Slot) (od2 : OneS d2) (d3 : Slot) (od3 : OneS d3), Ends p e below s 0 0 (Q4 Z a_o0 n_o0 f_o0 h0 n0 (F4_45 n_o0 f_o0 x4)) (T.setTop (mkF m 45 #[d0, d1, d2, d3, .val (.int x4)] [])) := by
    intro T L X eT N x4 d0 od0 d1 od1 d2 od2 d3 od3
    refine Ends.step (u' := (T.setTop (mkF m 46 #[d0, d1, d2, d3, .val (.int x4)] [(.int (1 : Int32))]))) ?_ (fun _ k => XT.iconstV X.here hx rfl (1 : Int32) (hb hby d4_45) rfl k)
    refine Ends.step (u' := (T.setTop (mkF m 48 #[d0, d1, d2, d3, .val (.int x4)] [(.int x4), (.int (1 : Int32))]))) ?_ (fun _ k => XS.iload X.here hx rfl (hb hby d4_46) rfl k)
    refine Ends.step (u' := (T.setTop (mkF m 49 #[d0, d1, d2, d3, .val (.int x4)] [(.int (1 : Int32)), (.int x4), (.int (1 : Int32))]))) ?_ (fun _ k => XT.iconstV X.here hx rfl (1 : Int32) (hb hby d4_48) rfl k)
    refine Ends.step (u' := (T.setTop (mkF m 50 #[d0, d1, d2, d3, .val (.int x4)] [(.int (x4 - (1 : Int32))), (.int (1 : Int32))]))) ?_ (fun _ k => XS.isub X.here hx rfl (hb hby d4_49) rfl k)
    refine Ends.step (u' := (T.setTop (mkF m 51 #[d0, d1, d2, d3, .val (.int x4)] [(.int ((1 : Int32) <<< ((x4 - (1 : Int32)) &&& 31)))]))) ?_ (fun _ k => XT.ishl X.here hx rfl (hb hby d4_50) rfl k)
    exact Ends.ret X (v := some (.int ((1 : Int32) <<< ((x4 - (1 : Int32)) &&& 31)))) (fun q => by rw [hret] at q; cases q) hlk (fun fs hr => retI X hx hret (hb hby d4_51) hr) (by decide) (by decide) ⟨rfl, N, eT⟩
  have b52 : ∀ (T : State) (L : List Loc) (X : Stand p l e ({ frames := 0, cells := 0, slots := 0, locals := 0 } : Room) s m #[(.ref a_o0), (.int p1), (.int p2), (.int p3)] below meth c T L 0 0) (eT : T.heap = h0) (N : Fr n0 L) (d0 : Slot) (od0 : OneS d0) (d1 : Slot) (od1 : OneS d1) (d2 : Slot) (od2 : OneS d2) (d3 : Slot) (od3 : OneS d3) (d4 : Slot) (od4 : OneS d4), Ends p e below s 0 0 (Q4 Z a_o0 n_o0 f_o0 h0 n0 (F4_52 n_o0 f_o0)) (T.setTop (mkF m 52 #[d0, d1, d2, d3, d4] [])) := by
    intro T L X eT N d0 od0 d1 od1 d2 od2 d3 od3 d4 od4
    refine Ends.step (u' := (T.setTop (mkF m 53 #[d0, d1, d2, d3, d4] [(.int (0 : Int32))]))) ?_ (fun _ k => XT.iconstV X.here hx rfl (0 : Int32) (hb hby d4_52) rfl k)
    exact Ends.ret X (v := some (.int (0 : Int32))) (fun q => by rw [hret] at q; cases q) hlk (fun fs hr => retI X hx hret (hb hby d4_53) hr) (by decide) (by decide) ⟨rfl, N, eT⟩
  have b40 : ∀ (T : State) (L : List Loc) (X : Stand p l e ({ frames := 0, cells := 0, slots := 0, locals := 0 } : Room) s m #[(.ref a_o0), (.int p1), (.int p2), (.int p3)] below meth c T L 0 0) (eT : T.heap = h0) (N : Fr n0 L) (x2 : Int32) (x3 : Int32) (x4 : Int32) (d0 : Slot) (od0 : OneS d0) (d1 : Slot) (od1 : OneS d1), Ends p e below s 0 0 (Q4 Z a_o0 n_o0 f_o0 h0 n0 (F4_40 n_o0 f_o0 x2 x3 x4)) (T.setTop (mkF m 40 #[d0, d1, .val (.int x2), .val (.int x3), .val (.int x4)] [])) := by
    intro T L X eT N x2 x3 x4 d0 od0 d1 od1
    refine Ends.step (u' := (T.setTop (mkF m 41 #[d0, d1, .val (.int x2), .val (.int x3), .val (.int x4)] [(.int x3)]))) ?_ (fun _ k => XS.iloadN X.here hx rfl (hb hby d4_40) rfl k)
    refine Ends.step (u' := (T.setTop (mkF m 42 #[d0, d1, .val (.int x2), .val (.int x3), .val (.int x4)] [(.int x2), (.int x3)]))) ?_ (fun _ k => XS.iloadN X.here hx rfl (hb hby d4_41) rfl k)
    by_cases hc42 : x3 < x2
    · refine Eq.mp (congrArg (fun z => Ends p e below s 0 0 (Q4 Z a_o0 n_o0 f_o0 h0 n0 z) (T.setTop (mkF m 42 #[d0, d1, .val (.int x2), .val (.int x3), .val (.int x4)] [(.int x2), (.int x3)]))) (show (F4_40 n_o0 f_o0 x2 x3 x4) = (F4_45 n_o0 f_o0 x4) from (if_pos hc42)).symm) ?_
      refine Ends.step (u' := (T.setTop (mkF m 45 #[d0, d1, .val (.int x2), .val (.int x3), .val (.int x4)] []))) ?_ (fun _ k => XS.icmpNo X.here hx rfl (hb hby d4_42) rfl (XT.ii_ge_f hc42) k)
      exact b45 T _ X eT N x4 (d0) od0 (d1) od1 (.val (.int x2)) (Or.inr ⟨_, rfl, rfl⟩) (.val (.int x3)) (Or.inr ⟨_, rfl, rfl⟩)
    · refine Eq.mp (congrArg (fun z => Ends p e below s 0 0 (Q4 Z a_o0 n_o0 f_o0 h0 n0 z) (T.setTop (mkF m 42 #[d0, d1, .val (.int x2), .val (.int x3), .val (.int x4)] [(.int x2), (.int x3)]))) (show (F4_40 n_o0 f_o0 x2 x3 x4) = (F4_52 n_o0 f_o0) from (if_neg hc42)).symm) ?_
      refine Ends.step (u' := (T.setTop (mkF m 52 #[d0, d1, .val (.int x2), .val (.int x3), .val (.int x4)] []))) ?_ (fun _ k => XS.icmpYes X.here hx rfl (pc0 := 42) (pc' := 52) rfl (hb hby d4_42) rfl (XT.ii_ge_t hc42) (by decide) (by decide) k)
      exact b52 T _ X eT N (d0) od0 (d1) od1 (.val (.int x2)) (Or.inr ⟨_, rfl, rfl⟩) (.val (.int x3)) (Or.inr ⟨_, rfl, rfl⟩) (.val (.int x4)) (Or.inr ⟨_, rfl, rfl⟩)
  have b32 : ∀ (T : State) (L : List Loc) (X : Stand p l e ({ frames := 0, cells := 0, slots := 0, locals := 0 } : Room) s m #[(.ref a_o0), (.int p1), (.int p2), (.int p3)] below meth c T L 0 0) (eT : T.heap = h0) (N : Fr n0 L) (x2 : Int32) (x3 : Int32) (x4 : Int32) (d1 : Slot) (od1 : OneS d1) (ok : (O4_32 n_o0 f_o0 x2 x3 x4)), Ends p e below s 0 0 (Q4 Z a_o0 n_o0 f_o0 h0 n0 (F4_32 n_o0 f_o0 x2 x3 x4)) (T.setTop (mkF m 32 #[.val (.ref a_o0), d1, .val (.int x2), .val (.int x3), .val (.int x4)] [])) := by
    intro T L X eT N x2 x3 x4 d1 od1 ok
    obtain ⟨o1, okt, okf⟩ := ok
    refine Ends.step (u' := (T.setTop (mkF m 34 #[.val (.ref a_o0), d1, .val (.int x2), .val (.int x3), .val (.int x4)] [(.int x4)]))) ?_ (fun _ k => XS.iload X.here hx rfl (hb hby d4_32) rfl k)
    refine Ends.step (u' := (T.setTop (mkF m 35 #[.val (.ref a_o0), d1, .val (.int x2), .val (.int x3), .val (.int x4)] [(.ref a_o0), (.int x4)]))) ?_ (fun _ k => XS.aloadN X.here hx rfl (hb hby d4_34) rfl rfl k)
    refine Ends.step (u' := (T.setTop (mkF m 36 #[.val (.ref a_o0), d1, .val (.int x2), .val (.int x3), .val (.int x4)] [(.int x2), (.ref a_o0), (.int x4)]))) ?_ (fun _ k => XS.iloadN X.here hx rfl (hb hby d4_35) rfl k)
    refine Ends.iaload X hx hZ eT A_o0 o1 (g := (mkF m 36 #[.val (.ref a_o0), d1, .val (.int x2), .val (.int x3), .val (.int x4)] [(.int x2), (.ref a_o0), (.int x4)])) rfl rfl (hb hby d4_36) ?_
    show Ends p e below s _ _ _ (T.setTop (mkF m 37 #[.val (.ref a_o0), d1, .val (.int x2), .val (.int x3), .val (.int x4)] [(.int (f_o0 (x2).toNatClampNeg)), (.int x4)]))
    by_cases hc37 : x4 = (f_o0 (x2).toNatClampNeg)
    · refine Eq.mp (congrArg (fun z => Ends p e below s 0 0 (Q4 Z a_o0 n_o0 f_o0 h0 n0 z) (T.setTop (mkF m 37 #[.val (.ref a_o0), d1, .val (.int x2), .val (.int x3), .val (.int x4)] [(.int (f_o0 (x2).toNatClampNeg)), (.int x4)]))) (show (F4_32 n_o0 f_o0 x2 x3 x4) = (F4_40 n_o0 f_o0 x2 x3 x4) from (if_pos hc37)).symm) ?_
      refine Ends.step (u' := (T.setTop (mkF m 40 #[.val (.ref a_o0), d1, .val (.int x2), .val (.int x3), .val (.int x4)] []))) ?_ (fun _ k => XS.icmpNo X.here hx rfl (hb hby d4_37) rfl (XT.ii_ne_f hc37) k)
      exact b40 T _ X eT N x2 x3 x4 (.val (.ref a_o0)) (Or.inr ⟨_, rfl, rfl⟩) (d1) od1
    · refine Eq.mp (congrArg (fun z => Ends p e below s 0 0 (Q4 Z a_o0 n_o0 f_o0 h0 n0 z) (T.setTop (mkF m 37 #[.val (.ref a_o0), d1, .val (.int x2), .val (.int x3), .val (.int x4)] [(.int (f_o0 (x2).toNatClampNeg)), (.int x4)]))) (show (F4_32 n_o0 f_o0 x2 x3 x4) = (F4_52 n_o0 f_o0) from (if_neg hc37)).symm) ?_
      refine Ends.step (u' := (T.setTop (mkF m 52 #[.val (.ref a_o0), d1, .val (.int x2), .val (.int x3), .val (.int x4)] []))) ?_ (fun _ k => XS.icmpYes X.here hx rfl (pc0 := 37) (pc' := 52) rfl (hb hby d4_37) rfl (XT.ii_ne_t hc37) (by decide) (by decide) k)
      exact b52 T _ X eT N (.val (.ref a_o0)) (Or.inr ⟨_, rfl, rfl⟩) (d1) od1 (.val (.int x2)) (Or.inr ⟨_, rfl, rfl⟩) (.val (.int x3)) (Or.inr ⟨_, rfl, rfl⟩) (.val (.int x4)) (Or.inr ⟨_, rfl, rfl⟩)
  have b24 : ∀ (T : State) (L : List Loc) (X : Stand p l e ({ frames := 0, cells := 0, slots := 0, locals := 0 } : Room) s m #[(.ref a_o0), (.int p1), (.int p2), (.int p3)] below meth c T L 0 0) (eT : T.heap = h0) (N : Fr n0 L) (x2 : Int32) (x3 : Int32) (x4 : Int32) (d1 : Slot) (od1 : OneS d1) (ok : (O4_24 n_o0 f_o0 x2 x3 x4)), Ends p e below s 0 0 (Q4 Z a_o0 n_o0 f_o0 h0 n0 (F4_24 n_o0 f_o0 x2 x3 x4)) (T.setTop (mkF m 24 #[.val (.ref a_o0), d1, .val (.int x2), .val (.int x3), .val (.int x4)] [])) := by
    intro T L X eT N x2 x3 x4 d1 od1 ok
    obtain ⟨o1, okt, okf⟩ := ok
    refine Ends.step (u' := (T.setTop (mkF m 26 #[.val (.ref a_o0), d1, .val (.int x2), .val (.int x3), .val (.int x4)] [(.int x4)]))) ?_ (fun _ k => XS.iload X.here hx rfl (hb hby d4_24) rfl k)
    refine Ends.step (u' := (T.setTop (mkF m 27 #[.val (.ref a_o0), d1, .val (.int x2), .val (.int x3), .val (.int x4)] [(.ref a_o0), (.int x4)]))) ?_ (fun _ k => XS.aloadN X.here hx rfl (hb hby d4_26) rfl rfl k)
    refine Ends.step (u' := (T.setTop (mkF m 28 #[.val (.ref a_o0), d1, .val (.int x2), .val (.int x3), .val (.int x4)] [(.int x2), (.ref a_o0), (.int x4)]))) ?_ (fun _ k => XS.iloadN X.here hx rfl (hb hby d4_27) rfl k)
    refine Ends.iaload X hx hZ eT A_o0 o1 (g := (mkF m 28 #[.val (.ref a_o0), d1, .val (.int x2), .val (.int x3), .val (.int x4)] [(.int x2), (.ref a_o0), (.int x4)])) rfl rfl (hb hby d4_28) ?_
    show Ends p e below s _ _ _ (T.setTop (mkF m 29 #[.val (.ref a_o0), d1, .val (.int x2), .val (.int x3), .val (.int x4)] [(.int (f_o0 (x2).toNatClampNeg)), (.int x4)]))
    by_cases hc29 : x4 < (f_o0 (x2).toNatClampNeg)
    · refine Eq.mp (congrArg (fun z => Ends p e below s 0 0 (Q4 Z a_o0 n_o0 f_o0 h0 n0 z) (T.setTop (mkF m 29 #[.val (.ref a_o0), d1, .val (.int x2), .val (.int x3), .val (.int x4)] [(.int (f_o0 (x2).toNatClampNeg)), (.int x4)]))) (show (F4_24 n_o0 f_o0 x2 x3 x4) = (F4_45 n_o0 f_o0 x4) from (if_pos hc29)).symm) ?_
      refine Ends.step (u' := (T.setTop (mkF m 45 #[.val (.ref a_o0), d1, .val (.int x2), .val (.int x3), .val (.int x4)] []))) ?_ (fun _ k => XS.icmpYes X.here hx rfl (pc0 := 29) (pc' := 45) rfl (hb hby d4_29) rfl (XT.ii_lt_t hc29) (by decide) (by decide) k)
      exact b45 T _ X eT N x4 (.val (.ref a_o0)) (Or.inr ⟨_, rfl, rfl⟩) (d1) od1 (.val (.int x2)) (Or.inr ⟨_, rfl, rfl⟩) (.val (.int x3)) (Or.inr ⟨_, rfl, rfl⟩)
    · refine Eq.mp (congrArg (fun z => Ends p e below s 0 0 (Q4 Z a_o0 n_o0 f_o0 h0 n0 z) (T.setTop (mkF m 29 #[.val (.ref a_o0), d1, .val (.int x2), .val (.int x3), .val (.int x4)] [(.int (f_o0 (x2).toNatClampNeg)), (.int x4)]))) (show (F4_24 n_o0 f_o0 x2 x3 x4) = (F4_32 n_o0 f_o0 x2 x3 x4) from (if_neg hc29)).symm) ?_
      refine Ends.step (u' := (T.setTop (mkF m 32 #[.val (.ref a_o0), d1, .val (.int x2), .val (.int x3), .val (.int x4)] []))) ?_ (fun _ k => XS.icmpNo X.here hx rfl (hb hby d4_29) rfl (XT.ii_lt_f hc29) k)
      exact b32 T _ X eT N x2 x3 x4 (d1) od1 (okf hc29)
  have b17 : ∀ (T : State) (L : List Loc) (X : Stand p l e ({ frames := 0, cells := 0, slots := 0, locals := 0 } : Room) s m #[(.ref a_o0), (.int p1), (.int p2), (.int p3)] below meth c T L 0 0) (eT : T.heap = h0) (N : Fr n0 L) (x2 : Int32) (x3 : Int32) (x4 : Int32) (d1 : Slot) (od1 : OneS d1) (ok : (O4_17 n_o0 f_o0 x2 x3 x4)), Ends p e below s 0 0 (Q4 Z a_o0 n_o0 f_o0 h0 n0 (F4_17 n_o0 f_o0 x2 x3 x4)) (T.setTop (mkF m 17 #[.val (.ref a_o0), d1, .val (.int x2), .val (.int x3), .val (.int x4)] [])) := by
    intro T L X eT N x2 x3 x4 d1 od1 ok
    obtain ⟨okt, okf⟩ := ok
    refine Ends.step (u' := (T.setTop (mkF m 19 #[.val (.ref a_o0), d1, .val (.int x2), .val (.int x3), .val (.int x4)] [(.int x4)]))) ?_ (fun _ k => XS.iload X.here hx rfl (hb hby d4_17) rfl k)
    by_cases hc19 : x4 = 0
    · refine Eq.mp (congrArg (fun z => Ends p e below s 0 0 (Q4 Z a_o0 n_o0 f_o0 h0 n0 z) (T.setTop (mkF m 19 #[.val (.ref a_o0), d1, .val (.int x2), .val (.int x3), .val (.int x4)] [(.int x4)]))) (show (F4_17 n_o0 f_o0 x2 x3 x4) = (F4_22 n_o0 f_o0) from (if_pos hc19)).symm) ?_
      refine Ends.step (u' := (T.setTop (mkF m 22 #[.val (.ref a_o0), d1, .val (.int x2), .val (.int x3), .val (.int x4)] []))) ?_ (fun _ k => XS.ifNo X.here hx rfl (hb hby d4_19) rfl (XT.i0_ne_f hc19) k)
      exact b22 T _ X eT N (.val (.ref a_o0)) (Or.inr ⟨_, rfl, rfl⟩) (d1) od1 (.val (.int x2)) (Or.inr ⟨_, rfl, rfl⟩) (.val (.int x3)) (Or.inr ⟨_, rfl, rfl⟩) (.val (.int x4)) (Or.inr ⟨_, rfl, rfl⟩)
    · refine Eq.mp (congrArg (fun z => Ends p e below s 0 0 (Q4 Z a_o0 n_o0 f_o0 h0 n0 z) (T.setTop (mkF m 19 #[.val (.ref a_o0), d1, .val (.int x2), .val (.int x3), .val (.int x4)] [(.int x4)]))) (show (F4_17 n_o0 f_o0 x2 x3 x4) = (F4_24 n_o0 f_o0 x2 x3 x4) from (if_neg hc19)).symm) ?_
      refine Ends.step (u' := (T.setTop (mkF m 24 #[.val (.ref a_o0), d1, .val (.int x2), .val (.int x3), .val (.int x4)] []))) ?_ (fun _ k => XS.ifYes X.here hx rfl (pc0 := 19) (pc' := 24) rfl (hb hby d4_19) rfl (XT.i0_ne_t hc19) (by decide) (by decide) k)
      exact b24 T _ X eT N x2 x3 x4 (d1) od1 (okf hc19)
  have b12 : ∀ (T : State) (L : List Loc) (X : Stand p l e ({ frames := 0, cells := 0, slots := 0, locals := 0 } : Room) s m #[(.ref a_o0), (.int p1), (.int p2), (.int p3)] below meth c T L 0 0) (eT : T.heap = h0) (N : Fr n0 L) (x2 : Int32) (x3 : Int32) (d1 : Slot) (od1 : OneS d1) (ok : (O4_12 n_o0 f_o0 x2 x3)), Ends p e below s 0 0 (Q4 Z a_o0 n_o0 f_o0 h0 n0 (F4_12 n_o0 f_o0 x2 x3)) (T.setTop (mkF m 12 #[.val (.ref a_o0), d1, .val (.int x2), .val (.int x3), .unset] [])) := by
    intro T L X eT N x2 x3 d1 od1 ok
    obtain ⟨o1, ok⟩ := ok
    refine Ends.step (u' := (T.setTop (mkF m 13 #[.val (.ref a_o0), d1, .val (.int x2), .val (.int x3), .unset] [(.ref a_o0)]))) ?_ (fun _ k => XS.aloadN X.here hx rfl (hb hby d4_12) rfl rfl k)
    refine Ends.step (u' := (T.setTop (mkF m 14 #[.val (.ref a_o0), d1, .val (.int x2), .val (.int x3), .unset] [(.int x3), (.ref a_o0)]))) ?_ (fun _ k => XS.iloadN X.here hx rfl (hb hby d4_13) rfl k)
    refine Ends.iaload X hx hZ eT A_o0 o1 (g := (mkF m 14 #[.val (.ref a_o0), d1, .val (.int x2), .val (.int x3), .unset] [(.int x3), (.ref a_o0)])) rfl rfl (hb hby d4_14) ?_
    show Ends p e below s _ _ _ (T.setTop (mkF m 15 #[.val (.ref a_o0), d1, .val (.int x2), .val (.int x3), .unset] [(.int (f_o0 (x3).toNatClampNeg))]))
    refine Ends.step (u' := (T.setTop (mkF m 17 #[.val (.ref a_o0), d1, .val (.int x2), .val (.int x3), .val (.int (f_o0 (x3).toNatClampNeg))] []))) ?_ (fun _ k => XS.istore X.here hx rfl (hb hby d4_15) rfl (l' := #[.val (.ref a_o0), d1, .val (.int x2), .val (.int x3), .val (.int (f_o0 (x3).toNatClampNeg))]) rfl k)
    exact b17 T _ X eT N x2 x3 (f_o0 (x3).toNatClampNeg) (d1) od1 ok
  have b5 : ∀ (T : State) (L : List Loc) (X : Stand p l e ({ frames := 0, cells := 0, slots := 0, locals := 0 } : Room) s m #[(.ref a_o0), (.int p1), (.int p2), (.int p3)] below meth c T L 0 0) (eT : T.heap = h0) (N : Fr n0 L) (x2 : Int32) (x3 : Int32) (d1 : Slot) (od1 : OneS d1) (ok : (O4_5 n_o0 f_o0 x2 x3)), Ends p e below s 0 0 (Q4 Z a_o0 n_o0 f_o0 h0 n0 (F4_5 n_o0 f_o0 x2 x3)) (T.setTop (mkF m 5 #[.val (.ref a_o0), d1, .val (.int x2), .val (.int x3), .unset] [])) := by
    intro T L X eT N x2 x3 d1 od1 ok
    obtain ⟨okt, okf⟩ := ok
    refine Ends.step (u' := (T.setTop (mkF m 6 #[.val (.ref a_o0), d1, .val (.int x2), .val (.int x3), .unset] [(.int x3)]))) ?_ (fun _ k => XS.iloadN X.here hx rfl (hb hby d4_5) rfl k)
    refine Ends.step (u' := (T.setTop (mkF m 7 #[.val (.ref a_o0), d1, .val (.int x2), .val (.int x3), .unset] [(.int x2), (.int x3)]))) ?_ (fun _ k => XS.iloadN X.here hx rfl (hb hby d4_6) rfl k)
    by_cases hc7 : x3 = x2
    · refine Eq.mp (congrArg (fun z => Ends p e below s 0 0 (Q4 Z a_o0 n_o0 f_o0 h0 n0 z) (T.setTop (mkF m 7 #[.val (.ref a_o0), d1, .val (.int x2), .val (.int x3), .unset] [(.int x2), (.int x3)]))) (show (F4_5 n_o0 f_o0 x2 x3) = (F4_10 n_o0 f_o0) from (if_pos hc7)).symm) ?_
      refine Ends.step (u' := (T.setTop (mkF m 10 #[.val (.ref a_o0), d1, .val (.int x2), .val (.int x3), .unset] []))) ?_ (fun _ k => XS.icmpNo X.here hx rfl (hb hby d4_7) rfl (XT.ii_ne_f hc7) k)
      exact b10 T _ X eT N (.val (.ref a_o0)) (Or.inr ⟨_, rfl, rfl⟩) (d1) od1 (.val (.int x2)) (Or.inr ⟨_, rfl, rfl⟩) (.val (.int x3)) (Or.inr ⟨_, rfl, rfl⟩)
    · refine Eq.mp (congrArg (fun z => Ends p e below s 0 0 (Q4 Z a_o0 n_o0 f_o0 h0 n0 z) (T.setTop (mkF m 7 #[.val (.ref a_o0), d1, .val (.int x2), .val (.int x3), .unset] [(.int x2), (.int x3)]))) (show (F4_5 n_o0 f_o0 x2 x3) = (F4_12 n_o0 f_o0 x2 x3) from (if_neg hc7)).symm) ?_
      refine Ends.step (u' := (T.setTop (mkF m 12 #[.val (.ref a_o0), d1, .val (.int x2), .val (.int x3), .unset] []))) ?_ (fun _ k => XS.icmpYes X.here hx rfl (pc0 := 7) (pc' := 12) rfl (hb hby d4_7) rfl (XT.ii_ne_t hc7) (by decide) (by decide) k)
      exact b12 T _ X eT N x2 x3 (d1) od1 (okf hc7)
  refine Ends.step (u' := (s₁.setTop (mkF m 0 #[.val (.ref a_o0), .val (.int p1), .val (.int p2), .val (.int p3), .unset] []))) ?_ (fun _ k => castTop (ef_4 m a_o0 p1 p2 p3) k)
  obtain ⟨okt, okf⟩ := ok
  refine Ends.step (u' := (s₁.setTop (mkF m 1 #[.val (.ref a_o0), .val (.int p1), .val (.int p2), .val (.int p3), .unset] [(.int p3)]))) ?_ (fun _ k => XS.iloadN X0.here hx rfl (hb hby d4_0) rfl k)
  refine Ends.step (u' := (s₁.setTop (mkF m 2 #[.val (.ref a_o0), .val (.int p1), .val (.int p2), .val (.int p3), .unset] [(.int p1), (.int p3)]))) ?_ (fun _ k => XS.iloadN X0.here hx rfl (hb hby d4_1) rfl k)
  by_cases hc2 : p3 < p1
  · refine Eq.mp (congrArg (fun z => Ends p e below s 0 0 (Q4 Z a_o0 n_o0 f_o0 h0 n0 z) (s₁.setTop (mkF m 2 #[.val (.ref a_o0), .val (.int p1), .val (.int p2), .val (.int p3), .unset] [(.int p1), (.int p3)]))) (show (F4 p1 p2 p3 n_o0 f_o0) = (F4_5 n_o0 f_o0 p2 p3) from (if_pos hc2)).symm) ?_
    refine Ends.step (u' := (s₁.setTop (mkF m 5 #[.val (.ref a_o0), .val (.int p1), .val (.int p2), .val (.int p3), .unset] []))) ?_ (fun _ k => XS.icmpNo X0.here hx rfl (hb hby d4_2) rfl (XT.ii_ge_f hc2) k)
    exact b5 s₁ _ X0 e0 N0 p2 p3 (.val (.int p1)) (Or.inr ⟨_, rfl, rfl⟩) (okt hc2)
  · refine Eq.mp (congrArg (fun z => Ends p e below s 0 0 (Q4 Z a_o0 n_o0 f_o0 h0 n0 z) (s₁.setTop (mkF m 2 #[.val (.ref a_o0), .val (.int p1), .val (.int p2), .val (.int p3), .unset] [(.int p1), (.int p3)]))) (show (F4 p1 p2 p3 n_o0 f_o0) = (F4_10 n_o0 f_o0) from (if_neg hc2)).symm) ?_
    refine Ends.step (u' := (s₁.setTop (mkF m 10 #[.val (.ref a_o0), .val (.int p1), .val (.int p2), .val (.int p3), .unset] []))) ?_ (fun _ k => XS.icmpYes X0.here hx rfl (pc0 := 2) (pc' := 10) rfl (hb hby d4_2) rfl (XT.ii_ge_t hc2) (by decide) (by decide) k)
    exact b10 s₁ _ X0 e0 N0 (.val (.ref a_o0)) (Or.inr ⟨_, rfl, rfl⟩) (.val (.int p1)) (Or.inr ⟨_, rfl, rfl⟩) (.val (.int p2)) (Or.inr ⟨_, rfl, rfl⟩) (.val (.int p3)) (Or.inr ⟨_, rfl, rfl⟩)
theorem d3_0 : decode method_4_code 0 = .ok (.aload_n 0, 1) := by decide +kernel
theorem d3_1 : decode method_4_code 1 = .ok (.iload_n 2, 1) := by decide +kernel
theorem d3_2 : decode method_4_code 2 = .ok (.iaload, 1) := by decide +kernel
theorem d3_3 : decode method_4_code 3 = .ok (.ifCond .ne 5, 3) := by decide +kernel
theorem d3_6 : decode method_4_code 6 = .ok (.iconst 0, 1) := by decide +kernel
theorem d3_7 : decode method_4_code 7 = .ok (.ireturn, 1) := by decide +kernel
theorem d3_8 : decode method_4_code 8 = .ok (.aload_n 0, 1) := by decide +kernel
theorem d3_9 : decode method_4_code 9 = .ok (.iload_n 1, 1) := by decide +kernel
theorem d3_10 : decode method_4_code 10 = .ok (.iload_n 2, 1) := by decide +kernel
theorem d3_11 : decode method_4_code 11 = .ok (.iconst 0, 1) := by decide +kernel
theorem d3_12 : decode method_4_code 12 = .ok (.invokestatic 24, 3) := by decide +kernel
theorem d3_15 : decode method_4_code 15 = .ok (.aload_n 0, 1) := by decide +kernel
theorem d3_16 : decode method_4_code 16 = .ok (.iload_n 1, 1) := by decide +kernel
theorem d3_17 : decode method_4_code 17 = .ok (.iload_n 2, 1) := by decide +kernel
theorem d3_18 : decode method_4_code 18 = .ok (.iconst 1, 1) := by decide +kernel
theorem d3_19 : decode method_4_code 19 = .ok (.invokestatic 24, 3) := by decide +kernel
theorem d3_22 : decode method_4_code 22 = .ok (.iadd, 1) := by decide +kernel
theorem d3_23 : decode method_4_code 23 = .ok (.aload_n 0, 1) := by decide +kernel
theorem d3_24 : decode method_4_code 24 = .ok (.iload_n 1, 1) := by decide +kernel
theorem d3_25 : decode method_4_code 25 = .ok (.iload_n 2, 1) := by decide +kernel
theorem d3_26 : decode method_4_code 26 = .ok (.iconst 2, 1) := by decide +kernel
theorem d3_27 : decode method_4_code 27 = .ok (.invokestatic 24, 3) := by decide +kernel
theorem d3_30 : decode method_4_code 30 = .ok (.iadd, 1) := by decide +kernel
theorem d3_31 : decode method_4_code 31 = .ok (.aload_n 0, 1) := by decide +kernel
theorem d3_32 : decode method_4_code 32 = .ok (.iload_n 1, 1) := by decide +kernel
theorem d3_33 : decode method_4_code 33 = .ok (.iload_n 2, 1) := by decide +kernel
theorem d3_34 : decode method_4_code 34 = .ok (.iconst 3, 1) := by decide +kernel
theorem d3_35 : decode method_4_code 35 = .ok (.invokestatic 24, 3) := by decide +kernel
theorem d3_38 : decode method_4_code 38 = .ok (.iadd, 1) := by decide +kernel
theorem d3_39 : decode method_4_code 39 = .ok (.aload_n 0, 1) := by decide +kernel
theorem d3_40 : decode method_4_code 40 = .ok (.iload_n 1, 1) := by decide +kernel
theorem d3_41 : decode method_4_code 41 = .ok (.iload_n 2, 1) := by decide +kernel
theorem d3_42 : decode method_4_code 42 = .ok (.iconst 4, 1) := by decide +kernel
theorem d3_43 : decode method_4_code 43 = .ok (.invokestatic 24, 3) := by decide +kernel
theorem d3_46 : decode method_4_code 46 = .ok (.iadd, 1) := by decide +kernel
theorem d3_47 : decode method_4_code 47 = .ok (.ireturn, 1) := by decide +kernel
theorem pn_3 : plainFor (⟨"lakewright/zstd/HuffmanTableFirstEntriesPinLaw", "expected", "([III)I"⟩ : MethodName) = true := by first | exact plainFor_of_name (by first | (simp [plainName, overriddenIn]; done) | decide +kernel) | decide +kernel
theorem ef_3 (m : MethodId) (y0 : Addr) (y1 : Int32) (y2 : Int32) : entryFrame m #[(.ref y0), (.int y1), (.int y2)] 3 = mkF m 0 #[.val (.ref y0), .val (.int y1), .val (.int y2)] [] := by first | (simp [entryFrame, mkF, argsToLocals, Value.category]; done) | rfl
def Q3 (Z : State) (a_o0 : Addr) (n_o0 : Nat) (f_o0 : Nat → Int32) (h0 : Heap) (n0 : Nat) (ans : Int32) (v : Option Value) (h : Heap) (L : List Loc) : Prop := v = some (.int ans) ∧ Fr n0 L ∧ h = h0
set_option maxRecDepth 65536 in
set_option maxHeartbeats 40000000 in
theorem rm3 (l : Launch) (Z : State) (a0 : Array Value) (hw : ∀ d ∈ tables_1, d.before a0 Z = true) (p1 : Int32) (p2 : Int32) (n_o0 : Nat) (f_o0 : Nat → Int32) (a_o0 : Addr) (h0 : Heap) (n0 : Nat) (Z0 : n0 ≤ h0.size) (A_o0 : Ar Z h0 a_o0 .int n_o0 f_o0) (ok : O3 p1 p2 n_o0 f_o0) :
    Meets l Z (⟨"lakewright/zstd/HuffmanTableFirstEntriesPinLaw", "expected", "([III)I"⟩ : MethodName) method_4_code 3 (some .int) [] ({ frames := 1, cells := 0, slots := 0, locals := 17 } : Room) #[(.ref a_o0), (.int p1), (.int p2)] h0 (Q3 Z a_o0 n_o0 f_o0 h0 n0 (F3 p1 p2 n_o0 f_o0)) 0 0 := by
  refine Meets.of pn_3 ?_
  intro p e s m below meth c s₁ hx hby hml hZ hown hnm hret hlk X0 e0
  have hml : c.maxLocals = 3 := hml
  have hown : s.vm.findClass "lakewright/zstd/HuffmanTableFirstEntriesPinLaw" = some m.cls := hown
  have N0 := Fr.nil n0
  have b6 : ∀ (T : State) (L : List Loc) (X : Stand p l e ({ frames := 1, cells := 0, slots := 0, locals := 17 } : Room) s m #[(.ref a_o0), (.int p1), (.int p2)] below meth c T L 0 0) (eT : T.heap = h0) (N : Fr n0 L) (d0 : Slot) (od0 : OneS d0) (d1 : Slot) (od1 : OneS d1) (d2 : Slot) (od2 : OneS d2), Ends p e below s 0 0 (Q3 Z a_o0 n_o0 f_o0 h0 n0 (F3_6 n_o0 f_o0)) (T.setTop (mkF m 6 #[d0, d1, d2] [])) := by
    intro T L X eT N d0 od0 d1 od1 d2 od2
    refine Ends.step (u' := (T.setTop (mkF m 7 #[d0, d1, d2] [(.int (0 : Int32))]))) ?_ (fun _ k => XT.iconstV X.here hx rfl (0 : Int32) (hb hby d3_6) rfl k)
    exact Ends.ret X (v := some (.int (0 : Int32))) (fun q => by rw [hret] at q; cases q) hlk (fun fs hr => retI X hx hret (hb hby d3_7) hr) (by decide) (by decide) ⟨rfl, N, eT⟩
  have b8 : ∀ (T : State) (L : List Loc) (X : Stand p l e ({ frames := 1, cells := 0, slots := 0, locals := 17 } : Room) s m #[(.ref a_o0), (.int p1), (.int p2)] below meth c T L 0 0) (eT : T.heap = h0) (N : Fr n0 L) (x1 : Int32) (x2 : Int32) (ok : (O3_8 n_o0 f_o0 x1 x2)), Ends p e below s 0 0 (Q3 Z a_o0 n_o0 f_o0 h0 n0 (F3_8 n_o0 f_o0 x1 x2)) (T.setTop (mkF m 8 #[.val (.ref a_o0), .val (.int x1), .val (.int x2)] [])) := by
    intro T L X eT N x1 x2 ok
    obtain ⟨o1, o2, o3, o4, o5, ok⟩ := ok
    refine Ends.step (u' := (T.setTop (mkF m 9 #[.val (.ref a_o0), .val (.int x1), .val (.int x2)] [(.ref a_o0)]))) ?_ (fun _ k => XS.aloadN X.here hx rfl (hb hby d3_8) rfl rfl k)
    refine Ends.step (u' := (T.setTop (mkF m 10 #[.val (.ref a_o0), .val (.int x1), .val (.int x2)] [(.int x1), (.ref a_o0)]))) ?_ (fun _ k => XS.iloadN X.here hx rfl (hb hby d3_9) rfl k)
    refine Ends.step (u' := (T.setTop (mkF m 11 #[.val (.ref a_o0), .val (.int x1), .val (.int x2)] [(.int x2), (.int x1), (.ref a_o0)]))) ?_ (fun _ k => XS.iloadN X.here hx rfl (hb hby d3_10) rfl k)
    refine Ends.step (u' := (T.setTop (mkF m 12 #[.val (.ref a_o0), .val (.int x1), .val (.int x2)] [(.int (0 : Int32)), (.int x2), (.int x1), (.ref a_o0)]))) ?_ (fun _ k => XT.iconstV X.here hx rfl (0 : Int32) (hb hby d3_11) rfl k)
    refine Ends.callS X hx hZ hown (hw _ (List.mem_of_getElem? (i := 14) rfl)) (hw _ (List.mem_of_getElem? (i := 15) rfl)) (hw _ (List.mem_of_getElem? (i := 3) rfl)) (hw _ (List.mem_of_getElem? (i := 16) rfl)) (by decide) (rm4 l Z a0 hw x1 x2 (0 : Int32) n_o0 f_o0 a_o0 h0 n0 Z0 A_o0 o1) 0 (by decide) (by decide) eT  (g := (mkF m 12 #[.val (.ref a_o0), .val (.int x1), .val (.int x2)] [(.int (0 : Int32)), (.int x2), (.int x1), (.ref a_o0)])) rfl (by rw [hml]; rfl)  [(.ref a_o0), (.int x1), (.int x2), (.int (0 : Int32))] [] (lenOf pd_0 rfl) rfl (by show 2 * 0 + _ ≤ _; exact Nat.le_of_eq rfl) (hb hby d3_12) rfl (by decide) (by decide) (fun v1 T1 L1 X1 hQ1 => ?_)
    obtain ⟨rfl, Nq1, e1⟩ := hQ1
    have N1 := Fr.app N Nq1
    show Ends p e below s _ _ _ (T1.setTop (mkF m 15 #[.val (.ref a_o0), .val (.int x1), .val (.int x2)] [(.int (F4 x1 x2 (0 : Int32) n_o0 f_o0))]))
    refine Ends.step (u' := (T1.setTop (mkF m 16 #[.val (.ref a_o0), .val (.int x1), .val (.int x2)] [(.ref a_o0), (.int (F4 x1 x2 (0 : Int32) n_o0 f_o0))]))) ?_ (fun _ k => XS.aloadN X1.here hx rfl (hb hby d3_15) rfl rfl k)
    refine Ends.step (u' := (T1.setTop (mkF m 17 #[.val (.ref a_o0), .val (.int x1), .val (.int x2)] [(.int x1), (.ref a_o0), (.int (F4 x1 x2 (0 : Int32) n_o0 f_o0))]))) ?_ (fun _ k => XS.iloadN X1.here hx rfl (hb hby d3_16) rfl k)
    refine Ends.step (u' := (T1.setTop (mkF m 18 #[.val (.ref a_o0), .val (.int x1), .val (.int x2)] [(.int x2), (.int x1), (.ref a_o0), (.int (F4 x1 x2 (0 : Int32) n_o0 f_o0))]))) ?_ (fun _ k => XS.iloadN X1.here hx rfl (hb hby d3_17) rfl k)
    refine Ends.step (u' := (T1.setTop (mkF m 19 #[.val (.ref a_o0), .val (.int x1), .val (.int x2)] [(.int (1 : Int32)), (.int x2), (.int x1), (.ref a_o0), (.int (F4 x1 x2 (0 : Int32) n_o0 f_o0))]))) ?_ (fun _ k => XT.iconstV X1.here hx rfl (1 : Int32) (hb hby d3_18) rfl k)
    refine Ends.callS X1 hx hZ hown (hw _ (List.mem_of_getElem? (i := 14) rfl)) (hw _ (List.mem_of_getElem? (i := 15) rfl)) (hw _ (List.mem_of_getElem? (i := 3) rfl)) (hw _ (List.mem_of_getElem? (i := 16) rfl)) (by decide) (rm4 l Z a0 hw x1 x2 (1 : Int32) n_o0 f_o0 a_o0 h0 n0 Z0 A_o0 o2) 1 (by decide) (by decide) e1  (g := (mkF m 19 #[.val (.ref a_o0), .val (.int x1), .val (.int x2)] [(.int (1 : Int32)), (.int x2), (.int x1), (.ref a_o0), (.int (F4 x1 x2 (0 : Int32) n_o0 f_o0))])) rfl (by rw [hml]; rfl)  [(.ref a_o0), (.int x1), (.int x2), (.int (1 : Int32))] [(.int (F4 x1 x2 (0 : Int32) n_o0 f_o0))] (lenOf pd_0 rfl) rfl (by show 2 * 0 + _ ≤ _; exact Nat.le_of_eq rfl) (hb hby d3_19) rfl (by decide) (by decide) (fun v2 T2 L2 X2 hQ2 => ?_)
    obtain ⟨rfl, Nq2, e2⟩ := hQ2
    have N2 := Fr.app N1 Nq2
    show Ends p e below s _ _ _ (T2.setTop (mkF m 22 #[.val (.ref a_o0), .val (.int x1), .val (.int x2)] [(.int (F4 x1 x2 (1 : Int32) n_o0 f_o0)), (.int (F4 x1 x2 (0 : Int32) n_o0 f_o0))]))
    refine Ends.step (u' := (T2.setTop (mkF m 23 #[.val (.ref a_o0), .val (.int x1), .val (.int x2)] [(.int ((F4 x1 x2 (0 : Int32) n_o0 f_o0) + (F4 x1 x2 (1 : Int32) n_o0 f_o0)))]))) ?_ (fun _ k => XS.iadd X2.here hx rfl (hb hby d3_22) rfl k)
    refine Ends.step (u' := (T2.setTop (mkF m 24 #[.val (.ref a_o0), .val (.int x1), .val (.int x2)] [(.ref a_o0), (.int ((F4 x1 x2 (0 : Int32) n_o0 f_o0) + (F4 x1 x2 (1 : Int32) n_o0 f_o0)))]))) ?_ (fun _ k => XS.aloadN X2.here hx rfl (hb hby d3_23) rfl rfl k)
    refine Ends.step (u' := (T2.setTop (mkF m 25 #[.val (.ref a_o0), .val (.int x1), .val (.int x2)] [(.int x1), (.ref a_o0), (.int ((F4 x1 x2 (0 : Int32) n_o0 f_o0) + (F4 x1 x2 (1 : Int32) n_o0 f_o0)))]))) ?_ (fun _ k => XS.iloadN X2.here hx rfl (hb hby d3_24) rfl k)
    refine Ends.step (u' := (T2.setTop (mkF m 26 #[.val (.ref a_o0), .val (.int x1), .val (.int x2)] [(.int x2), (.int x1), (.ref a_o0), (.int ((F4 x1 x2 (0 : Int32) n_o0 f_o0) + (F4 x1 x2 (1 : Int32) n_o0 f_o0)))]))) ?_ (fun _ k => XS.iloadN X2.here hx rfl (hb hby d3_25) rfl k)
    refine Ends.step (u' := (T2.setTop (mkF m 27 #[.val (.ref a_o0), .val (.int x1), .val (.int x2)] [(.int (2 : Int32)), (.int x2), (.int x1), (.ref a_o0), (.int ((F4 x1 x2 (0 : Int32) n_o0 f_o0) + (F4 x1 x2 (1 : Int32) n_o0 f_o0)))]))) ?_ (fun _ k => XT.iconstV X2.here hx rfl (2 : Int32) (hb hby d3_26) rfl k)
    refine Ends.callS X2 hx hZ hown (hw _ (List.mem_of_getElem? (i := 14) rfl)) (hw _ (List.mem_of_getElem? (i := 15) rfl)) (hw _ (List.mem_of_getElem? (i := 3) rfl)) (hw _ (List.mem_of_getElem? (i := 16) rfl)) (by decide) (rm4 l Z a0 hw x1 x2 (2 : Int32) n_o0 f_o0 a_o0 h0 n0 Z0 A_o0 o3) 1 (by decide) (by decide) e2  (g := (mkF m 27 #[.val (.ref a_o0), .val (.int x1), .val (.int x2)] [(.int (2 : Int32)), (.int x2), (.int x1), (.ref a_o0), (.int ((F4 x1 x2 (0 : Int32) n_o0 f_o0) + (F4 x1 x2 (1 : Int32) n_o0 f_o0)))])) rfl (by rw [hml]; rfl)  [(.ref a_o0), (.int x1), (.int x2), (.int (2 : Int32))] [(.int ((F4 x1 x2 (0 : Int32) n_o0 f_o0) + (F4 x1 x2 (1 : Int32) n_o0 f_o0)))] (lenOf pd_0 rfl) rfl (by show 2 * 0 + _ ≤ _; exact Nat.le_of_eq rfl) (hb hby d3_27) rfl (by decide) (by decide) (fun v3 T3 L3 X3 hQ3 => ?_)
    obtain ⟨rfl, Nq3, e3⟩ := hQ3
    have N3 := Fr.app N2 Nq3
    show Ends p e below s _ _ _ (T3.setTop (mkF m 30 #[.val (.ref a_o0), .val (.int x1), .val (.int x2)] [(.int (F4 x1 x2 (2 : Int32) n_o0 f_o0)), (.int ((F4 x1 x2 (0 : Int32) n_o0 f_o0) + (F4 x1 x2 (1 : Int32) n_o0 f_o0)))]))
    refine Ends.step (u' := (T3.setTop (mkF m 31 #[.val (.ref a_o0), .val (.int x1), .val (.int x2)] [(.int (((F4 x1 x2 (0 : Int32) n_o0 f_o0) + (F4 x1 x2 (1 : Int32) n_o0 f_o0)) + (F4 x1 x2 (2 : Int32) n_o0 f_o0)))]))) ?_ (fun _ k => XS.iadd X3.here hx rfl (hb hby d3_30) rfl k)
    refine Ends.step (u' := (T3.setTop (mkF m 32 #[.val (.ref a_o0), .val (.int x1), .val (.int x2)] [(.ref a_o0), (.int (((F4 x1 x2 (0 : Int32) n_o0 f_o0) + (F4 x1 x2 (1 : Int32) n_o0 f_o0)) + (F4 x1 x2 (2 : Int32) n_o0 f_o0)))]))) ?_ (fun _ k => XS.aloadN X3.here hx rfl (hb hby d3_31) rfl rfl k)
    refine Ends.step (u' := (T3.setTop (mkF m 33 #[.val (.ref a_o0), .val (.int x1), .val (.int x2)] [(.int x1), (.ref a_o0), (.int (((F4 x1 x2 (0 : Int32) n_o0 f_o0) + (F4 x1 x2 (1 : Int32) n_o0 f_o0)) + (F4 x1 x2 (2 : Int32) n_o0 f_o0)))]))) ?_ (fun _ k => XS.iloadN X3.here hx rfl (hb hby d3_32) rfl k)
    refine Ends.step (u' := (T3.setTop (mkF m 34 #[.val (.ref a_o0), .val (.int x1), .val (.int x2)] [(.int x2), (.int x1), (.ref a_o0), (.int (((F4 x1 x2 (0 : Int32) n_o0 f_o0) + (F4 x1 x2 (1 : Int32) n_o0 f_o0)) + (F4 x1 x2 (2 : Int32) n_o0 f_o0)))]))) ?_ (fun _ k => XS.iloadN X3.here hx rfl (hb hby d3_33) rfl k)
    refine Ends.step (u' := (T3.setTop (mkF m 35 #[.val (.ref a_o0), .val (.int x1), .val (.int x2)] [(.int (3 : Int32)), (.int x2), (.int x1), (.ref a_o0), (.int (((F4 x1 x2 (0 : Int32) n_o0 f_o0) + (F4 x1 x2 (1 : Int32) n_o0 f_o0)) + (F4 x1 x2 (2 : Int32) n_o0 f_o0)))]))) ?_ (fun _ k => XT.iconstV X3.here hx rfl (3 : Int32) (hb hby d3_34) rfl k)
    refine Ends.callS X3 hx hZ hown (hw _ (List.mem_of_getElem? (i := 14) rfl)) (hw _ (List.mem_of_getElem? (i := 15) rfl)) (hw _ (List.mem_of_getElem? (i := 3) rfl)) (hw _ (List.mem_of_getElem? (i := 16) rfl)) (by decide) (rm4 l Z a0 hw x1 x2 (3 : Int32) n_o0 f_o0 a_o0 h0 n0 Z0 A_o0 o4) 1 (by decide) (by decide) e3  (g := (mkF m 35 #[.val (.ref a_o0), .val (.int x1), .val (.int x2)] [(.int (3 : Int32)), (.int x2), (.int x1), (.ref a_o0), (.int (((F4 x1 x2 (0 : Int32) n_o0 f_o0) + (F4 x1 x2 (1 : Int32) n_o0 f_o0)) + (F4 x1 x2 (2 : Int32) n_o0 f_o0)))])) rfl (by rw [hml]; rfl)  [(.ref a_o0), (.int x1), (.int x2), (.int (3 : Int32))] [(.int (((F4 x1 x2 (0 : Int32) n_o0 f_o0) + (F4 x1 x2 (1 : Int32) n_o0 f_o0)) + (F4 x1 x2 (2 : Int32) n_o0 f_o0)))] (lenOf pd_0 rfl) rfl (by show 2 * 0 + _ ≤ _; exact Nat.le_of_eq rfl) (hb hby d3_35) rfl (by decide) (by decide) (fun v4 T4 L4 X4 hQ4 => ?_)
    obtain ⟨rfl, Nq4, e4⟩ := hQ4
    have N4 := Fr.app N3 Nq4
    show Ends p e below s _ _ _ (T4.setTop (mkF m 38 #[.val (.ref a_o0), .val (.int x1), .val (.int x2)] [(.int (F4 x1 x2 (3 : Int32) n_o0 f_o0)), (.int (((F4 x1 x2 (0 : Int32) n_o0 f_o0) + (F4 x1 x2 (1 : Int32) n_o0 f_o0)) + (F4 x1 x2 (2 : Int32) n_o0 f_o0)))]))
    refine Ends.step (u' := (T4.setTop (mkF m 39 #[.val (.ref a_o0), .val (.int x1), .val (.int x2)] [(.int ((((F4 x1 x2 (0 : Int32) n_o0 f_o0) + (F4 x1 x2 (1 : Int32) n_o0 f_o0)) + (F4 x1 x2 (2 : Int32) n_o0 f_o0)) + (F4 x1 x2 (3 : Int32) n_o0 f_o0)))]))) ?_ (fun _ k => XS.iadd X4.here hx rfl (hb hby d3_38) rfl k)
    refine Ends.step (u' := (T4.setTop (mkF m 40 #[.val (.ref a_o0), .val (.int x1), .val (.int x2)] [(.ref a_o0), (.int ((((F4 x1 x2 (0 : Int32) n_o0 f_o0) + (F4 x1 x2 (1 : Int32) n_o0 f_o0)) + (F4 x1 x2 (2 : Int32) n_o0 f_o0)) + (F4 x1 x2 (3 : Int32) n_o0 f_o0)))]))) ?_ (fun _ k => XS.aloadN X4.here hx rfl (hb hby d3_39) rfl rfl k)
    refine Ends.step (u' := (T4.setTop (mkF m 41 #[.val (.ref a_o0), .val (.int x1), .val (.int x2)] [(.int x1), (.ref a_o0), (.int ((((F4 x1 x2 (0 : Int32) n_o0 f_o0) + (F4 x1 x2 (1 : Int32) n_o0 f_o0)) + (F4 x1 x2 (2 : Int32) n_o0 f_o0)) + (F4 x1 x2 (3 : Int32) n_o0 f_o0)))]))) ?_ (fun _ k => XS.iloadN X4.here hx rfl (hb hby d3_40) rfl k)
    refine Ends.step (u' := (T4.setTop (mkF m 42 #[.val (.ref a_o0), .val (.int x1), .val (.int x2)] [(.int x2), (.int x1), (.ref a_o0), (.int ((((F4 x1 x2 (0 : Int32) n_o0 f_o0) + (F4 x1 x2 (1 : Int32) n_o0 f_o0)) + (F4 x1 x2 (2 : Int32) n_o0 f_o0)) + (F4 x1 x2 (3 : Int32) n_o0 f_o0)))]))) ?_ (fun _ k => XS.iloadN X4.here hx rfl (hb hby d3_41) rfl k)
    refine Ends.step (u' := (T4.setTop (mkF m 43 #[.val (.ref a_o0), .val (.int x1), .val (.int x2)] [(.int (4 : Int32)), (.int x2), (.int x1), (.ref a_o0), (.int ((((F4 x1 x2 (0 : Int32) n_o0 f_o0) + (F4 x1 x2 (1 : Int32) n_o0 f_o0)) + (F4 x1 x2 (2 : Int32) n_o0 f_o0)) + (F4 x1 x2 (3 : Int32) n_o0 f_o0)))]))) ?_ (fun _ k => XT.iconstV X4.here hx rfl (4 : Int32) (hb hby d3_42) rfl k)
    refine Ends.callS X4 hx hZ hown (hw _ (List.mem_of_getElem? (i := 14) rfl)) (hw _ (List.mem_of_getElem? (i := 15) rfl)) (hw _ (List.mem_of_getElem? (i := 3) rfl)) (hw _ (List.mem_of_getElem? (i := 16) rfl)) (by decide) (rm4 l Z a0 hw x1 x2 (4 : Int32) n_o0 f_o0 a_o0 h0 n0 Z0 A_o0 o5) 1 (by decide) (by decide) e4  (g := (mkF m 43 #[.val (.ref a_o0), .val (.int x1), .val (.int x2)] [(.int (4 : Int32)), (.int x2), (.int x1), (.ref a_o0), (.int ((((F4 x1 x2 (0 : Int32) n_o0 f_o0) + (F4 x1 x2 (1 : Int32) n_o0 f_o0)) + (F4 x1 x2 (2 : Int32) n_o0 f_o0)) + (F4 x1 x2 (3 : Int32) n_o0 f_o0)))])) rfl (by rw [hml]; rfl)  [(.ref a_o0), (.int x1), (.int x2), (.int (4 : Int32))] [(.int ((((F4 x1 x2 (0 : Int32) n_o0 f_o0) + (F4 x1 x2 (1 : Int32) n_o0 f_o0)) + (F4 x1 x2 (2 : Int32) n_o0 f_o0)) + (F4 x1 x2 (3 : Int32) n_o0 f_o0)))] (lenOf pd_0 rfl) rfl (by show 2 * 0 + _ ≤ _; exact Nat.le_of_eq rfl) (hb hby d3_43) rfl (by decide) (by decide) (fun v5 T5 L5 X5 hQ5 => ?_)
    obtain ⟨rfl, Nq5, e5⟩ := hQ5
    have N5 := Fr.app N4 Nq5
    show Ends p e below s _ _ _ (T5.setTop (mkF m 46 #[.val (.ref a_o0), .val (.int x1), .val (.int x2)] [(.int (F4 x1 x2 (4 : Int32) n_o0 f_o0)), (.int ((((F4 x1 x2 (0 : Int32) n_o0 f_o0) + (F4 x1 x2 (1 : Int32) n_o0 f_o0)) + (F4 x1 x2 (2 : Int32) n_o0 f_o0)) + (F4 x1 x2 (3 : Int32) n_o0 f_o0)))]))
    refine Ends.step (u' := (T5.setTop (mkF m 47 #[.val (.ref a_o0), .val (.int x1), .val (.int x2)] [(.int (((((F4 x1 x2 (0 : Int32) n_o0 f_o0) + (F4 x1 x2 (1 : Int32) n_o0 f_o0)) + (F4 x1 x2 (2 : Int32) n_o0 f_o0)) + (F4 x1 x2 (3 : Int32) n_o0 f_o0)) + (F4 x1 x2 (4 : Int32) n_o0 f_o0)))]))) ?_ (fun _ k => XS.iadd X5.here hx rfl (hb hby d3_46) rfl k)
    exact Ends.ret X5 (v := some (.int (((((F4 x1 x2 (0 : Int32) n_o0 f_o0) + (F4 x1 x2 (1 : Int32) n_o0 f_o0)) + (F4 x1 x2 (2 : Int32) n_o0 f_o0)) + (F4 x1 x2 (3 : Int32) n_o0 f_o0)) + (F4 x1 x2 (4 : Int32) n_o0 f_o0)))) (fun q => by rw [hret] at q; cases q) hlk (fun fs hr => retI X5 hx hret (hb hby d3_47) hr) (by decide) (by decide) ⟨rfl, N5, e5⟩
  refine Ends.step (u' := (s₁.setTop (mkF m 0 #[.val (.ref a_o0), .val (.int p1), .val (.int p2)] []))) ?_ (fun _ k => castTop (ef_3 m a_o0 p1 p2) k)
  obtain ⟨o1, okt, okf⟩ := ok
  refine Ends.step (u' := (s₁.setTop (mkF m 1 #[.val (.ref a_o0), .val (.int p1), .val (.int p2)] [(.ref a_o0)]))) ?_ (fun _ k => XS.aloadN X0.here hx rfl (hb hby d3_0) rfl rfl k)
  refine Ends.step (u' := (s₁.setTop (mkF m 2 #[.val (.ref a_o0), .val (.int p1), .val (.int p2)] [(.int p2), (.ref a_o0)]))) ?_ (fun _ k => XS.iloadN X0.here hx rfl (hb hby d3_1) rfl k)
  refine Ends.iaload X0 hx hZ e0 A_o0 o1 (g := (mkF m 2 #[.val (.ref a_o0), .val (.int p1), .val (.int p2)] [(.int p2), (.ref a_o0)])) rfl rfl (hb hby d3_2) ?_
  show Ends p e below s _ _ _ (s₁.setTop (mkF m 3 #[.val (.ref a_o0), .val (.int p1), .val (.int p2)] [(.int (f_o0 (p2).toNatClampNeg))]))
  by_cases hc3 : (f_o0 (p2).toNatClampNeg) = 0
  · refine Eq.mp (congrArg (fun z => Ends p e below s 0 0 (Q3 Z a_o0 n_o0 f_o0 h0 n0 z) (s₁.setTop (mkF m 3 #[.val (.ref a_o0), .val (.int p1), .val (.int p2)] [(.int (f_o0 (p2).toNatClampNeg))]))) (show (F3 p1 p2 n_o0 f_o0) = (F3_6 n_o0 f_o0) from (if_pos hc3)).symm) ?_
    refine Ends.step (u' := (s₁.setTop (mkF m 6 #[.val (.ref a_o0), .val (.int p1), .val (.int p2)] []))) ?_ (fun _ k => XS.ifNo X0.here hx rfl (hb hby d3_3) rfl (XT.i0_ne_f hc3) k)
    exact b6 s₁ _ X0 e0 N0 (.val (.ref a_o0)) (Or.inr ⟨_, rfl, rfl⟩) (.val (.int p1)) (Or.inr ⟨_, rfl, rfl⟩) (.val (.int p2)) (Or.inr ⟨_, rfl, rfl⟩)
  · refine Eq.mp (congrArg (fun z => Ends p e below s 0 0 (Q3 Z a_o0 n_o0 f_o0 h0 n0 z) (s₁.setTop (mkF m 3 #[.val (.ref a_o0), .val (.int p1), .val (.int p2)] [(.int (f_o0 (p2).toNatClampNeg))]))) (show (F3 p1 p2 n_o0 f_o0) = (F3_8 n_o0 f_o0 p1 p2) from (if_neg hc3)).symm) ?_
    refine Ends.step (u' := (s₁.setTop (mkF m 8 #[.val (.ref a_o0), .val (.int p1), .val (.int p2)] []))) ?_ (fun _ k => XS.ifYes X0.here hx rfl (pc0 := 3) (pc' := 8) rfl (hb hby d3_3) rfl (XT.i0_ne_t hc3) (by decide) (by decide) k)
    exact b8 s₁ _ X0 e0 N0 p1 p2 (okf hc3)
theorem pn_0 : plainFor x = true := by first | exact plainFor_of_name (by first | (simp [plainName, overriddenIn]; done) | decide +kernel) | decide +kernel
theorem ef_0 (m : MethodId) (y0 : Int32) (y1 : Int32) (y2 : Int32) (y3 : Int32) (y4 : Int32) (y5 : Int32) : entryFrame m #[(.int y0), (.int y1), (.int y2), (.int y3), (.int y4), (.int y5)] maxLocals = mkF m 0 #[.val (.int y0), .val (.int y1), .val (.int y2), .val (.int y3), .val (.int y4), .val (.int y5), .unset, .unset, .unset, .unset, .unset, .unset, .unset, .unset, .unset, .unset] [] := by first | (simp [entryFrame, mkF, argsToLocals, Value.category, maxLocals]; done) | rfl
def Q0 (Z : State)   (h0 : Heap) (n0 : Nat) (ans : Int32) (v : Option Value) (h : Heap) (L : List Loc) : Prop := v = some (.int ans) ∧ Fr n0 L
set_option maxRecDepth 65536 in
set_option maxHeartbeats 40000000 in
theorem rm0 (l : Launch) (Z : State) (a0 : Array Value) (hw : ∀ d ∈ tables_1, d.before a0 Z = true) (K : Nat) (p0 : Int32) (p1 : Int32) (p2 : Int32) (p3 : Int32) (p4 : Int32) (p5 : Int32)  (h0 : Heap) (n0 : Nat) (Z0 : n0 ≤ h0.size)  (ok : O0 K p0 p1 p2 p3 p4 p5) :
    Meets l Z x code maxLocals ret tables_1 room_1 #[(.int p0), (.int p1), (.int p2), (.int p3), (.int p4), (.int p5)] h0 (Q0 Z  h0 n0 (F0 K p0 p1 p2 p3 p4 p5)) 4 28 := by
  refine Meets.of pn_0 ?_
  intro p e s m below meth c s₁ hx hby hml hZ hown hnm hret hlk X0 e0
  have hml : c.maxLocals = 16 := hml
  have hown : s.vm.findClass "lakewright/zstd/HuffmanTableFirstEntriesPinLaw" = some m.cls := hown
  have N0 := Fr.nil n0
  have b123 : ∀ (T : State) (L : List Loc) (h : Heap) (X : Stand p l e room_1 s m #[(.int p0), (.int p1), (.int p2), (.int p3), (.int p4), (.int p5)] below meth c T L 4 28) (eT : T.heap = h) (N : Fr n0 L) (Zs : n0 ≤ h.size) (d0 : Slot) (od0 : OneS d0) (d1 : Slot) (od1 : OneS d1) (d2 : Slot) (od2 : OneS d2) (d3 : Slot) (od3 : OneS d3) (d4 : Slot) (od4 : OneS d4) (d5 : Slot) (od5 : OneS d5) (d6 : Slot) (od6 : OneS d6) (d7 : Slot) (od7 : OneS d7) (d8 : Slot) (od8 : OneS d8) (d9 : Slot) (od9 : OneS d9) (d10 : Slot) (od10 : OneS d10) (d11 : Slot) (od11 : OneS d11) (d12 : Slot) (od12 : OneS d12) (d13 : Slot) (od13 : OneS d13) (d14 : Slot) (od14 : OneS d14), Ends p e below s 4 28 (Q0 Z  h0 n0 (F0_123 K)) (T.setTop (mkF m 123 #[d0, d1, d2, d3, d4, d5, d6, d7, d8, d9, d10, d11, d12, d13, d14, .unset] [])) := by
    intro T L h X eT N Zs d0 od0 d1 od1 d2 od2 d3 od3 d4 od4 d5 od5 d6 od6 d7 od7 d8 od8 d9 od9 d10 od10 d11 od11 d12 od12 d13 od13 d14 od14
    refine Ends.step (u' := (T.setTop (mkF m 124 #[d0, d1, d2, d3, d4, d5, d6, d7, d8, d9, d10, d11, d12, d13, d14, .unset] [(.int (0 : Int32))]))) ?_ (fun _ k => XT.iconstV X.here hx rfl (0 : Int32) (hb hby at_123) rfl k)
    exact Ends.ret X (v := some (.int (nar .boolean (0 : Int32)))) (fun q => by rw [hret] at q; cases q) hlk (fun fs hr => retN X hx (t := .boolean) hret (by simp) (hb hby at_124) hr) (by decide) (by decide) ⟨rfl, N⟩
  have b290 : ∀ (T : State) (L : List Loc) (h : Heap) (X : Stand p l e room_1 s m #[(.int p0), (.int p1), (.int p2), (.int p3), (.int p4), (.int p5)] below meth c T L 4 28) (eT : T.heap = h) (N : Fr n0 L) (Zs : n0 ≤ h.size) (t0 : Int32) (d0 : Slot) (od0 : OneS d0) (d1 : Slot) (od1 : OneS d1) (d2 : Slot) (od2 : OneS d2) (d3 : Slot) (od3 : OneS d3) (d4 : Slot) (od4 : OneS d4) (d5 : Slot) (od5 : OneS d5) (d6 : Slot) (od6 : OneS d6) (d7 : Slot) (od7 : OneS d7) (d8 : Slot) (od8 : OneS d8) (d9 : Slot) (od9 : OneS d9) (d10 : Slot) (od10 : OneS d10) (d11 : Slot) (od11 : OneS d11) (d12 : Slot) (od12 : OneS d12) (d13 : Slot) (od13 : OneS d13) (d14 : Slot) (od14 : OneS d14) (d15 : Slot) (od15 : OneS d15), Ends p e below s 4 28 (Q0 Z  h0 n0 (F0_290 K t0)) (T.setTop (mkF m 290 #[d0, d1, d2, d3, d4, d5, d6, d7, d8, d9, d10, d11, d12, d13, d14, d15] [(.int t0)])) := by
    intro T L h X eT N Zs t0 d0 od0 d1 od1 d2 od2 d3 od3 d4 od4 d5 od5 d6 od6 d7 od7 d8 od8 d9 od9 d10 od10 d11 od11 d12 od12 d13 od13 d14 od14 d15 od15
    refine Ends.step (u' := (T.setTop (mkF m 292 #[d0, d1, d2, d3, d4, d5, d6, d7, d8, d9, d10, d11, d12, d13, d14, .val (.int t0)] []))) ?_ (fun _ k => XS.istoreS X.here hx rfl (hb hby at_290) rfl rfl od15 k)
    refine Ends.step (u' := (T.setTop (mkF m 294 #[d0, d1, d2, d3, d4, d5, d6, d7, d8, d9, d10, d11, d12, d13, d14, .val (.int t0)] [(.int t0)]))) ?_ (fun _ k => XS.iload X.here hx rfl (hb hby at_292) rfl k)
    exact Ends.ret X (v := some (.int (nar .boolean t0))) (fun q => by rw [hret] at q; cases q) hlk (fun fs hr => retN X hx (t := .boolean) hret (by simp) (hb hby at_294) hr) (by decide) (by decide) ⟨rfl, N⟩
  have b285 : ∀ (T : State) (L : List Loc) (h : Heap) (X : Stand p l e room_1 s m #[(.int p0), (.int p1), (.int p2), (.int p3), (.int p4), (.int p5)] below meth c T L 4 28) (eT : T.heap = h) (N : Fr n0 L) (Zs : n0 ≤ h.size) (d0 : Slot) (od0 : OneS d0) (d1 : Slot) (od1 : OneS d1) (d2 : Slot) (od2 : OneS d2) (d3 : Slot) (od3 : OneS d3) (d4 : Slot) (od4 : OneS d4) (d5 : Slot) (od5 : OneS d5) (d6 : Slot) (od6 : OneS d6) (d7 : Slot) (od7 : OneS d7) (d8 : Slot) (od8 : OneS d8) (d9 : Slot) (od9 : OneS d9) (d10 : Slot) (od10 : OneS d10) (d11 : Slot) (od11 : OneS d11) (d12 : Slot) (od12 : OneS d12) (d13 : Slot) (od13 : OneS d13) (d14 : Slot) (od14 : OneS d14) (d15 : Slot) (od15 : OneS d15), Ends p e below s 4 28 (Q0 Z  h0 n0 (F0_285 K)) (T.setTop (mkF m 285 #[d0, d1, d2, d3, d4, d5, d6, d7, d8, d9, d10, d11, d12, d13, d14, d15] [])) := by
    intro T L h X eT N Zs d0 od0 d1 od1 d2 od2 d3 od3 d4 od4 d5 od5 d6 od6 d7 od7 d8 od8 d9 od9 d10 od10 d11 od11 d12 od12 d13 od13 d14 od14 d15 od15
    refine Ends.step (u' := (T.setTop (mkF m 286 #[d0, d1, d2, d3, d4, d5, d6, d7, d8, d9, d10, d11, d12, d13, d14, d15] [(.int (1 : Int32))]))) ?_ (fun _ k => XT.iconstV X.here hx rfl (1 : Int32) (hb hby at_285) rfl k)
    refine Ends.step (u' := (T.setTop (mkF m 290 #[d0, d1, d2, d3, d4, d5, d6, d7, d8, d9, d10, d11, d12, d13, d14, d15] [(.int (1 : Int32))]))) ?_ (fun _ k => XS.goto X.here hx rfl (pc0 := 286) (pc' := 290) rfl (hb hby at_286) (by decide) (by decide) k)
    exact b290 T _ _ X eT N Zs (1 : Int32) (d0) od0 (d1) od1 (d2) od2 (d3) od3 (d4) od4 (d5) od5 (d6) od6 (d7) od7 (d8) od8 (d9) od9 (d10) od10 (d11) od11 (d12) od12 (d13) od13 (d14) od14 (d15) od15
  have b289 : ∀ (T : State) (L : List Loc) (h : Heap) (X : Stand p l e room_1 s m #[(.int p0), (.int p1), (.int p2), (.int p3), (.int p4), (.int p5)] below meth c T L 4 28) (eT : T.heap = h) (N : Fr n0 L) (Zs : n0 ≤ h.size) (d0 : Slot) (od0 : OneS d0) (d1 : Slot) (od1 : OneS d1) (d2 : Slot) (od2 : OneS d2) (d3 : Slot) (od3 : OneS d3) (d4 : Slot) (od4 : OneS d4) (d5 : Slot) (od5 : OneS d5) (d6 : Slot) (od6 : OneS d6) (d7 : Slot) (od7 : OneS d7) (d8 : Slot) (od8 : OneS d8) (d9 : Slot) (od9 : OneS d9) (d10 : Slot) (od10 : OneS d10) (d11 : Slot) (od11 : OneS d11) (d12 : Slot) (od12 : OneS d12) (d13 : Slot) (od13 : OneS d13) (d14 : Slot) (od14 : OneS d14) (d15 : Slot) (od15 : OneS d15), Ends p e below s 4 28 (Q0 Z  h0 n0 (F0_289 K)) (T.setTop (mkF m 289 #[d0, d1, d2, d3, d4, d5, d6, d7, d8, d9, d10, d11, d12, d13, d14, d15] [])) := by
    intro T L h X eT N Zs d0 od0 d1 od1 d2 od2 d3 od3 d4 od4 d5 od5 d6 od6 d7 od7 d8 od8 d9 od9 d10 od10 d11 od11 d12 od12 d13 od13 d14 od14 d15 od15
    refine Ends.step (u' := (T.setTop (mkF m 290 #[d0, d1, d2, d3, d4, d5, d6, d7, d8, d9, d10, d11, d12, d13, d14, d15] [(.int (0 : Int32))]))) ?_ (fun _ k => XT.iconstV X.here hx rfl (0 : Int32) (hb hby at_289) rfl k)
    exact b290 T _ _ X eT N Zs (0 : Int32) (d0) od0 (d1) od1 (d2) od2 (d3) od3 (d4) od4 (d5) od5 (d6) od6 (d7) od7 (d8) od8 (d9) od9 (d10) od10 (d11) od11 (d12) od12 (d13) od13 (d14) od14 (d15) od15
  have b270 : ∀ (T : State) (L : List Loc) (h : Heap) (X : Stand p l e room_1 s m #[(.int p0), (.int p1), (.int p2), (.int p3), (.int p4), (.int p5)] below meth c T L 4 28) (eT : T.heap = h) (N : Fr n0 L) (Zs : n0 ≤ h.size) (cf_q77 : Nat → Int32) (cn_q69_110 : Nat) (cf_q69_110 : Nat → Int32) (x6 : Int32) (d0 : Slot) (od0 : OneS d0) (d1 : Slot) (od1 : OneS d1) (d2 : Slot) (od2 : OneS d2) (d3 : Slot) (od3 : OneS d3) (d4 : Slot) (od4 : OneS d4) (d5 : Slot) (od5 : OneS d5) (d7 : Slot) (od7 : OneS d7) (d8 : Slot) (od8 : OneS d8) (d9 : Slot) (od9 : OneS d9) (d10 : Slot) (od10 : OneS d10) (d11 : Slot) (od11 : OneS d11) (d12 : Slot) (od12 : OneS d12) (d15 : Slot) (od15 : OneS d15) (a_q77 : Addr) (g_q77 : n0 ≤ a_q77) (a_q69_110 : Addr) (g_q69_110 : n0 ≤ a_q69_110) (ne_q77_q69_110 : a_q77 ≠ a_q69_110) (A_q77 : Ar Z h a_q77 .int 5 cf_q77) (A_q69_110 : Ar Z h a_q69_110 .int cn_q69_110 cf_q69_110) (ok : (O0_270 K cf_q77 cn_q69_110 cf_q69_110 x6)), Ends p e below s 4 28 (Q0 Z  h0 n0 (F0_270 K cf_q77 cn_q69_110 cf_q69_110 x6)) (T.setTop (mkF m 270 #[d0, d1, d2, d3, d4, d5, .val (.int x6), d7, d8, d9, d10, d11, d12, .val (.ref a_q77), .val (.ref a_q69_110), d15] [])) := by
    intro T L h X eT N Zs cf_q77 cn_q69_110 cf_q69_110 x6 d0 od0 d1 od1 d2 od2 d3 od3 d4 od4 d5 od5 d7 od7 d8 od8 d9 od9 d10 od10 d11 od11 d12 od12 d15 od15 a_q77 g_q77 a_q69_110 g_q69_110 ne_q77_q69_110 A_q77 A_q69_110 ok
    obtain ⟨o1, o2, okt, okf⟩ := ok
    refine Ends.step (u' := (T.setTop (mkF m 272 #[d0, d1, d2, d3, d4, d5, .val (.int x6), d7, d8, d9, d10, d11, d12, .val (.ref a_q77), .val (.ref a_q69_110), d15] [(.ref a_q69_110)]))) ?_ (fun _ k => XS.aload X.here hx rfl (hb hby at_270) rfl rfl k)
    refine Ends.step (u' := (T.setTop (mkF m 273 #[d0, d1, d2, d3, d4, d5, .val (.int x6), d7, d8, d9, d10, d11, d12, .val (.ref a_q77), .val (.ref a_q69_110), d15] [(.int (4 : Int32)), (.ref a_q69_110)]))) ?_ (fun _ k => XT.iconstV X.here hx rfl (4 : Int32) (hb hby at_272) rfl k)
    refine Ends.iaload X hx hZ eT A_q69_110 o1 (g := (mkF m 273 #[d0, d1, d2, d3, d4, d5, .val (.int x6), d7, d8, d9, d10, d11, d12, .val (.ref a_q77), .val (.ref a_q69_110), d15] [(.int (4 : Int32)), (.ref a_q69_110)])) rfl rfl (hb hby at_273) ?_
    show Ends p e below s _ _ _ (T.setTop (mkF m 274 #[d0, d1, d2, d3, d4, d5, .val (.int x6), d7, d8, d9, d10, d11, d12, .val (.ref a_q77), .val (.ref a_q69_110), d15] [(.int (cf_q69_110 ((4 : Int32)).toNatClampNeg))]))
    refine Ends.step (u' := (T.setTop (mkF m 276 #[d0, d1, d2, d3, d4, d5, .val (.int x6), d7, d8, d9, d10, d11, d12, .val (.ref a_q77), .val (.ref a_q69_110), d15] [(.ref a_q77), (.int (cf_q69_110 ((4 : Int32)).toNatClampNeg))]))) ?_ (fun _ k => XS.aload X.here hx rfl (hb hby at_274) rfl rfl k)
    refine Ends.step (u' := (T.setTop (mkF m 278 #[d0, d1, d2, d3, d4, d5, .val (.int x6), d7, d8, d9, d10, d11, d12, .val (.ref a_q77), .val (.ref a_q69_110), d15] [(.int x6), (.ref a_q77), (.int (cf_q69_110 ((4 : Int32)).toNatClampNeg))]))) ?_ (fun _ k => XS.iload X.here hx rfl (hb hby at_276) rfl k)
    refine Ends.step (u' := (T.setTop (mkF m 279 #[d0, d1, d2, d3, d4, d5, .val (.int x6), d7, d8, d9, d10, d11, d12, .val (.ref a_q77), .val (.ref a_q69_110), d15] [(.int (4 : Int32)), (.int x6), (.ref a_q77), (.int (cf_q69_110 ((4 : Int32)).toNatClampNeg))]))) ?_ (fun _ k => XT.iconstV X.here hx rfl (4 : Int32) (hb hby at_278) rfl k)
    refine Ends.callS X hx hZ hown (hw _ (List.mem_of_getElem? (i := 11) rfl)) (hw _ (List.mem_of_getElem? (i := 12) rfl)) (hw _ (List.mem_of_getElem? (i := 3) rfl)) (hw _ (List.mem_of_getElem? (i := 13) rfl)) (by decide) (rm3 l Z a0 hw x6 (4 : Int32) 5 cf_q77 a_q77 h n0 Zs A_q77 o2) 1 (by decide) (by decide) eT  (g := (mkF m 279 #[d0, d1, d2, d3, d4, d5, .val (.int x6), d7, d8, d9, d10, d11, d12, .val (.ref a_q77), .val (.ref a_q69_110), d15] [(.int (4 : Int32)), (.int x6), (.ref a_q77), (.int (cf_q69_110 ((4 : Int32)).toNatClampNeg))])) rfl (by rw [hml]; rfl)  [(.ref a_q77), (.int x6), (.int (4 : Int32))] [(.int (cf_q69_110 ((4 : Int32)).toNatClampNeg))] (lenOf pd_3 rfl) rfl (by show 2 * 0 + _ ≤ _; exact Nat.le_of_eq rfl) (hb hby at_279) rfl (by decide) (by decide) (fun v1 T1 L1 X1 hQ1 => ?_)
    obtain ⟨rfl, Nq1, e1⟩ := hQ1
    have N1 := Fr.app N Nq1
    show Ends p e below s _ _ _ (T1.setTop (mkF m 282 #[d0, d1, d2, d3, d4, d5, .val (.int x6), d7, d8, d9, d10, d11, d12, .val (.ref a_q77), .val (.ref a_q69_110), d15] [(.int (F3 x6 (4 : Int32) 5 cf_q77)), (.int (cf_q69_110 ((4 : Int32)).toNatClampNeg))]))
    by_cases hc282 : (cf_q69_110 ((4 : Int32)).toNatClampNeg) = (F3 x6 (4 : Int32) 5 cf_q77)
    · refine Eq.mp (congrArg (fun z => Ends p e below s 4 28 (Q0 Z  h0 n0 z) (T1.setTop (mkF m 282 #[d0, d1, d2, d3, d4, d5, .val (.int x6), d7, d8, d9, d10, d11, d12, .val (.ref a_q77), .val (.ref a_q69_110), d15] [(.int (F3 x6 (4 : Int32) 5 cf_q77)), (.int (cf_q69_110 ((4 : Int32)).toNatClampNeg))]))) (show (F0_270 K cf_q77 cn_q69_110 cf_q69_110 x6) = (F0_285 K) from (if_pos hc282)).symm) ?_
      refine Ends.step (u' := (T1.setTop (mkF m 285 #[d0, d1, d2, d3, d4, d5, .val (.int x6), d7, d8, d9, d10, d11, d12, .val (.ref a_q77), .val (.ref a_q69_110), d15] []))) ?_ (fun _ k => XS.icmpNo X1.here hx rfl (hb hby at_282) rfl (XT.ii_ne_f hc282) k)
      exact b285 T1 _ _ X1 e1 N1 Zs (d0) od0 (d1) od1 (d2) od2 (d3) od3 (d4) od4 (d5) od5 (.val (.int x6)) (Or.inr ⟨_, rfl, rfl⟩) (d7) od7 (d8) od8 (d9) od9 (d10) od10 (d11) od11 (d12) od12 (.val (.ref a_q77)) (Or.inr ⟨_, rfl, rfl⟩) (.val (.ref a_q69_110)) (Or.inr ⟨_, rfl, rfl⟩) (d15) od15
    · refine Eq.mp (congrArg (fun z => Ends p e below s 4 28 (Q0 Z  h0 n0 z) (T1.setTop (mkF m 282 #[d0, d1, d2, d3, d4, d5, .val (.int x6), d7, d8, d9, d10, d11, d12, .val (.ref a_q77), .val (.ref a_q69_110), d15] [(.int (F3 x6 (4 : Int32) 5 cf_q77)), (.int (cf_q69_110 ((4 : Int32)).toNatClampNeg))]))) (show (F0_270 K cf_q77 cn_q69_110 cf_q69_110 x6) = (F0_289 K) from (if_neg hc282)).symm) ?_
      refine Ends.step (u' := (T1.setTop (mkF m 289 #[d0, d1, d2, d3, d4, d5, .val (.int x6), d7, d8, d9, d10, d11, d12, .val (.ref a_q77), .val (.ref a_q69_110), d15] []))) ?_ (fun _ k => XS.icmpYes X1.here hx rfl (pc0 := 282) (pc' := 289) rfl (hb hby at_282) rfl (XT.ii_ne_t hc282) (by decide) (by decide) k)
      exact b289 T1 _ _ X1 e1 N1 Zs (d0) od0 (d1) od1 (d2) od2 (d3) od3 (d4) od4 (d5) od5 (.val (.int x6)) (Or.inr ⟨_, rfl, rfl⟩) (d7) od7 (d8) od8 (d9) od9 (d10) od10 (d11) od11 (d12) od12 (.val (.ref a_q77)) (Or.inr ⟨_, rfl, rfl⟩) (.val (.ref a_q69_110)) (Or.inr ⟨_, rfl, rfl⟩) (d15) od15
  have b264 : ∀ (T : State) (L : List Loc) (h : Heap) (X : Stand p l e room_1 s m #[(.int p0), (.int p1), (.int p2), (.int p3), (.int p4), (.int p5)] below meth c T L 4 28) (eT : T.heap = h) (N : Fr n0 L) (Zs : n0 ≤ h.size) (cf_q77 : Nat → Int32) (cn_q69_110 : Nat) (cf_q69_110 : Nat → Int32) (x6 : Int32) (d0 : Slot) (od0 : OneS d0) (d1 : Slot) (od1 : OneS d1) (d2 : Slot) (od2 : OneS d2) (d3 : Slot) (od3 : OneS d3) (d4 : Slot) (od4 : OneS d4) (d5 : Slot) (od5 : OneS d5) (d7 : Slot) (od7 : OneS d7) (d8 : Slot) (od8 : OneS d8) (d9 : Slot) (od9 : OneS d9) (d10 : Slot) (od10 : OneS d10) (d11 : Slot) (od11 : OneS d11) (d12 : Slot) (od12 : OneS d12) (d15 : Slot) (od15 : OneS d15) (a_q77 : Addr) (g_q77 : n0 ≤ a_q77) (a_q69_110 : Addr) (g_q69_110 : n0 ≤ a_q69_110) (ne_q77_q69_110 : a_q77 ≠ a_q69_110) (A_q77 : Ar Z h a_q77 .int 5 cf_q77) (A_q69_110 : Ar Z h a_q69_110 .int cn_q69_110 cf_q69_110) (ok : (O0_264 K cf_q77 cn_q69_110 cf_q69_110 x6)), Ends p e below s 4 28 (Q0 Z  h0 n0 (F0_264 K cf_q77 cn_q69_110 cf_q69_110 x6)) (T.setTop (mkF m 264 #[d0, d1, d2, d3, d4, d5, .val (.int x6), d7, d8, d9, d10, d11, d12, .val (.ref a_q77), .val (.ref a_q69_110), d15] [])) := by
    intro T L h X eT N Zs cf_q77 cn_q69_110 cf_q69_110 x6 d0 od0 d1 od1 d2 od2 d3 od3 d4 od4 d5 od5 d7 od7 d8 od8 d9 od9 d10 od10 d11 od11 d12 od12 d15 od15 a_q77 g_q77 a_q69_110 g_q69_110 ne_q77_q69_110 A_q77 A_q69_110 ok
    obtain ⟨okt, okf⟩ := ok
    refine Ends.step (u' := (T.setTop (mkF m 266 #[d0, d1, d2, d3, d4, d5, .val (.int x6), d7, d8, d9, d10, d11, d12, .val (.ref a_q77), .val (.ref a_q69_110), d15] [(.int x6)]))) ?_ (fun _ k => XS.iload X.here hx rfl (hb hby at_264) rfl k)
    refine Ends.step (u' := (T.setTop (mkF m 267 #[d0, d1, d2, d3, d4, d5, .val (.int x6), d7, d8, d9, d10, d11, d12, .val (.ref a_q77), .val (.ref a_q69_110), d15] [(.int (4 : Int32)), (.int x6)]))) ?_ (fun _ k => XT.iconstV X.here hx rfl (4 : Int32) (hb hby at_266) rfl k)
    by_cases hc267 : (4 : Int32) < x6
    · refine Eq.mp (congrArg (fun z => Ends p e below s 4 28 (Q0 Z  h0 n0 z) (T.setTop (mkF m 267 #[d0, d1, d2, d3, d4, d5, .val (.int x6), d7, d8, d9, d10, d11, d12, .val (.ref a_q77), .val (.ref a_q69_110), d15] [(.int (4 : Int32)), (.int x6)]))) (show (F0_264 K cf_q77 cn_q69_110 cf_q69_110 x6) = (F0_270 K cf_q77 cn_q69_110 cf_q69_110 x6) from (if_pos hc267)).symm) ?_
      refine Ends.step (u' := (T.setTop (mkF m 270 #[d0, d1, d2, d3, d4, d5, .val (.int x6), d7, d8, d9, d10, d11, d12, .val (.ref a_q77), .val (.ref a_q69_110), d15] []))) ?_ (fun _ k => XS.icmpNo X.here hx rfl (hb hby at_267) rfl (XT.ii_le_f hc267) k)
      exact b270 T _ _ X eT N Zs cf_q77 cn_q69_110 cf_q69_110 x6 (d0) od0 (d1) od1 (d2) od2 (d3) od3 (d4) od4 (d5) od5 (d7) od7 (d8) od8 (d9) od9 (d10) od10 (d11) od11 (d12) od12 (d15) od15 a_q77 g_q77 a_q69_110 g_q69_110 ne_q77_q69_110 A_q77 A_q69_110 (okt hc267)
    · refine Eq.mp (congrArg (fun z => Ends p e below s 4 28 (Q0 Z  h0 n0 z) (T.setTop (mkF m 267 #[d0, d1, d2, d3, d4, d5, .val (.int x6), d7, d8, d9, d10, d11, d12, .val (.ref a_q77), .val (.ref a_q69_110), d15] [(.int (4 : Int32)), (.int x6)]))) (show (F0_264 K cf_q77 cn_q69_110 cf_q69_110 x6) = (F0_285 K) from (if_neg hc267)).symm) ?_
      refine Ends.step (u' := (T.setTop (mkF m 285 #[d0, d1, d2, d3, d4, d5, .val (.int x6), d7, d8, d9, d10, d11, d12, .val (.ref a_q77), .val (.ref a_q69_110), d15] []))) ?_ (fun _ k => XS.icmpYes X.here hx rfl (pc0 := 267) (pc' := 285) rfl (hb hby at_267) rfl (XT.ii_le_t hc267) (by decide) (by decide) k)
      exact b285 T _ _ X eT N Zs (d0) od0 (d1) od1 (d2) od2 (d3) od3 (d4) od4 (d5) od5 (.val (.int x6)) (Or.inr ⟨_, rfl, rfl⟩) (d7) od7 (d8) od8 (d9) od9 (d10) od10 (d11) od11 (d12) od12 (.val (.ref a_q77)) (Or.inr ⟨_, rfl, rfl⟩) (.val (.ref a_q69_110)) (Or.inr ⟨_, rfl, rfl⟩) (d15) od15
  have b257 : ∀ (T : State) (L : List Loc) (h : Heap) (X : Stand p l e room_1 s m #[(.int p0), (.int p1), (.int p2), (.int p3), (.int p4), (.int p5)] below meth c T L 4 28) (eT : T.heap = h) (N : Fr n0 L) (Zs : n0 ≤ h.size) (cf_q77 : Nat → Int32) (cn_q69_110 : Nat) (cf_q69_110 : Nat → Int32) (x6 : Int32) (t0 : Int32) (d0 : Slot) (od0 : OneS d0) (d1 : Slot) (od1 : OneS d1) (d2 : Slot) (od2 : OneS d2) (d3 : Slot) (od3 : OneS d3) (d4 : Slot) (od4 : OneS d4) (d5 : Slot) (od5 : OneS d5) (d7 : Slot) (od7 : OneS d7) (d8 : Slot) (od8 : OneS d8) (d9 : Slot) (od9 : OneS d9) (d10 : Slot) (od10 : OneS d10) (d11 : Slot) (od11 : OneS d11) (d12 : Slot) (od12 : OneS d12) (d15 : Slot) (od15 : OneS d15) (a_q77 : Addr) (g_q77 : n0 ≤ a_q77) (a_q69_110 : Addr) (g_q69_110 : n0 ≤ a_q69_110) (ne_q77_q69_110 : a_q77 ≠ a_q69_110) (A_q77 : Ar Z h a_q77 .int 5 cf_q77) (A_q69_110 : Ar Z h a_q69_110 .int cn_q69_110 cf_q69_110) (ok : (O0_257 K cf_q77 cn_q69_110 cf_q69_110 x6 t0)), Ends p e below s 4 28 (Q0 Z  h0 n0 (F0_257 K cf_q77 cn_q69_110 cf_q69_110 x6 t0)) (T.setTop (mkF m 257 #[d0, d1, d2, d3, d4, d5, .val (.int x6), d7, d8, d9, d10, d11, d12, .val (.ref a_q77), .val (.ref a_q69_110), d15] [(.int t0)])) := by
    intro T L h X eT N Zs cf_q77 cn_q69_110 cf_q69_110 x6 t0 d0 od0 d1 od1 d2 od2 d3 od3 d4 od4 d5 od5 d7 od7 d8 od8 d9 od9 d10 od10 d11 od11 d12 od12 d15 od15 a_q77 g_q77 a_q69_110 g_q69_110 ne_q77_q69_110 A_q77 A_q69_110 ok
    obtain ⟨okt, okf⟩ := ok
    refine Ends.step (u' := (T.setTop (mkF m 259 #[d0, d1, d2, d3, d4, d5, .val (.int x6), d7, d8, d9, d10, d11, d12, .val (.ref a_q77), .val (.ref a_q69_110), .val (.int t0)] []))) ?_ (fun _ k => XS.istoreS X.here hx rfl (hb hby at_257) rfl rfl od15 k)
    refine Ends.step (u' := (T.setTop (mkF m 261 #[d0, d1, d2, d3, d4, d5, .val (.int x6), d7, d8, d9, d10, d11, d12, .val (.ref a_q77), .val (.ref a_q69_110), .val (.int t0)] [(.int t0)]))) ?_ (fun _ k => XS.iload X.here hx rfl (hb hby at_259) rfl k)
    by_cases hc261 : t0 = 0
    · refine Eq.mp (congrArg (fun z => Ends p e below s 4 28 (Q0 Z  h0 n0 z) (T.setTop (mkF m 261 #[d0, d1, d2, d3, d4, d5, .val (.int x6), d7, d8, d9, d10, d11, d12, .val (.ref a_q77), .val (.ref a_q69_110), .val (.int t0)] [(.int t0)]))) (show (F0_257 K cf_q77 cn_q69_110 cf_q69_110 x6 t0) = (F0_289 K) from (if_pos hc261)).symm) ?_
      refine Ends.step (u' := (T.setTop (mkF m 289 #[d0, d1, d2, d3, d4, d5, .val (.int x6), d7, d8, d9, d10, d11, d12, .val (.ref a_q77), .val (.ref a_q69_110), .val (.int t0)] []))) ?_ (fun _ k => XS.ifYes X.here hx rfl (pc0 := 261) (pc' := 289) rfl (hb hby at_261) rfl (XT.i0_eq_t hc261) (by decide) (by decide) k)
      exact b289 T _ _ X eT N Zs (d0) od0 (d1) od1 (d2) od2 (d3) od3 (d4) od4 (d5) od5 (.val (.int x6)) (Or.inr ⟨_, rfl, rfl⟩) (d7) od7 (d8) od8 (d9) od9 (d10) od10 (d11) od11 (d12) od12 (.val (.ref a_q77)) (Or.inr ⟨_, rfl, rfl⟩) (.val (.ref a_q69_110)) (Or.inr ⟨_, rfl, rfl⟩) (.val (.int t0)) (Or.inr ⟨_, rfl, rfl⟩)
    · refine Eq.mp (congrArg (fun z => Ends p e below s 4 28 (Q0 Z  h0 n0 z) (T.setTop (mkF m 261 #[d0, d1, d2, d3, d4, d5, .val (.int x6), d7, d8, d9, d10, d11, d12, .val (.ref a_q77), .val (.ref a_q69_110), .val (.int t0)] [(.int t0)]))) (show (F0_257 K cf_q77 cn_q69_110 cf_q69_110 x6 t0) = (F0_264 K cf_q77 cn_q69_110 cf_q69_110 x6) from (if_neg hc261)).symm) ?_
      refine Ends.step (u' := (T.setTop (mkF m 264 #[d0, d1, d2, d3, d4, d5, .val (.int x6), d7, d8, d9, d10, d11, d12, .val (.ref a_q77), .val (.ref a_q69_110), .val (.int t0)] []))) ?_ (fun _ k => XS.ifNo X.here hx rfl (hb hby at_261) rfl (XT.i0_eq_f hc261) k)
      exact b264 T _ _ X eT N Zs cf_q77 cn_q69_110 cf_q69_110 x6 (d0) od0 (d1) od1 (d2) od2 (d3) od3 (d4) od4 (d5) od5 (d7) od7 (d8) od8 (d9) od9 (d10) od10 (d11) od11 (d12) od12 (.val (.int t0)) (Or.inr ⟨_, rfl, rfl⟩) a_q77 g_q77 a_q69_110 g_q69_110 ne_q77_q69_110 A_q77 A_q69_110 (okf hc261)
  have b252 : ∀ (T : State) (L : List Loc) (h : Heap) (X : Stand p l e room_1 s m #[(.int p0), (.int p1), (.int p2), (.int p3), (.int p4), (.int p5)] below meth c T L 4 28) (eT : T.heap = h) (N : Fr n0 L) (Zs : n0 ≤ h.size) (cf_q77 : Nat → Int32) (cn_q69_110 : Nat) (cf_q69_110 : Nat → Int32) (x6 : Int32) (d0 : Slot) (od0 : OneS d0) (d1 : Slot) (od1 : OneS d1) (d2 : Slot) (od2 : OneS d2) (d3 : Slot) (od3 : OneS d3) (d4 : Slot) (od4 : OneS d4) (d5 : Slot) (od5 : OneS d5) (d7 : Slot) (od7 : OneS d7) (d8 : Slot) (od8 : OneS d8) (d9 : Slot) (od9 : OneS d9) (d10 : Slot) (od10 : OneS d10) (d11 : Slot) (od11 : OneS d11) (d12 : Slot) (od12 : OneS d12) (d15 : Slot) (od15 : OneS d15) (a_q77 : Addr) (g_q77 : n0 ≤ a_q77) (a_q69_110 : Addr) (g_q69_110 : n0 ≤ a_q69_110) (ne_q77_q69_110 : a_q77 ≠ a_q69_110) (A_q77 : Ar Z h a_q77 .int 5 cf_q77) (A_q69_110 : Ar Z h a_q69_110 .int cn_q69_110 cf_q69_110) (ok : (O0_252 K cf_q77 cn_q69_110 cf_q69_110 x6)), Ends p e below s 4 28 (Q0 Z  h0 n0 (F0_252 K cf_q77 cn_q69_110 cf_q69_110 x6)) (T.setTop (mkF m 252 #[d0, d1, d2, d3, d4, d5, .val (.int x6), d7, d8, d9, d10, d11, d12, .val (.ref a_q77), .val (.ref a_q69_110), d15] [])) := by
    intro T L h X eT N Zs cf_q77 cn_q69_110 cf_q69_110 x6 d0 od0 d1 od1 d2 od2 d3 od3 d4 od4 d5 od5 d7 od7 d8 od8 d9 od9 d10 od10 d11 od11 d12 od12 d15 od15 a_q77 g_q77 a_q69_110 g_q69_110 ne_q77_q69_110 A_q77 A_q69_110 ok
    refine Ends.step (u' := (T.setTop (mkF m 253 #[d0, d1, d2, d3, d4, d5, .val (.int x6), d7, d8, d9, d10, d11, d12, .val (.ref a_q77), .val (.ref a_q69_110), d15] [(.int (1 : Int32))]))) ?_ (fun _ k => XT.iconstV X.here hx rfl (1 : Int32) (hb hby at_252) rfl k)
    refine Ends.step (u' := (T.setTop (mkF m 257 #[d0, d1, d2, d3, d4, d5, .val (.int x6), d7, d8, d9, d10, d11, d12, .val (.ref a_q77), .val (.ref a_q69_110), d15] [(.int (1 : Int32))]))) ?_ (fun _ k => XS.goto X.here hx rfl (pc0 := 253) (pc' := 257) rfl (hb hby at_253) (by decide) (by decide) k)
    exact b257 T _ _ X eT N Zs cf_q77 cn_q69_110 cf_q69_110 x6 (1 : Int32) (d0) od0 (d1) od1 (d2) od2 (d3) od3 (d4) od4 (d5) od5 (d7) od7 (d8) od8 (d9) od9 (d10) od10 (d11) od11 (d12) od12 (d15) od15 a_q77 g_q77 a_q69_110 g_q69_110 ne_q77_q69_110 A_q77 A_q69_110 ok
  have b256 : ∀ (T : State) (L : List Loc) (h : Heap) (X : Stand p l e room_1 s m #[(.int p0), (.int p1), (.int p2), (.int p3), (.int p4), (.int p5)] below meth c T L 4 28) (eT : T.heap = h) (N : Fr n0 L) (Zs : n0 ≤ h.size) (cf_q77 : Nat → Int32) (cn_q69_110 : Nat) (cf_q69_110 : Nat → Int32) (x6 : Int32) (d0 : Slot) (od0 : OneS d0) (d1 : Slot) (od1 : OneS d1) (d2 : Slot) (od2 : OneS d2) (d3 : Slot) (od3 : OneS d3) (d4 : Slot) (od4 : OneS d4) (d5 : Slot) (od5 : OneS d5) (d7 : Slot) (od7 : OneS d7) (d8 : Slot) (od8 : OneS d8) (d9 : Slot) (od9 : OneS d9) (d10 : Slot) (od10 : OneS d10) (d11 : Slot) (od11 : OneS d11) (d12 : Slot) (od12 : OneS d12) (d15 : Slot) (od15 : OneS d15) (a_q77 : Addr) (g_q77 : n0 ≤ a_q77) (a_q69_110 : Addr) (g_q69_110 : n0 ≤ a_q69_110) (ne_q77_q69_110 : a_q77 ≠ a_q69_110) (A_q77 : Ar Z h a_q77 .int 5 cf_q77) (A_q69_110 : Ar Z h a_q69_110 .int cn_q69_110 cf_q69_110) (ok : (O0_256 K cf_q77 cn_q69_110 cf_q69_110 x6)), Ends p e below s 4 28 (Q0 Z  h0 n0 (F0_256 K cf_q77 cn_q69_110 cf_q69_110 x6)) (T.setTop (mkF m 256 #[d0, d1, d2, d3, d4, d5, .val (.int x6), d7, d8, d9, d10, d11, d12, .val (.ref a_q77), .val (.ref a_q69_110), d15] [])) := by
    intro T L h X eT N Zs cf_q77 cn_q69_110 cf_q69_110 x6 d0 od0 d1 od1 d2 od2 d3 od3 d4 od4 d5 od5 d7 od7 d8 od8 d9 od9 d10 od10 d11 od11 d12 od12 d15 od15 a_q77 g_q77 a_q69_110 g_q69_110 ne_q77_q69_110 A_q77 A_q69_110 ok
    refine Ends.step (u' := (T.setTop (mkF m 257 #[d0, d1, d2, d3, d4, d5, .val (.int x6), d7, d8, d9, d10, d11, d12, .val (.ref a_q77), .val (.ref a_q69_110), d15] [(.int (0 : Int32))]))) ?_ (fun _ k => XT.iconstV X.here hx rfl (0 : Int32) (hb hby at_256) rfl k)
    exact b257 T _ _ X eT N Zs cf_q77 cn_q69_110 cf_q69_110 x6 (0 : Int32) (d0) od0 (d1) od1 (d2) od2 (d3) od3 (d4) od4 (d5) od5 (d7) od7 (d8) od8 (d9) od9 (d10) od10 (d11) od11 (d12) od12 (d15) od15 a_q77 g_q77 a_q69_110 g_q69_110 ne_q77_q69_110 A_q77 A_q69_110 ok
  have b237 : ∀ (T : State) (L : List Loc) (h : Heap) (X : Stand p l e room_1 s m #[(.int p0), (.int p1), (.int p2), (.int p3), (.int p4), (.int p5)] below meth c T L 4 28) (eT : T.heap = h) (N : Fr n0 L) (Zs : n0 ≤ h.size) (cf_q77 : Nat → Int32) (cn_q69_110 : Nat) (cf_q69_110 : Nat → Int32) (x6 : Int32) (d0 : Slot) (od0 : OneS d0) (d1 : Slot) (od1 : OneS d1) (d2 : Slot) (od2 : OneS d2) (d3 : Slot) (od3 : OneS d3) (d4 : Slot) (od4 : OneS d4) (d5 : Slot) (od5 : OneS d5) (d7 : Slot) (od7 : OneS d7) (d8 : Slot) (od8 : OneS d8) (d9 : Slot) (od9 : OneS d9) (d10 : Slot) (od10 : OneS d10) (d11 : Slot) (od11 : OneS d11) (d12 : Slot) (od12 : OneS d12) (d15 : Slot) (od15 : OneS d15) (a_q77 : Addr) (g_q77 : n0 ≤ a_q77) (a_q69_110 : Addr) (g_q69_110 : n0 ≤ a_q69_110) (ne_q77_q69_110 : a_q77 ≠ a_q69_110) (A_q77 : Ar Z h a_q77 .int 5 cf_q77) (A_q69_110 : Ar Z h a_q69_110 .int cn_q69_110 cf_q69_110) (ok : (O0_237 K cf_q77 cn_q69_110 cf_q69_110 x6)), Ends p e below s 4 28 (Q0 Z  h0 n0 (F0_237 K cf_q77 cn_q69_110 cf_q69_110 x6)) (T.setTop (mkF m 237 #[d0, d1, d2, d3, d4, d5, .val (.int x6), d7, d8, d9, d10, d11, d12, .val (.ref a_q77), .val (.ref a_q69_110), d15] [])) := by
    intro T L h X eT N Zs cf_q77 cn_q69_110 cf_q69_110 x6 d0 od0 d1 od1 d2 od2 d3 od3 d4 od4 d5 od5 d7 od7 d8 od8 d9 od9 d10 od10 d11 od11 d12 od12 d15 od15 a_q77 g_q77 a_q69_110 g_q69_110 ne_q77_q69_110 A_q77 A_q69_110 ok
    obtain ⟨o1, o2, okt, okf⟩ := ok
    refine Ends.step (u' := (T.setTop (mkF m 239 #[d0, d1, d2, d3, d4, d5, .val (.int x6), d7, d8, d9, d10, d11, d12, .val (.ref a_q77), .val (.ref a_q69_110), d15] [(.ref a_q69_110)]))) ?_ (fun _ k => XS.aload X.here hx rfl (hb hby at_237) rfl rfl k)
    refine Ends.step (u' := (T.setTop (mkF m 240 #[d0, d1, d2, d3, d4, d5, .val (.int x6), d7, d8, d9, d10, d11, d12, .val (.ref a_q77), .val (.ref a_q69_110), d15] [(.int (3 : Int32)), (.ref a_q69_110)]))) ?_ (fun _ k => XT.iconstV X.here hx rfl (3 : Int32) (hb hby at_239) rfl k)
    refine Ends.iaload X hx hZ eT A_q69_110 o1 (g := (mkF m 240 #[d0, d1, d2, d3, d4, d5, .val (.int x6), d7, d8, d9, d10, d11, d12, .val (.ref a_q77), .val (.ref a_q69_110), d15] [(.int (3 : Int32)), (.ref a_q69_110)])) rfl rfl (hb hby at_240) ?_
    show Ends p e below s _ _ _ (T.setTop (mkF m 241 #[d0, d1, d2, d3, d4, d5, .val (.int x6), d7, d8, d9, d10, d11, d12, .val (.ref a_q77), .val (.ref a_q69_110), d15] [(.int (cf_q69_110 ((3 : Int32)).toNatClampNeg))]))
    refine Ends.step (u' := (T.setTop (mkF m 243 #[d0, d1, d2, d3, d4, d5, .val (.int x6), d7, d8, d9, d10, d11, d12, .val (.ref a_q77), .val (.ref a_q69_110), d15] [(.ref a_q77), (.int (cf_q69_110 ((3 : Int32)).toNatClampNeg))]))) ?_ (fun _ k => XS.aload X.here hx rfl (hb hby at_241) rfl rfl k)
    refine Ends.step (u' := (T.setTop (mkF m 245 #[d0, d1, d2, d3, d4, d5, .val (.int x6), d7, d8, d9, d10, d11, d12, .val (.ref a_q77), .val (.ref a_q69_110), d15] [(.int x6), (.ref a_q77), (.int (cf_q69_110 ((3 : Int32)).toNatClampNeg))]))) ?_ (fun _ k => XS.iload X.here hx rfl (hb hby at_243) rfl k)
    refine Ends.step (u' := (T.setTop (mkF m 246 #[d0, d1, d2, d3, d4, d5, .val (.int x6), d7, d8, d9, d10, d11, d12, .val (.ref a_q77), .val (.ref a_q69_110), d15] [(.int (3 : Int32)), (.int x6), (.ref a_q77), (.int (cf_q69_110 ((3 : Int32)).toNatClampNeg))]))) ?_ (fun _ k => XT.iconstV X.here hx rfl (3 : Int32) (hb hby at_245) rfl k)
    refine Ends.callS X hx hZ hown (hw _ (List.mem_of_getElem? (i := 11) rfl)) (hw _ (List.mem_of_getElem? (i := 12) rfl)) (hw _ (List.mem_of_getElem? (i := 3) rfl)) (hw _ (List.mem_of_getElem? (i := 13) rfl)) (by decide) (rm3 l Z a0 hw x6 (3 : Int32) 5 cf_q77 a_q77 h n0 Zs A_q77 o2) 1 (by decide) (by decide) eT  (g := (mkF m 246 #[d0, d1, d2, d3, d4, d5, .val (.int x6), d7, d8, d9, d10, d11, d12, .val (.ref a_q77), .val (.ref a_q69_110), d15] [(.int (3 : Int32)), (.int x6), (.ref a_q77), (.int (cf_q69_110 ((3 : Int32)).toNatClampNeg))])) rfl (by rw [hml]; rfl)  [(.ref a_q77), (.int x6), (.int (3 : Int32))] [(.int (cf_q69_110 ((3 : Int32)).toNatClampNeg))] (lenOf pd_3 rfl) rfl (by show 2 * 0 + _ ≤ _; exact Nat.le_of_eq rfl) (hb hby at_246) rfl (by decide) (by decide) (fun v2 T2 L2 X2 hQ2 => ?_)
    obtain ⟨rfl, Nq2, e2⟩ := hQ2
    have N2 := Fr.app N Nq2
    show Ends p e below s _ _ _ (T2.setTop (mkF m 249 #[d0, d1, d2, d3, d4, d5, .val (.int x6), d7, d8, d9, d10, d11, d12, .val (.ref a_q77), .val (.ref a_q69_110), d15] [(.int (F3 x6 (3 : Int32) 5 cf_q77)), (.int (cf_q69_110 ((3 : Int32)).toNatClampNeg))]))
    by_cases hc249 : (cf_q69_110 ((3 : Int32)).toNatClampNeg) = (F3 x6 (3 : Int32) 5 cf_q77)
    · refine Eq.mp (congrArg (fun z => Ends p e below s 4 28 (Q0 Z  h0 n0 z) (T2.setTop (mkF m 249 #[d0, d1, d2, d3, d4, d5, .val (.int x6), d7, d8, d9, d10, d11, d12, .val (.ref a_q77), .val (.ref a_q69_110), d15] [(.int (F3 x6 (3 : Int32) 5 cf_q77)), (.int (cf_q69_110 ((3 : Int32)).toNatClampNeg))]))) (show (F0_237 K cf_q77 cn_q69_110 cf_q69_110 x6) = (F0_252 K cf_q77 cn_q69_110 cf_q69_110 x6) from (if_pos hc249)).symm) ?_
      refine Ends.step (u' := (T2.setTop (mkF m 252 #[d0, d1, d2, d3, d4, d5, .val (.int x6), d7, d8, d9, d10, d11, d12, .val (.ref a_q77), .val (.ref a_q69_110), d15] []))) ?_ (fun _ k => XS.icmpNo X2.here hx rfl (hb hby at_249) rfl (XT.ii_ne_f hc249) k)
      exact b252 T2 _ _ X2 e2 N2 Zs cf_q77 cn_q69_110 cf_q69_110 x6 (d0) od0 (d1) od1 (d2) od2 (d3) od3 (d4) od4 (d5) od5 (d7) od7 (d8) od8 (d9) od9 (d10) od10 (d11) od11 (d12) od12 (d15) od15 a_q77 g_q77 a_q69_110 g_q69_110 ne_q77_q69_110 A_q77 A_q69_110 (okt hc249)
    · refine Eq.mp (congrArg (fun z => Ends p e below s 4 28 (Q0 Z  h0 n0 z) (T2.setTop (mkF m 249 #[d0, d1, d2, d3, d4, d5, .val (.int x6), d7, d8, d9, d10, d11, d12, .val (.ref a_q77), .val (.ref a_q69_110), d15] [(.int (F3 x6 (3 : Int32) 5 cf_q77)), (.int (cf_q69_110 ((3 : Int32)).toNatClampNeg))]))) (show (F0_237 K cf_q77 cn_q69_110 cf_q69_110 x6) = (F0_256 K cf_q77 cn_q69_110 cf_q69_110 x6) from (if_neg hc249)).symm) ?_
      refine Ends.step (u' := (T2.setTop (mkF m 256 #[d0, d1, d2, d3, d4, d5, .val (.int x6), d7, d8, d9, d10, d11, d12, .val (.ref a_q77), .val (.ref a_q69_110), d15] []))) ?_ (fun _ k => XS.icmpYes X2.here hx rfl (pc0 := 249) (pc' := 256) rfl (hb hby at_249) rfl (XT.ii_ne_t hc249) (by decide) (by decide) k)
      exact b256 T2 _ _ X2 e2 N2 Zs cf_q77 cn_q69_110 cf_q69_110 x6 (d0) od0 (d1) od1 (d2) od2 (d3) od3 (d4) od4 (d5) od5 (d7) od7 (d8) od8 (d9) od9 (d10) od10 (d11) od11 (d12) od12 (d15) od15 a_q77 g_q77 a_q69_110 g_q69_110 ne_q77_q69_110 A_q77 A_q69_110 (okf hc249)
  have b231 : ∀ (T : State) (L : List Loc) (h : Heap) (X : Stand p l e room_1 s m #[(.int p0), (.int p1), (.int p2), (.int p3), (.int p4), (.int p5)] below meth c T L 4 28) (eT : T.heap = h) (N : Fr n0 L) (Zs : n0 ≤ h.size) (cf_q77 : Nat → Int32) (cn_q69_110 : Nat) (cf_q69_110 : Nat → Int32) (x6 : Int32) (d0 : Slot) (od0 : OneS d0) (d1 : Slot) (od1 : OneS d1) (d2 : Slot) (od2 : OneS d2) (d3 : Slot) (od3 : OneS d3) (d4 : Slot) (od4 : OneS d4) (d5 : Slot) (od5 : OneS d5) (d7 : Slot) (od7 : OneS d7) (d8 : Slot) (od8 : OneS d8) (d9 : Slot) (od9 : OneS d9) (d10 : Slot) (od10 : OneS d10) (d11 : Slot) (od11 : OneS d11) (d12 : Slot) (od12 : OneS d12) (d15 : Slot) (od15 : OneS d15) (a_q77 : Addr) (g_q77 : n0 ≤ a_q77) (a_q69_110 : Addr) (g_q69_110 : n0 ≤ a_q69_110) (ne_q77_q69_110 : a_q77 ≠ a_q69_110) (A_q77 : Ar Z h a_q77 .int 5 cf_q77) (A_q69_110 : Ar Z h a_q69_110 .int cn_q69_110 cf_q69_110) (ok : (O0_231 K cf_q77 cn_q69_110 cf_q69_110 x6)), Ends p e below s 4 28 (Q0 Z  h0 n0 (F0_231 K cf_q77 cn_q69_110 cf_q69_110 x6)) (T.setTop (mkF m 231 #[d0, d1, d2, d3, d4, d5, .val (.int x6), d7, d8, d9, d10, d11, d12, .val (.ref a_q77), .val (.ref a_q69_110), d15] [])) := by
    intro T L h X eT N Zs cf_q77 cn_q69_110 cf_q69_110 x6 d0 od0 d1 od1 d2 od2 d3 od3 d4 od4 d5 od5 d7 od7 d8 od8 d9 od9 d10 od10 d11 od11 d12 od12 d15 od15 a_q77 g_q77 a_q69_110 g_q69_110 ne_q77_q69_110 A_q77 A_q69_110 ok
    obtain ⟨okt, okf⟩ := ok
    refine Ends.step (u' := (T.setTop (mkF m 233 #[d0, d1, d2, d3, d4, d5, .val (.int x6), d7, d8, d9, d10, d11, d12, .val (.ref a_q77), .val (.ref a_q69_110), d15] [(.int x6)]))) ?_ (fun _ k => XS.iload X.here hx rfl (hb hby at_231) rfl k)
    refine Ends.step (u' := (T.setTop (mkF m 234 #[d0, d1, d2, d3, d4, d5, .val (.int x6), d7, d8, d9, d10, d11, d12, .val (.ref a_q77), .val (.ref a_q69_110), d15] [(.int (3 : Int32)), (.int x6)]))) ?_ (fun _ k => XT.iconstV X.here hx rfl (3 : Int32) (hb hby at_233) rfl k)
    by_cases hc234 : (3 : Int32) < x6
    · refine Eq.mp (congrArg (fun z => Ends p e below s 4 28 (Q0 Z  h0 n0 z) (T.setTop (mkF m 234 #[d0, d1, d2, d3, d4, d5, .val (.int x6), d7, d8, d9, d10, d11, d12, .val (.ref a_q77), .val (.ref a_q69_110), d15] [(.int (3 : Int32)), (.int x6)]))) (show (F0_231 K cf_q77 cn_q69_110 cf_q69_110 x6) = (F0_237 K cf_q77 cn_q69_110 cf_q69_110 x6) from (if_pos hc234)).symm) ?_
      refine Ends.step (u' := (T.setTop (mkF m 237 #[d0, d1, d2, d3, d4, d5, .val (.int x6), d7, d8, d9, d10, d11, d12, .val (.ref a_q77), .val (.ref a_q69_110), d15] []))) ?_ (fun _ k => XS.icmpNo X.here hx rfl (hb hby at_234) rfl (XT.ii_le_f hc234) k)
      exact b237 T _ _ X eT N Zs cf_q77 cn_q69_110 cf_q69_110 x6 (d0) od0 (d1) od1 (d2) od2 (d3) od3 (d4) od4 (d5) od5 (d7) od7 (d8) od8 (d9) od9 (d10) od10 (d11) od11 (d12) od12 (d15) od15 a_q77 g_q77 a_q69_110 g_q69_110 ne_q77_q69_110 A_q77 A_q69_110 (okt hc234)
    · refine Eq.mp (congrArg (fun z => Ends p e below s 4 28 (Q0 Z  h0 n0 z) (T.setTop (mkF m 234 #[d0, d1, d2, d3, d4, d5, .val (.int x6), d7, d8, d9, d10, d11, d12, .val (.ref a_q77), .val (.ref a_q69_110), d15] [(.int (3 : Int32)), (.int x6)]))) (show (F0_231 K cf_q77 cn_q69_110 cf_q69_110 x6) = (F0_252 K cf_q77 cn_q69_110 cf_q69_110 x6) from (if_neg hc234)).symm) ?_
      refine Ends.step (u' := (T.setTop (mkF m 252 #[d0, d1, d2, d3, d4, d5, .val (.int x6), d7, d8, d9, d10, d11, d12, .val (.ref a_q77), .val (.ref a_q69_110), d15] []))) ?_ (fun _ k => XS.icmpYes X.here hx rfl (pc0 := 234) (pc' := 252) rfl (hb hby at_234) rfl (XT.ii_le_t hc234) (by decide) (by decide) k)
      exact b252 T _ _ X eT N Zs cf_q77 cn_q69_110 cf_q69_110 x6 (d0) od0 (d1) od1 (d2) od2 (d3) od3 (d4) od4 (d5) od5 (d7) od7 (d8) od8 (d9) od9 (d10) od10 (d11) od11 (d12) od12 (d15) od15 a_q77 g_q77 a_q69_110 g_q69_110 ne_q77_q69_110 A_q77 A_q69_110 (okf hc234)
  have b224 : ∀ (T : State) (L : List Loc) (h : Heap) (X : Stand p l e room_1 s m #[(.int p0), (.int p1), (.int p2), (.int p3), (.int p4), (.int p5)] below meth c T L 4 28) (eT : T.heap = h) (N : Fr n0 L) (Zs : n0 ≤ h.size) (cf_q77 : Nat → Int32) (cn_q69_110 : Nat) (cf_q69_110 : Nat → Int32) (x6 : Int32) (t0 : Int32) (d0 : Slot) (od0 : OneS d0) (d1 : Slot) (od1 : OneS d1) (d2 : Slot) (od2 : OneS d2) (d3 : Slot) (od3 : OneS d3) (d4 : Slot) (od4 : OneS d4) (d5 : Slot) (od5 : OneS d5) (d7 : Slot) (od7 : OneS d7) (d8 : Slot) (od8 : OneS d8) (d9 : Slot) (od9 : OneS d9) (d10 : Slot) (od10 : OneS d10) (d11 : Slot) (od11 : OneS d11) (d12 : Slot) (od12 : OneS d12) (d15 : Slot) (od15 : OneS d15) (a_q77 : Addr) (g_q77 : n0 ≤ a_q77) (a_q69_110 : Addr) (g_q69_110 : n0 ≤ a_q69_110) (ne_q77_q69_110 : a_q77 ≠ a_q69_110) (A_q77 : Ar Z h a_q77 .int 5 cf_q77) (A_q69_110 : Ar Z h a_q69_110 .int cn_q69_110 cf_q69_110) (ok : (O0_224 K cf_q77 cn_q69_110 cf_q69_110 x6 t0)), Ends p e below s 4 28 (Q0 Z  h0 n0 (F0_224 K cf_q77 cn_q69_110 cf_q69_110 x6 t0)) (T.setTop (mkF m 224 #[d0, d1, d2, d3, d4, d5, .val (.int x6), d7, d8, d9, d10, d11, d12, .val (.ref a_q77), .val (.ref a_q69_110), d15] [(.int t0)])) := by
    intro T L h X eT N Zs cf_q77 cn_q69_110 cf_q69_110 x6 t0 d0 od0 d1 od1 d2 od2 d3 od3 d4 od4 d5 od5 d7 od7 d8 od8 d9 od9 d10 od10 d11 od11 d12 od12 d15 od15 a_q77 g_q77 a_q69_110 g_q69_110 ne_q77_q69_110 A_q77 A_q69_110 ok
    obtain ⟨okt, okf⟩ := ok
    refine Ends.step (u' := (T.setTop (mkF m 226 #[d0, d1, d2, d3, d4, d5, .val (.int x6), d7, d8, d9, d10, d11, d12, .val (.ref a_q77), .val (.ref a_q69_110), .val (.int t0)] []))) ?_ (fun _ k => XS.istoreS X.here hx rfl (hb hby at_224) rfl rfl od15 k)
    refine Ends.step (u' := (T.setTop (mkF m 228 #[d0, d1, d2, d3, d4, d5, .val (.int x6), d7, d8, d9, d10, d11, d12, .val (.ref a_q77), .val (.ref a_q69_110), .val (.int t0)] [(.int t0)]))) ?_ (fun _ k => XS.iload X.here hx rfl (hb hby at_226) rfl k)
    by_cases hc228 : t0 = 0
    · refine Eq.mp (congrArg (fun z => Ends p e below s 4 28 (Q0 Z  h0 n0 z) (T.setTop (mkF m 228 #[d0, d1, d2, d3, d4, d5, .val (.int x6), d7, d8, d9, d10, d11, d12, .val (.ref a_q77), .val (.ref a_q69_110), .val (.int t0)] [(.int t0)]))) (show (F0_224 K cf_q77 cn_q69_110 cf_q69_110 x6 t0) = (F0_256 K cf_q77 cn_q69_110 cf_q69_110 x6) from (if_pos hc228)).symm) ?_
      refine Ends.step (u' := (T.setTop (mkF m 256 #[d0, d1, d2, d3, d4, d5, .val (.int x6), d7, d8, d9, d10, d11, d12, .val (.ref a_q77), .val (.ref a_q69_110), .val (.int t0)] []))) ?_ (fun _ k => XS.ifYes X.here hx rfl (pc0 := 228) (pc' := 256) rfl (hb hby at_228) rfl (XT.i0_eq_t hc228) (by decide) (by decide) k)
      exact b256 T _ _ X eT N Zs cf_q77 cn_q69_110 cf_q69_110 x6 (d0) od0 (d1) od1 (d2) od2 (d3) od3 (d4) od4 (d5) od5 (d7) od7 (d8) od8 (d9) od9 (d10) od10 (d11) od11 (d12) od12 (.val (.int t0)) (Or.inr ⟨_, rfl, rfl⟩) a_q77 g_q77 a_q69_110 g_q69_110 ne_q77_q69_110 A_q77 A_q69_110 (okt hc228)
    · refine Eq.mp (congrArg (fun z => Ends p e below s 4 28 (Q0 Z  h0 n0 z) (T.setTop (mkF m 228 #[d0, d1, d2, d3, d4, d5, .val (.int x6), d7, d8, d9, d10, d11, d12, .val (.ref a_q77), .val (.ref a_q69_110), .val (.int t0)] [(.int t0)]))) (show (F0_224 K cf_q77 cn_q69_110 cf_q69_110 x6 t0) = (F0_231 K cf_q77 cn_q69_110 cf_q69_110 x6) from (if_neg hc228)).symm) ?_
      refine Ends.step (u' := (T.setTop (mkF m 231 #[d0, d1, d2, d3, d4, d5, .val (.int x6), d7, d8, d9, d10, d11, d12, .val (.ref a_q77), .val (.ref a_q69_110), .val (.int t0)] []))) ?_ (fun _ k => XS.ifNo X.here hx rfl (hb hby at_228) rfl (XT.i0_eq_f hc228) k)
      exact b231 T _ _ X eT N Zs cf_q77 cn_q69_110 cf_q69_110 x6 (d0) od0 (d1) od1 (d2) od2 (d3) od3 (d4) od4 (d5) od5 (d7) od7 (d8) od8 (d9) od9 (d10) od10 (d11) od11 (d12) od12 (.val (.int t0)) (Or.inr ⟨_, rfl, rfl⟩) a_q77 g_q77 a_q69_110 g_q69_110 ne_q77_q69_110 A_q77 A_q69_110 (okf hc228)
  have b219 : ∀ (T : State) (L : List Loc) (h : Heap) (X : Stand p l e room_1 s m #[(.int p0), (.int p1), (.int p2), (.int p3), (.int p4), (.int p5)] below meth c T L 4 28) (eT : T.heap = h) (N : Fr n0 L) (Zs : n0 ≤ h.size) (cf_q77 : Nat → Int32) (cn_q69_110 : Nat) (cf_q69_110 : Nat → Int32) (x6 : Int32) (d0 : Slot) (od0 : OneS d0) (d1 : Slot) (od1 : OneS d1) (d2 : Slot) (od2 : OneS d2) (d3 : Slot) (od3 : OneS d3) (d4 : Slot) (od4 : OneS d4) (d5 : Slot) (od5 : OneS d5) (d7 : Slot) (od7 : OneS d7) (d8 : Slot) (od8 : OneS d8) (d9 : Slot) (od9 : OneS d9) (d10 : Slot) (od10 : OneS d10) (d11 : Slot) (od11 : OneS d11) (d12 : Slot) (od12 : OneS d12) (d15 : Slot) (od15 : OneS d15) (a_q77 : Addr) (g_q77 : n0 ≤ a_q77) (a_q69_110 : Addr) (g_q69_110 : n0 ≤ a_q69_110) (ne_q77_q69_110 : a_q77 ≠ a_q69_110) (A_q77 : Ar Z h a_q77 .int 5 cf_q77) (A_q69_110 : Ar Z h a_q69_110 .int cn_q69_110 cf_q69_110) (ok : (O0_219 K cf_q77 cn_q69_110 cf_q69_110 x6)), Ends p e below s 4 28 (Q0 Z  h0 n0 (F0_219 K cf_q77 cn_q69_110 cf_q69_110 x6)) (T.setTop (mkF m 219 #[d0, d1, d2, d3, d4, d5, .val (.int x6), d7, d8, d9, d10, d11, d12, .val (.ref a_q77), .val (.ref a_q69_110), d15] [])) := by
    intro T L h X eT N Zs cf_q77 cn_q69_110 cf_q69_110 x6 d0 od0 d1 od1 d2 od2 d3 od3 d4 od4 d5 od5 d7 od7 d8 od8 d9 od9 d10 od10 d11 od11 d12 od12 d15 od15 a_q77 g_q77 a_q69_110 g_q69_110 ne_q77_q69_110 A_q77 A_q69_110 ok
    refine Ends.step (u' := (T.setTop (mkF m 220 #[d0, d1, d2, d3, d4, d5, .val (.int x6), d7, d8, d9, d10, d11, d12, .val (.ref a_q77), .val (.ref a_q69_110), d15] [(.int (1 : Int32))]))) ?_ (fun _ k => XT.iconstV X.here hx rfl (1 : Int32) (hb hby at_219) rfl k)
    refine Ends.step (u' := (T.setTop (mkF m 224 #[d0, d1, d2, d3, d4, d5, .val (.int x6), d7, d8, d9, d10, d11, d12, .val (.ref a_q77), .val (.ref a_q69_110), d15] [(.int (1 : Int32))]))) ?_ (fun _ k => XS.goto X.here hx rfl (pc0 := 220) (pc' := 224) rfl (hb hby at_220) (by decide) (by decide) k)
    exact b224 T _ _ X eT N Zs cf_q77 cn_q69_110 cf_q69_110 x6 (1 : Int32) (d0) od0 (d1) od1 (d2) od2 (d3) od3 (d4) od4 (d5) od5 (d7) od7 (d8) od8 (d9) od9 (d10) od10 (d11) od11 (d12) od12 (d15) od15 a_q77 g_q77 a_q69_110 g_q69_110 ne_q77_q69_110 A_q77 A_q69_110 ok
  have b223 : ∀ (T : State) (L : List Loc) (h : Heap) (X : Stand p l e room_1 s m #[(.int p0), (.int p1), (.int p2), (.int p3), (.int p4), (.int p5)] below meth c T L 4 28) (eT : T.heap = h) (N : Fr n0 L) (Zs : n0 ≤ h.size) (cf_q77 : Nat → Int32) (cn_q69_110 : Nat) (cf_q69_110 : Nat → Int32) (x6 : Int32) (d0 : Slot) (od0 : OneS d0) (d1 : Slot) (od1 : OneS d1) (d2 : Slot) (od2 : OneS d2) (d3 : Slot) (od3 : OneS d3) (d4 : Slot) (od4 : OneS d4) (d5 : Slot) (od5 : OneS d5) (d7 : Slot) (od7 : OneS d7) (d8 : Slot) (od8 : OneS d8) (d9 : Slot) (od9 : OneS d9) (d10 : Slot) (od10 : OneS d10) (d11 : Slot) (od11 : OneS d11) (d12 : Slot) (od12 : OneS d12) (d15 : Slot) (od15 : OneS d15) (a_q77 : Addr) (g_q77 : n0 ≤ a_q77) (a_q69_110 : Addr) (g_q69_110 : n0 ≤ a_q69_110) (ne_q77_q69_110 : a_q77 ≠ a_q69_110) (A_q77 : Ar Z h a_q77 .int 5 cf_q77) (A_q69_110 : Ar Z h a_q69_110 .int cn_q69_110 cf_q69_110) (ok : (O0_223 K cf_q77 cn_q69_110 cf_q69_110 x6)), Ends p e below s 4 28 (Q0 Z  h0 n0 (F0_223 K cf_q77 cn_q69_110 cf_q69_110 x6)) (T.setTop (mkF m 223 #[d0, d1, d2, d3, d4, d5, .val (.int x6), d7, d8, d9, d10, d11, d12, .val (.ref a_q77), .val (.ref a_q69_110), d15] [])) := by
    intro T L h X eT N Zs cf_q77 cn_q69_110 cf_q69_110 x6 d0 od0 d1 od1 d2 od2 d3 od3 d4 od4 d5 od5 d7 od7 d8 od8 d9 od9 d10 od10 d11 od11 d12 od12 d15 od15 a_q77 g_q77 a_q69_110 g_q69_110 ne_q77_q69_110 A_q77 A_q69_110 ok
    refine Ends.step (u' := (T.setTop (mkF m 224 #[d0, d1, d2, d3, d4, d5, .val (.int x6), d7, d8, d9, d10, d11, d12, .val (.ref a_q77), .val (.ref a_q69_110), d15] [(.int (0 : Int32))]))) ?_ (fun _ k => XT.iconstV X.here hx rfl (0 : Int32) (hb hby at_223) rfl k)
    exact b224 T _ _ X eT N Zs cf_q77 cn_q69_110 cf_q69_110 x6 (0 : Int32) (d0) od0 (d1) od1 (d2) od2 (d3) od3 (d4) od4 (d5) od5 (d7) od7 (d8) od8 (d9) od9 (d10) od10 (d11) od11 (d12) od12 (d15) od15 a_q77 g_q77 a_q69_110 g_q69_110 ne_q77_q69_110 A_q77 A_q69_110 ok
  have b204 : ∀ (T : State) (L : List Loc) (h : Heap) (X : Stand p l e room_1 s m #[(.int p0), (.int p1), (.int p2), (.int p3), (.int p4), (.int p5)] below meth c T L 4 28) (eT : T.heap = h) (N : Fr n0 L) (Zs : n0 ≤ h.size) (cf_q77 : Nat → Int32) (cn_q69_110 : Nat) (cf_q69_110 : Nat → Int32) (x6 : Int32) (d0 : Slot) (od0 : OneS d0) (d1 : Slot) (od1 : OneS d1) (d2 : Slot) (od2 : OneS d2) (d3 : Slot) (od3 : OneS d3) (d4 : Slot) (od4 : OneS d4) (d5 : Slot) (od5 : OneS d5) (d7 : Slot) (od7 : OneS d7) (d8 : Slot) (od8 : OneS d8) (d9 : Slot) (od9 : OneS d9) (d10 : Slot) (od10 : OneS d10) (d11 : Slot) (od11 : OneS d11) (d12 : Slot) (od12 : OneS d12) (d15 : Slot) (od15 : OneS d15) (a_q77 : Addr) (g_q77 : n0 ≤ a_q77) (a_q69_110 : Addr) (g_q69_110 : n0 ≤ a_q69_110) (ne_q77_q69_110 : a_q77 ≠ a_q69_110) (A_q77 : Ar Z h a_q77 .int 5 cf_q77) (A_q69_110 : Ar Z h a_q69_110 .int cn_q69_110 cf_q69_110) (ok : (O0_204 K cf_q77 cn_q69_110 cf_q69_110 x6)), Ends p e below s 4 28 (Q0 Z  h0 n0 (F0_204 K cf_q77 cn_q69_110 cf_q69_110 x6)) (T.setTop (mkF m 204 #[d0, d1, d2, d3, d4, d5, .val (.int x6), d7, d8, d9, d10, d11, d12, .val (.ref a_q77), .val (.ref a_q69_110), d15] [])) := by
    intro T L h X eT N Zs cf_q77 cn_q69_110 cf_q69_110 x6 d0 od0 d1 od1 d2 od2 d3 od3 d4 od4 d5 od5 d7 od7 d8 od8 d9 od9 d10 od10 d11 od11 d12 od12 d15 od15 a_q77 g_q77 a_q69_110 g_q69_110 ne_q77_q69_110 A_q77 A_q69_110 ok
    obtain ⟨o1, o2, okt, okf⟩ := ok
    refine Ends.step (u' := (T.setTop (mkF m 206 #[d0, d1, d2, d3, d4, d5, .val (.int x6), d7, d8, d9, d10, d11, d12, .val (.ref a_q77), .val (.ref a_q69_110), d15] [(.ref a_q69_110)]))) ?_ (fun _ k => XS.aload X.here hx rfl (hb hby at_204) rfl rfl k)
    refine Ends.step (u' := (T.setTop (mkF m 207 #[d0, d1, d2, d3, d4, d5, .val (.int x6), d7, d8, d9, d10, d11, d12, .val (.ref a_q77), .val (.ref a_q69_110), d15] [(.int (2 : Int32)), (.ref a_q69_110)]))) ?_ (fun _ k => XT.iconstV X.here hx rfl (2 : Int32) (hb hby at_206) rfl k)
    refine Ends.iaload X hx hZ eT A_q69_110 o1 (g := (mkF m 207 #[d0, d1, d2, d3, d4, d5, .val (.int x6), d7, d8, d9, d10, d11, d12, .val (.ref a_q77), .val (.ref a_q69_110), d15] [(.int (2 : Int32)), (.ref a_q69_110)])) rfl rfl (hb hby at_207) ?_
    show Ends p e below s _ _ _ (T.setTop (mkF m 208 #[d0, d1, d2, d3, d4, d5, .val (.int x6), d7, d8, d9, d10, d11, d12, .val (.ref a_q77), .val (.ref a_q69_110), d15] [(.int (cf_q69_110 ((2 : Int32)).toNatClampNeg))]))
    refine Ends.step (u' := (T.setTop (mkF m 210 #[d0, d1, d2, d3, d4, d5, .val (.int x6), d7, d8, d9, d10, d11, d12, .val (.ref a_q77), .val (.ref a_q69_110), d15] [(.ref a_q77), (.int (cf_q69_110 ((2 : Int32)).toNatClampNeg))]))) ?_ (fun _ k => XS.aload X.here hx rfl (hb hby at_208) rfl rfl k)
    refine Ends.step (u' := (T.setTop (mkF m 212 #[d0, d1, d2, d3, d4, d5, .val (.int x6), d7, d8, d9, d10, d11, d12, .val (.ref a_q77), .val (.ref a_q69_110), d15] [(.int x6), (.ref a_q77), (.int (cf_q69_110 ((2 : Int32)).toNatClampNeg))]))) ?_ (fun _ k => XS.iload X.here hx rfl (hb hby at_210) rfl k)
    refine Ends.step (u' := (T.setTop (mkF m 213 #[d0, d1, d2, d3, d4, d5, .val (.int x6), d7, d8, d9, d10, d11, d12, .val (.ref a_q77), .val (.ref a_q69_110), d15] [(.int (2 : Int32)), (.int x6), (.ref a_q77), (.int (cf_q69_110 ((2 : Int32)).toNatClampNeg))]))) ?_ (fun _ k => XT.iconstV X.here hx rfl (2 : Int32) (hb hby at_212) rfl k)
    refine Ends.callS X hx hZ hown (hw _ (List.mem_of_getElem? (i := 11) rfl)) (hw _ (List.mem_of_getElem? (i := 12) rfl)) (hw _ (List.mem_of_getElem? (i := 3) rfl)) (hw _ (List.mem_of_getElem? (i := 13) rfl)) (by decide) (rm3 l Z a0 hw x6 (2 : Int32) 5 cf_q77 a_q77 h n0 Zs A_q77 o2) 1 (by decide) (by decide) eT  (g := (mkF m 213 #[d0, d1, d2, d3, d4, d5, .val (.int x6), d7, d8, d9, d10, d11, d12, .val (.ref a_q77), .val (.ref a_q69_110), d15] [(.int (2 : Int32)), (.int x6), (.ref a_q77), (.int (cf_q69_110 ((2 : Int32)).toNatClampNeg))])) rfl (by rw [hml]; rfl)  [(.ref a_q77), (.int x6), (.int (2 : Int32))] [(.int (cf_q69_110 ((2 : Int32)).toNatClampNeg))] (lenOf pd_3 rfl) rfl (by show 2 * 0 + _ ≤ _; exact Nat.le_of_eq rfl) (hb hby at_213) rfl (by decide) (by decide) (fun v3 T3 L3 X3 hQ3 => ?_)
    obtain ⟨rfl, Nq3, e3⟩ := hQ3
    have N3 := Fr.app N Nq3
    show Ends p e below s _ _ _ (T3.setTop (mkF m 216 #[d0, d1, d2, d3, d4, d5, .val (.int x6), d7, d8, d9, d10, d11, d12, .val (.ref a_q77), .val (.ref a_q69_110), d15] [(.int (F3 x6 (2 : Int32) 5 cf_q77)), (.int (cf_q69_110 ((2 : Int32)).toNatClampNeg))]))
    by_cases hc216 : (cf_q69_110 ((2 : Int32)).toNatClampNeg) = (F3 x6 (2 : Int32) 5 cf_q77)
    · refine Eq.mp (congrArg (fun z => Ends p e below s 4 28 (Q0 Z  h0 n0 z) (T3.setTop (mkF m 216 #[d0, d1, d2, d3, d4, d5, .val (.int x6), d7, d8, d9, d10, d11, d12, .val (.ref a_q77), .val (.ref a_q69_110), d15] [(.int (F3 x6 (2 : Int32) 5 cf_q77)), (.int (cf_q69_110 ((2 : Int32)).toNatClampNeg))]))) (show (F0_204 K cf_q77 cn_q69_110 cf_q69_110 x6) = (F0_219 K cf_q77 cn_q69_110 cf_q69_110 x6) from (if_pos hc216)).symm) ?_
      refine Ends.step (u' := (T3.setTop (mkF m 219 #[d0, d1, d2, d3, d4, d5, .val (.int x6), d7, d8, d9, d10, d11, d12, .val (.ref a_q77), .val (.ref a_q69_110), d15] []))) ?_ (fun _ k => XS.icmpNo X3.here hx rfl (hb hby at_216) rfl (XT.ii_ne_f hc216) k)
      exact b219 T3 _ _ X3 e3 N3 Zs cf_q77 cn_q69_110 cf_q69_110 x6 (d0) od0 (d1) od1 (d2) od2 (d3) od3 (d4) od4 (d5) od5 (d7) od7 (d8) od8 (d9) od9 (d10) od10 (d11) od11 (d12) od12 (d15) od15 a_q77 g_q77 a_q69_110 g_q69_110 ne_q77_q69_110 A_q77 A_q69_110 (okt hc216)
    · refine Eq.mp (congrArg (fun z => Ends p e below s 4 28 (Q0 Z  h0 n0 z) (T3.setTop (mkF m 216 #[d0, d1, d2, d3, d4, d5, .val (.int x6), d7, d8, d9, d10, d11, d12, .val (.ref a_q77), .val (.ref a_q69_110), d15] [(.int (F3 x6 (2 : Int32) 5 cf_q77)), (.int (cf_q69_110 ((2 : Int32)).toNatClampNeg))]))) (show (F0_204 K cf_q77 cn_q69_110 cf_q69_110 x6) = (F0_223 K cf_q77 cn_q69_110 cf_q69_110 x6) from (if_neg hc216)).symm) ?_
      refine Ends.step (u' := (T3.setTop (mkF m 223 #[d0, d1, d2, d3, d4, d5, .val (.int x6), d7, d8, d9, d10, d11, d12, .val (.ref a_q77), .val (.ref a_q69_110), d15] []))) ?_ (fun _ k => XS.icmpYes X3.here hx rfl (pc0 := 216) (pc' := 223) rfl (hb hby at_216) rfl (XT.ii_ne_t hc216) (by decide) (by decide) k)
      exact b223 T3 _ _ X3 e3 N3 Zs cf_q77 cn_q69_110 cf_q69_110 x6 (d0) od0 (d1) od1 (d2) od2 (d3) od3 (d4) od4 (d5) od5 (d7) od7 (d8) od8 (d9) od9 (d10) od10 (d11) od11 (d12) od12 (d15) od15 a_q77 g_q77 a_q69_110 g_q69_110 ne_q77_q69_110 A_q77 A_q69_110 (okf hc216)
  have b198 : ∀ (T : State) (L : List Loc) (h : Heap) (X : Stand p l e room_1 s m #[(.int p0), (.int p1), (.int p2), (.int p3), (.int p4), (.int p5)] below meth c T L 4 28) (eT : T.heap = h) (N : Fr n0 L) (Zs : n0 ≤ h.size) (cf_q77 : Nat → Int32) (cn_q69_110 : Nat) (cf_q69_110 : Nat → Int32) (x6 : Int32) (d0 : Slot) (od0 : OneS d0) (d1 : Slot) (od1 : OneS d1) (d2 : Slot) (od2 : OneS d2) (d3 : Slot) (od3 : OneS d3) (d4 : Slot) (od4 : OneS d4) (d5 : Slot) (od5 : OneS d5) (d7 : Slot) (od7 : OneS d7) (d8 : Slot) (od8 : OneS d8) (d9 : Slot) (od9 : OneS d9) (d10 : Slot) (od10 : OneS d10) (d11 : Slot) (od11 : OneS d11) (d12 : Slot) (od12 : OneS d12) (d15 : Slot) (od15 : OneS d15) (a_q77 : Addr) (g_q77 : n0 ≤ a_q77) (a_q69_110 : Addr) (g_q69_110 : n0 ≤ a_q69_110) (ne_q77_q69_110 : a_q77 ≠ a_q69_110) (A_q77 : Ar Z h a_q77 .int 5 cf_q77) (A_q69_110 : Ar Z h a_q69_110 .int cn_q69_110 cf_q69_110) (ok : (O0_198 K cf_q77 cn_q69_110 cf_q69_110 x6)), Ends p e below s 4 28 (Q0 Z  h0 n0 (F0_198 K cf_q77 cn_q69_110 cf_q69_110 x6)) (T.setTop (mkF m 198 #[d0, d1, d2, d3, d4, d5, .val (.int x6), d7, d8, d9, d10, d11, d12, .val (.ref a_q77), .val (.ref a_q69_110), d15] [])) := by
    intro T L h X eT N Zs cf_q77 cn_q69_110 cf_q69_110 x6 d0 od0 d1 od1 d2 od2 d3 od3 d4 od4 d5 od5 d7 od7 d8 od8 d9 od9 d10 od10 d11 od11 d12 od12 d15 od15 a_q77 g_q77 a_q69_110 g_q69_110 ne_q77_q69_110 A_q77 A_q69_110 ok
    obtain ⟨okt, okf⟩ := ok
    refine Ends.step (u' := (T.setTop (mkF m 200 #[d0, d1, d2, d3, d4, d5, .val (.int x6), d7, d8, d9, d10, d11, d12, .val (.ref a_q77), .val (.ref a_q69_110), d15] [(.int x6)]))) ?_ (fun _ k => XS.iload X.here hx rfl (hb hby at_198) rfl k)
    refine Ends.step (u' := (T.setTop (mkF m 201 #[d0, d1, d2, d3, d4, d5, .val (.int x6), d7, d8, d9, d10, d11, d12, .val (.ref a_q77), .val (.ref a_q69_110), d15] [(.int (2 : Int32)), (.int x6)]))) ?_ (fun _ k => XT.iconstV X.here hx rfl (2 : Int32) (hb hby at_200) rfl k)
    by_cases hc201 : (2 : Int32) < x6
    · refine Eq.mp (congrArg (fun z => Ends p e below s 4 28 (Q0 Z  h0 n0 z) (T.setTop (mkF m 201 #[d0, d1, d2, d3, d4, d5, .val (.int x6), d7, d8, d9, d10, d11, d12, .val (.ref a_q77), .val (.ref a_q69_110), d15] [(.int (2 : Int32)), (.int x6)]))) (show (F0_198 K cf_q77 cn_q69_110 cf_q69_110 x6) = (F0_204 K cf_q77 cn_q69_110 cf_q69_110 x6) from (if_pos hc201)).symm) ?_
      refine Ends.step (u' := (T.setTop (mkF m 204 #[d0, d1, d2, d3, d4, d5, .val (.int x6), d7, d8, d9, d10, d11, d12, .val (.ref a_q77), .val (.ref a_q69_110), d15] []))) ?_ (fun _ k => XS.icmpNo X.here hx rfl (hb hby at_201) rfl (XT.ii_le_f hc201) k)
      exact b204 T _ _ X eT N Zs cf_q77 cn_q69_110 cf_q69_110 x6 (d0) od0 (d1) od1 (d2) od2 (d3) od3 (d4) od4 (d5) od5 (d7) od7 (d8) od8 (d9) od9 (d10) od10 (d11) od11 (d12) od12 (d15) od15 a_q77 g_q77 a_q69_110 g_q69_110 ne_q77_q69_110 A_q77 A_q69_110 (okt hc201)
    · refine Eq.mp (congrArg (fun z => Ends p e below s 4 28 (Q0 Z  h0 n0 z) (T.setTop (mkF m 201 #[d0, d1, d2, d3, d4, d5, .val (.int x6), d7, d8, d9, d10, d11, d12, .val (.ref a_q77), .val (.ref a_q69_110), d15] [(.int (2 : Int32)), (.int x6)]))) (show (F0_198 K cf_q77 cn_q69_110 cf_q69_110 x6) = (F0_219 K cf_q77 cn_q69_110 cf_q69_110 x6) from (if_neg hc201)).symm) ?_
      refine Ends.step (u' := (T.setTop (mkF m 219 #[d0, d1, d2, d3, d4, d5, .val (.int x6), d7, d8, d9, d10, d11, d12, .val (.ref a_q77), .val (.ref a_q69_110), d15] []))) ?_ (fun _ k => XS.icmpYes X.here hx rfl (pc0 := 201) (pc' := 219) rfl (hb hby at_201) rfl (XT.ii_le_t hc201) (by decide) (by decide) k)
      exact b219 T _ _ X eT N Zs cf_q77 cn_q69_110 cf_q69_110 x6 (d0) od0 (d1) od1 (d2) od2 (d3) od3 (d4) od4 (d5) od5 (d7) od7 (d8) od8 (d9) od9 (d10) od10 (d11) od11 (d12) od12 (d15) od15 a_q77 g_q77 a_q69_110 g_q69_110 ne_q77_q69_110 A_q77 A_q69_110 (okf hc201)
  have b191 : ∀ (T : State) (L : List Loc) (h : Heap) (X : Stand p l e room_1 s m #[(.int p0), (.int p1), (.int p2), (.int p3), (.int p4), (.int p5)] below meth c T L 4 28) (eT : T.heap = h) (N : Fr n0 L) (Zs : n0 ≤ h.size) (cf_q77 : Nat → Int32) (cn_q69_110 : Nat) (cf_q69_110 : Nat → Int32) (x6 : Int32) (t0 : Int32) (d0 : Slot) (od0 : OneS d0) (d1 : Slot) (od1 : OneS d1) (d2 : Slot) (od2 : OneS d2) (d3 : Slot) (od3 : OneS d3) (d4 : Slot) (od4 : OneS d4) (d5 : Slot) (od5 : OneS d5) (d7 : Slot) (od7 : OneS d7) (d8 : Slot) (od8 : OneS d8) (d9 : Slot) (od9 : OneS d9) (d10 : Slot) (od10 : OneS d10) (d11 : Slot) (od11 : OneS d11) (d12 : Slot) (od12 : OneS d12) (d15 : Slot) (od15 : OneS d15) (a_q77 : Addr) (g_q77 : n0 ≤ a_q77) (a_q69_110 : Addr) (g_q69_110 : n0 ≤ a_q69_110) (ne_q77_q69_110 : a_q77 ≠ a_q69_110) (A_q77 : Ar Z h a_q77 .int 5 cf_q77) (A_q69_110 : Ar Z h a_q69_110 .int cn_q69_110 cf_q69_110) (ok : (O0_191 K cf_q77 cn_q69_110 cf_q69_110 x6 t0)), Ends p e below s 4 28 (Q0 Z  h0 n0 (F0_191 K cf_q77 cn_q69_110 cf_q69_110 x6 t0)) (T.setTop (mkF m 191 #[d0, d1, d2, d3, d4, d5, .val (.int x6), d7, d8, d9, d10, d11, d12, .val (.ref a_q77), .val (.ref a_q69_110), d15] [(.int t0)])) := by
    intro T L h X eT N Zs cf_q77 cn_q69_110 cf_q69_110 x6 t0 d0 od0 d1 od1 d2 od2 d3 od3 d4 od4 d5 od5 d7 od7 d8 od8 d9 od9 d10 od10 d11 od11 d12 od12 d15 od15 a_q77 g_q77 a_q69_110 g_q69_110 ne_q77_q69_110 A_q77 A_q69_110 ok
    obtain ⟨okt, okf⟩ := ok
    refine Ends.step (u' := (T.setTop (mkF m 193 #[d0, d1, d2, d3, d4, d5, .val (.int x6), d7, d8, d9, d10, d11, d12, .val (.ref a_q77), .val (.ref a_q69_110), .val (.int t0)] []))) ?_ (fun _ k => XS.istoreS X.here hx rfl (hb hby at_191) rfl rfl od15 k)
    refine Ends.step (u' := (T.setTop (mkF m 195 #[d0, d1, d2, d3, d4, d5, .val (.int x6), d7, d8, d9, d10, d11, d12, .val (.ref a_q77), .val (.ref a_q69_110), .val (.int t0)] [(.int t0)]))) ?_ (fun _ k => XS.iload X.here hx rfl (hb hby at_193) rfl k)
    by_cases hc195 : t0 = 0
    · refine Eq.mp (congrArg (fun z => Ends p e below s 4 28 (Q0 Z  h0 n0 z) (T.setTop (mkF m 195 #[d0, d1, d2, d3, d4, d5, .val (.int x6), d7, d8, d9, d10, d11, d12, .val (.ref a_q77), .val (.ref a_q69_110), .val (.int t0)] [(.int t0)]))) (show (F0_191 K cf_q77 cn_q69_110 cf_q69_110 x6 t0) = (F0_223 K cf_q77 cn_q69_110 cf_q69_110 x6) from (if_pos hc195)).symm) ?_
      refine Ends.step (u' := (T.setTop (mkF m 223 #[d0, d1, d2, d3, d4, d5, .val (.int x6), d7, d8, d9, d10, d11, d12, .val (.ref a_q77), .val (.ref a_q69_110), .val (.int t0)] []))) ?_ (fun _ k => XS.ifYes X.here hx rfl (pc0 := 195) (pc' := 223) rfl (hb hby at_195) rfl (XT.i0_eq_t hc195) (by decide) (by decide) k)
      exact b223 T _ _ X eT N Zs cf_q77 cn_q69_110 cf_q69_110 x6 (d0) od0 (d1) od1 (d2) od2 (d3) od3 (d4) od4 (d5) od5 (d7) od7 (d8) od8 (d9) od9 (d10) od10 (d11) od11 (d12) od12 (.val (.int t0)) (Or.inr ⟨_, rfl, rfl⟩) a_q77 g_q77 a_q69_110 g_q69_110 ne_q77_q69_110 A_q77 A_q69_110 (okt hc195)
    · refine Eq.mp (congrArg (fun z => Ends p e below s 4 28 (Q0 Z  h0 n0 z) (T.setTop (mkF m 195 #[d0, d1, d2, d3, d4, d5, .val (.int x6), d7, d8, d9, d10, d11, d12, .val (.ref a_q77), .val (.ref a_q69_110), .val (.int t0)] [(.int t0)]))) (show (F0_191 K cf_q77 cn_q69_110 cf_q69_110 x6 t0) = (F0_198 K cf_q77 cn_q69_110 cf_q69_110 x6) from (if_neg hc195)).symm) ?_
      refine Ends.step (u' := (T.setTop (mkF m 198 #[d0, d1, d2, d3, d4, d5, .val (.int x6), d7, d8, d9, d10, d11, d12, .val (.ref a_q77), .val (.ref a_q69_110), .val (.int t0)] []))) ?_ (fun _ k => XS.ifNo X.here hx rfl (hb hby at_195) rfl (XT.i0_eq_f hc195) k)
      exact b198 T _ _ X eT N Zs cf_q77 cn_q69_110 cf_q69_110 x6 (d0) od0 (d1) od1 (d2) od2 (d3) od3 (d4) od4 (d5) od5 (d7) od7 (d8) od8 (d9) od9 (d10) od10 (d11) od11 (d12) od12 (.val (.int t0)) (Or.inr ⟨_, rfl, rfl⟩) a_q77 g_q77 a_q69_110 g_q69_110 ne_q77_q69_110 A_q77 A_q69_110 (okf hc195)
  have b186 : ∀ (T : State) (L : List Loc) (h : Heap) (X : Stand p l e room_1 s m #[(.int p0), (.int p1), (.int p2), (.int p3), (.int p4), (.int p5)] below meth c T L 4 28) (eT : T.heap = h) (N : Fr n0 L) (Zs : n0 ≤ h.size) (cf_q77 : Nat → Int32) (cn_q69_110 : Nat) (cf_q69_110 : Nat → Int32) (x6 : Int32) (d0 : Slot) (od0 : OneS d0) (d1 : Slot) (od1 : OneS d1) (d2 : Slot) (od2 : OneS d2) (d3 : Slot) (od3 : OneS d3) (d4 : Slot) (od4 : OneS d4) (d5 : Slot) (od5 : OneS d5) (d7 : Slot) (od7 : OneS d7) (d8 : Slot) (od8 : OneS d8) (d9 : Slot) (od9 : OneS d9) (d10 : Slot) (od10 : OneS d10) (d11 : Slot) (od11 : OneS d11) (d12 : Slot) (od12 : OneS d12) (d15 : Slot) (od15 : OneS d15) (a_q77 : Addr) (g_q77 : n0 ≤ a_q77) (a_q69_110 : Addr) (g_q69_110 : n0 ≤ a_q69_110) (ne_q77_q69_110 : a_q77 ≠ a_q69_110) (A_q77 : Ar Z h a_q77 .int 5 cf_q77) (A_q69_110 : Ar Z h a_q69_110 .int cn_q69_110 cf_q69_110) (ok : (O0_186 K cf_q77 cn_q69_110 cf_q69_110 x6)), Ends p e below s 4 28 (Q0 Z  h0 n0 (F0_186 K cf_q77 cn_q69_110 cf_q69_110 x6)) (T.setTop (mkF m 186 #[d0, d1, d2, d3, d4, d5, .val (.int x6), d7, d8, d9, d10, d11, d12, .val (.ref a_q77), .val (.ref a_q69_110), d15] [])) := by
    intro T L h X eT N Zs cf_q77 cn_q69_110 cf_q69_110 x6 d0 od0 d1 od1 d2 od2 d3 od3 d4 od4 d5 od5 d7 od7 d8 od8 d9 od9 d10 od10 d11 od11 d12 od12 d15 od15 a_q77 g_q77 a_q69_110 g_q69_110 ne_q77_q69_110 A_q77 A_q69_110 ok
    refine Ends.step (u' := (T.setTop (mkF m 187 #[d0, d1, d2, d3, d4, d5, .val (.int x6), d7, d8, d9, d10, d11, d12, .val (.ref a_q77), .val (.ref a_q69_110), d15] [(.int (1 : Int32))]))) ?_ (fun _ k => XT.iconstV X.here hx rfl (1 : Int32) (hb hby at_186) rfl k)
    refine Ends.step (u' := (T.setTop (mkF m 191 #[d0, d1, d2, d3, d4, d5, .val (.int x6), d7, d8, d9, d10, d11, d12, .val (.ref a_q77), .val (.ref a_q69_110), d15] [(.int (1 : Int32))]))) ?_ (fun _ k => XS.goto X.here hx rfl (pc0 := 187) (pc' := 191) rfl (hb hby at_187) (by decide) (by decide) k)
    exact b191 T _ _ X eT N Zs cf_q77 cn_q69_110 cf_q69_110 x6 (1 : Int32) (d0) od0 (d1) od1 (d2) od2 (d3) od3 (d4) od4 (d5) od5 (d7) od7 (d8) od8 (d9) od9 (d10) od10 (d11) od11 (d12) od12 (d15) od15 a_q77 g_q77 a_q69_110 g_q69_110 ne_q77_q69_110 A_q77 A_q69_110 ok
  have b190 : ∀ (T : State) (L : List Loc) (h : Heap) (X : Stand p l e room_1 s m #[(.int p0), (.int p1), (.int p2), (.int p3), (.int p4), (.int p5)] below meth c T L 4 28) (eT : T.heap = h) (N : Fr n0 L) (Zs : n0 ≤ h.size) (cf_q77 : Nat → Int32) (cn_q69_110 : Nat) (cf_q69_110 : Nat → Int32) (x6 : Int32) (d0 : Slot) (od0 : OneS d0) (d1 : Slot) (od1 : OneS d1) (d2 : Slot) (od2 : OneS d2) (d3 : Slot) (od3 : OneS d3) (d4 : Slot) (od4 : OneS d4) (d5 : Slot) (od5 : OneS d5) (d7 : Slot) (od7 : OneS d7) (d8 : Slot) (od8 : OneS d8) (d9 : Slot) (od9 : OneS d9) (d10 : Slot) (od10 : OneS d10) (d11 : Slot) (od11 : OneS d11) (d12 : Slot) (od12 : OneS d12) (d15 : Slot) (od15 : OneS d15) (a_q77 : Addr) (g_q77 : n0 ≤ a_q77) (a_q69_110 : Addr) (g_q69_110 : n0 ≤ a_q69_110) (ne_q77_q69_110 : a_q77 ≠ a_q69_110) (A_q77 : Ar Z h a_q77 .int 5 cf_q77) (A_q69_110 : Ar Z h a_q69_110 .int cn_q69_110 cf_q69_110) (ok : (O0_190 K cf_q77 cn_q69_110 cf_q69_110 x6)), Ends p e below s 4 28 (Q0 Z  h0 n0 (F0_190 K cf_q77 cn_q69_110 cf_q69_110 x6)) (T.setTop (mkF m 190 #[d0, d1, d2, d3, d4, d5, .val (.int x6), d7, d8, d9, d10, d11, d12, .val (.ref a_q77), .val (.ref a_q69_110), d15] [])) := by
    intro T L h X eT N Zs cf_q77 cn_q69_110 cf_q69_110 x6 d0 od0 d1 od1 d2 od2 d3 od3 d4 od4 d5 od5 d7 od7 d8 od8 d9 od9 d10 od10 d11 od11 d12 od12 d15 od15 a_q77 g_q77 a_q69_110 g_q69_110 ne_q77_q69_110 A_q77 A_q69_110 ok
    refine Ends.step (u' := (T.setTop (mkF m 191 #[d0, d1, d2, d3, d4, d5, .val (.int x6), d7, d8, d9, d10, d11, d12, .val (.ref a_q77), .val (.ref a_q69_110), d15] [(.int (0 : Int32))]))) ?_ (fun _ k => XT.iconstV X.here hx rfl (0 : Int32) (hb hby at_190) rfl k)
    exact b191 T _ _ X eT N Zs cf_q77 cn_q69_110 cf_q69_110 x6 (0 : Int32) (d0) od0 (d1) od1 (d2) od2 (d3) od3 (d4) od4 (d5) od5 (d7) od7 (d8) od8 (d9) od9 (d10) od10 (d11) od11 (d12) od12 (d15) od15 a_q77 g_q77 a_q69_110 g_q69_110 ne_q77_q69_110 A_q77 A_q69_110 ok
  have b171 : ∀ (T : State) (L : List Loc) (h : Heap) (X : Stand p l e room_1 s m #[(.int p0), (.int p1), (.int p2), (.int p3), (.int p4), (.int p5)] below meth c T L 4 28) (eT : T.heap = h) (N : Fr n0 L) (Zs : n0 ≤ h.size) (cf_q77 : Nat → Int32) (cn_q69_110 : Nat) (cf_q69_110 : Nat → Int32) (x6 : Int32) (d0 : Slot) (od0 : OneS d0) (d1 : Slot) (od1 : OneS d1) (d2 : Slot) (od2 : OneS d2) (d3 : Slot) (od3 : OneS d3) (d4 : Slot) (od4 : OneS d4) (d5 : Slot) (od5 : OneS d5) (d7 : Slot) (od7 : OneS d7) (d8 : Slot) (od8 : OneS d8) (d9 : Slot) (od9 : OneS d9) (d10 : Slot) (od10 : OneS d10) (d11 : Slot) (od11 : OneS d11) (d12 : Slot) (od12 : OneS d12) (d15 : Slot) (od15 : OneS d15) (a_q77 : Addr) (g_q77 : n0 ≤ a_q77) (a_q69_110 : Addr) (g_q69_110 : n0 ≤ a_q69_110) (ne_q77_q69_110 : a_q77 ≠ a_q69_110) (A_q77 : Ar Z h a_q77 .int 5 cf_q77) (A_q69_110 : Ar Z h a_q69_110 .int cn_q69_110 cf_q69_110) (ok : (O0_171 K cf_q77 cn_q69_110 cf_q69_110 x6)), Ends p e below s 4 28 (Q0 Z  h0 n0 (F0_171 K cf_q77 cn_q69_110 cf_q69_110 x6)) (T.setTop (mkF m 171 #[d0, d1, d2, d3, d4, d5, .val (.int x6), d7, d8, d9, d10, d11, d12, .val (.ref a_q77), .val (.ref a_q69_110), d15] [])) := by
    intro T L h X eT N Zs cf_q77 cn_q69_110 cf_q69_110 x6 d0 od0 d1 od1 d2 od2 d3 od3 d4 od4 d5 od5 d7 od7 d8 od8 d9 od9 d10 od10 d11 od11 d12 od12 d15 od15 a_q77 g_q77 a_q69_110 g_q69_110 ne_q77_q69_110 A_q77 A_q69_110 ok
    obtain ⟨o1, o2, okt, okf⟩ := ok
    refine Ends.step (u' := (T.setTop (mkF m 173 #[d0, d1, d2, d3, d4, d5, .val (.int x6), d7, d8, d9, d10, d11, d12, .val (.ref a_q77), .val (.ref a_q69_110), d15] [(.ref a_q69_110)]))) ?_ (fun _ k => XS.aload X.here hx rfl (hb hby at_171) rfl rfl k)
    refine Ends.step (u' := (T.setTop (mkF m 174 #[d0, d1, d2, d3, d4, d5, .val (.int x6), d7, d8, d9, d10, d11, d12, .val (.ref a_q77), .val (.ref a_q69_110), d15] [(.int (1 : Int32)), (.ref a_q69_110)]))) ?_ (fun _ k => XT.iconstV X.here hx rfl (1 : Int32) (hb hby at_173) rfl k)
    refine Ends.iaload X hx hZ eT A_q69_110 o1 (g := (mkF m 174 #[d0, d1, d2, d3, d4, d5, .val (.int x6), d7, d8, d9, d10, d11, d12, .val (.ref a_q77), .val (.ref a_q69_110), d15] [(.int (1 : Int32)), (.ref a_q69_110)])) rfl rfl (hb hby at_174) ?_
    show Ends p e below s _ _ _ (T.setTop (mkF m 175 #[d0, d1, d2, d3, d4, d5, .val (.int x6), d7, d8, d9, d10, d11, d12, .val (.ref a_q77), .val (.ref a_q69_110), d15] [(.int (cf_q69_110 ((1 : Int32)).toNatClampNeg))]))
    refine Ends.step (u' := (T.setTop (mkF m 177 #[d0, d1, d2, d3, d4, d5, .val (.int x6), d7, d8, d9, d10, d11, d12, .val (.ref a_q77), .val (.ref a_q69_110), d15] [(.ref a_q77), (.int (cf_q69_110 ((1 : Int32)).toNatClampNeg))]))) ?_ (fun _ k => XS.aload X.here hx rfl (hb hby at_175) rfl rfl k)
    refine Ends.step (u' := (T.setTop (mkF m 179 #[d0, d1, d2, d3, d4, d5, .val (.int x6), d7, d8, d9, d10, d11, d12, .val (.ref a_q77), .val (.ref a_q69_110), d15] [(.int x6), (.ref a_q77), (.int (cf_q69_110 ((1 : Int32)).toNatClampNeg))]))) ?_ (fun _ k => XS.iload X.here hx rfl (hb hby at_177) rfl k)
    refine Ends.step (u' := (T.setTop (mkF m 180 #[d0, d1, d2, d3, d4, d5, .val (.int x6), d7, d8, d9, d10, d11, d12, .val (.ref a_q77), .val (.ref a_q69_110), d15] [(.int (1 : Int32)), (.int x6), (.ref a_q77), (.int (cf_q69_110 ((1 : Int32)).toNatClampNeg))]))) ?_ (fun _ k => XT.iconstV X.here hx rfl (1 : Int32) (hb hby at_179) rfl k)
    refine Ends.callS X hx hZ hown (hw _ (List.mem_of_getElem? (i := 11) rfl)) (hw _ (List.mem_of_getElem? (i := 12) rfl)) (hw _ (List.mem_of_getElem? (i := 3) rfl)) (hw _ (List.mem_of_getElem? (i := 13) rfl)) (by decide) (rm3 l Z a0 hw x6 (1 : Int32) 5 cf_q77 a_q77 h n0 Zs A_q77 o2) 1 (by decide) (by decide) eT  (g := (mkF m 180 #[d0, d1, d2, d3, d4, d5, .val (.int x6), d7, d8, d9, d10, d11, d12, .val (.ref a_q77), .val (.ref a_q69_110), d15] [(.int (1 : Int32)), (.int x6), (.ref a_q77), (.int (cf_q69_110 ((1 : Int32)).toNatClampNeg))])) rfl (by rw [hml]; rfl)  [(.ref a_q77), (.int x6), (.int (1 : Int32))] [(.int (cf_q69_110 ((1 : Int32)).toNatClampNeg))] (lenOf pd_3 rfl) rfl (by show 2 * 0 + _ ≤ _; exact Nat.le_of_eq rfl) (hb hby at_180) rfl (by decide) (by decide) (fun v4 T4 L4 X4 hQ4 => ?_)
    obtain ⟨rfl, Nq4, e4⟩ := hQ4
    have N4 := Fr.app N Nq4
    show Ends p e below s _ _ _ (T4.setTop (mkF m 183 #[d0, d1, d2, d3, d4, d5, .val (.int x6), d7, d8, d9, d10, d11, d12, .val (.ref a_q77), .val (.ref a_q69_110), d15] [(.int (F3 x6 (1 : Int32) 5 cf_q77)), (.int (cf_q69_110 ((1 : Int32)).toNatClampNeg))]))
    by_cases hc183 : (cf_q69_110 ((1 : Int32)).toNatClampNeg) = (F3 x6 (1 : Int32) 5 cf_q77)
    · refine Eq.mp (congrArg (fun z => Ends p e below s 4 28 (Q0 Z  h0 n0 z) (T4.setTop (mkF m 183 #[d0, d1, d2, d3, d4, d5, .val (.int x6), d7, d8, d9, d10, d11, d12, .val (.ref a_q77), .val (.ref a_q69_110), d15] [(.int (F3 x6 (1 : Int32) 5 cf_q77)), (.int (cf_q69_110 ((1 : Int32)).toNatClampNeg))]))) (show (F0_171 K cf_q77 cn_q69_110 cf_q69_110 x6) = (F0_186 K cf_q77 cn_q69_110 cf_q69_110 x6) from (if_pos hc183)).symm) ?_
      refine Ends.step (u' := (T4.setTop (mkF m 186 #[d0, d1, d2, d3, d4, d5, .val (.int x6), d7, d8, d9, d10, d11, d12, .val (.ref a_q77), .val (.ref a_q69_110), d15] []))) ?_ (fun _ k => XS.icmpNo X4.here hx rfl (hb hby at_183) rfl (XT.ii_ne_f hc183) k)
      exact b186 T4 _ _ X4 e4 N4 Zs cf_q77 cn_q69_110 cf_q69_110 x6 (d0) od0 (d1) od1 (d2) od2 (d3) od3 (d4) od4 (d5) od5 (d7) od7 (d8) od8 (d9) od9 (d10) od10 (d11) od11 (d12) od12 (d15) od15 a_q77 g_q77 a_q69_110 g_q69_110 ne_q77_q69_110 A_q77 A_q69_110 (okt hc183)
    · refine Eq.mp (congrArg (fun z => Ends p e below s 4 28 (Q0 Z  h0 n0 z) (T4.setTop (mkF m 183 #[d0, d1, d2, d3, d4, d5, .val (.int x6), d7, d8, d9, d10, d11, d12, .val (.ref a_q77), .val (.ref a_q69_110), d15] [(.int (F3 x6 (1 : Int32) 5 cf_q77)), (.int (cf_q69_110 ((1 : Int32)).toNatClampNeg))]))) (show (F0_171 K cf_q77 cn_q69_110 cf_q69_110 x6) = (F0_190 K cf_q77 cn_q69_110 cf_q69_110 x6) from (if_neg hc183)).symm) ?_
      refine Ends.step (u' := (T4.setTop (mkF m 190 #[d0, d1, d2, d3, d4, d5, .val (.int x6), d7, d8, d9, d10, d11, d12, .val (.ref a_q77), .val (.ref a_q69_110), d15] []))) ?_ (fun _ k => XS.icmpYes X4.here hx rfl (pc0 := 183) (pc' := 190) rfl (hb hby at_183) rfl (XT.ii_ne_t hc183) (by decide) (by decide) k)
      exact b190 T4 _ _ X4 e4 N4 Zs cf_q77 cn_q69_110 cf_q69_110 x6 (d0) od0 (d1) od1 (d2) od2 (d3) od3 (d4) od4 (d5) od5 (d7) od7 (d8) od8 (d9) od9 (d10) od10 (d11) od11 (d12) od12 (d15) od15 a_q77 g_q77 a_q69_110 g_q69_110 ne_q77_q69_110 A_q77 A_q69_110 (okf hc183)
  have b165 : ∀ (T : State) (L : List Loc) (h : Heap) (X : Stand p l e room_1 s m #[(.int p0), (.int p1), (.int p2), (.int p3), (.int p4), (.int p5)] below meth c T L 4 28) (eT : T.heap = h) (N : Fr n0 L) (Zs : n0 ≤ h.size) (cf_q77 : Nat → Int32) (cn_q69_110 : Nat) (cf_q69_110 : Nat → Int32) (x6 : Int32) (d0 : Slot) (od0 : OneS d0) (d1 : Slot) (od1 : OneS d1) (d2 : Slot) (od2 : OneS d2) (d3 : Slot) (od3 : OneS d3) (d4 : Slot) (od4 : OneS d4) (d5 : Slot) (od5 : OneS d5) (d7 : Slot) (od7 : OneS d7) (d8 : Slot) (od8 : OneS d8) (d9 : Slot) (od9 : OneS d9) (d10 : Slot) (od10 : OneS d10) (d11 : Slot) (od11 : OneS d11) (d12 : Slot) (od12 : OneS d12) (d15 : Slot) (od15 : OneS d15) (a_q77 : Addr) (g_q77 : n0 ≤ a_q77) (a_q69_110 : Addr) (g_q69_110 : n0 ≤ a_q69_110) (ne_q77_q69_110 : a_q77 ≠ a_q69_110) (A_q77 : Ar Z h a_q77 .int 5 cf_q77) (A_q69_110 : Ar Z h a_q69_110 .int cn_q69_110 cf_q69_110) (ok : (O0_165 K cf_q77 cn_q69_110 cf_q69_110 x6)), Ends p e below s 4 28 (Q0 Z  h0 n0 (F0_165 K cf_q77 cn_q69_110 cf_q69_110 x6)) (T.setTop (mkF m 165 #[d0, d1, d2, d3, d4, d5, .val (.int x6), d7, d8, d9, d10, d11, d12, .val (.ref a_q77), .val (.ref a_q69_110), d15] [])) := by
    intro T L h X eT N Zs cf_q77 cn_q69_110 cf_q69_110 x6 d0 od0 d1 od1 d2 od2 d3 od3 d4 od4 d5 od5 d7 od7 d8 od8 d9 od9 d10 od10 d11 od11 d12 od12 d15 od15 a_q77 g_q77 a_q69_110 g_q69_110 ne_q77_q69_110 A_q77 A_q69_110 ok
    obtain ⟨okt, okf⟩ := ok
    refine Ends.step (u' := (T.setTop (mkF m 167 #[d0, d1, d2, d3, d4, d5, .val (.int x6), d7, d8, d9, d10, d11, d12, .val (.ref a_q77), .val (.ref a_q69_110), d15] [(.int x6)]))) ?_ (fun _ k => XS.iload X.here hx rfl (hb hby at_165) rfl k)
    refine Ends.step (u' := (T.setTop (mkF m 168 #[d0, d1, d2, d3, d4, d5, .val (.int x6), d7, d8, d9, d10, d11, d12, .val (.ref a_q77), .val (.ref a_q69_110), d15] [(.int (1 : Int32)), (.int x6)]))) ?_ (fun _ k => XT.iconstV X.here hx rfl (1 : Int32) (hb hby at_167) rfl k)
    by_cases hc168 : (1 : Int32) < x6
    · refine Eq.mp (congrArg (fun z => Ends p e below s 4 28 (Q0 Z  h0 n0 z) (T.setTop (mkF m 168 #[d0, d1, d2, d3, d4, d5, .val (.int x6), d7, d8, d9, d10, d11, d12, .val (.ref a_q77), .val (.ref a_q69_110), d15] [(.int (1 : Int32)), (.int x6)]))) (show (F0_165 K cf_q77 cn_q69_110 cf_q69_110 x6) = (F0_171 K cf_q77 cn_q69_110 cf_q69_110 x6) from (if_pos hc168)).symm) ?_
      refine Ends.step (u' := (T.setTop (mkF m 171 #[d0, d1, d2, d3, d4, d5, .val (.int x6), d7, d8, d9, d10, d11, d12, .val (.ref a_q77), .val (.ref a_q69_110), d15] []))) ?_ (fun _ k => XS.icmpNo X.here hx rfl (hb hby at_168) rfl (XT.ii_le_f hc168) k)
      exact b171 T _ _ X eT N Zs cf_q77 cn_q69_110 cf_q69_110 x6 (d0) od0 (d1) od1 (d2) od2 (d3) od3 (d4) od4 (d5) od5 (d7) od7 (d8) od8 (d9) od9 (d10) od10 (d11) od11 (d12) od12 (d15) od15 a_q77 g_q77 a_q69_110 g_q69_110 ne_q77_q69_110 A_q77 A_q69_110 (okt hc168)
    · refine Eq.mp (congrArg (fun z => Ends p e below s 4 28 (Q0 Z  h0 n0 z) (T.setTop (mkF m 168 #[d0, d1, d2, d3, d4, d5, .val (.int x6), d7, d8, d9, d10, d11, d12, .val (.ref a_q77), .val (.ref a_q69_110), d15] [(.int (1 : Int32)), (.int x6)]))) (show (F0_165 K cf_q77 cn_q69_110 cf_q69_110 x6) = (F0_186 K cf_q77 cn_q69_110 cf_q69_110 x6) from (if_neg hc168)).symm) ?_
      refine Ends.step (u' := (T.setTop (mkF m 186 #[d0, d1, d2, d3, d4, d5, .val (.int x6), d7, d8, d9, d10, d11, d12, .val (.ref a_q77), .val (.ref a_q69_110), d15] []))) ?_ (fun _ k => XS.icmpYes X.here hx rfl (pc0 := 168) (pc' := 186) rfl (hb hby at_168) rfl (XT.ii_le_t hc168) (by decide) (by decide) k)
      exact b186 T _ _ X eT N Zs cf_q77 cn_q69_110 cf_q69_110 x6 (d0) od0 (d1) od1 (d2) od2 (d3) od3 (d4) od4 (d5) od5 (d7) od7 (d8) od8 (d9) od9 (d10) od10 (d11) od11 (d12) od12 (d15) od15 a_q77 g_q77 a_q69_110 g_q69_110 ne_q77_q69_110 A_q77 A_q69_110 (okf hc168)
  have b158 : ∀ (T : State) (L : List Loc) (h : Heap) (X : Stand p l e room_1 s m #[(.int p0), (.int p1), (.int p2), (.int p3), (.int p4), (.int p5)] below meth c T L 4 28) (eT : T.heap = h) (N : Fr n0 L) (Zs : n0 ≤ h.size) (cf_q77 : Nat → Int32) (cn_q69_110 : Nat) (cf_q69_110 : Nat → Int32) (x6 : Int32) (t0 : Int32) (d0 : Slot) (od0 : OneS d0) (d1 : Slot) (od1 : OneS d1) (d2 : Slot) (od2 : OneS d2) (d3 : Slot) (od3 : OneS d3) (d4 : Slot) (od4 : OneS d4) (d5 : Slot) (od5 : OneS d5) (d7 : Slot) (od7 : OneS d7) (d8 : Slot) (od8 : OneS d8) (d9 : Slot) (od9 : OneS d9) (d10 : Slot) (od10 : OneS d10) (d11 : Slot) (od11 : OneS d11) (d12 : Slot) (od12 : OneS d12) (d15 : Slot) (od15 : OneS d15) (a_q77 : Addr) (g_q77 : n0 ≤ a_q77) (a_q69_110 : Addr) (g_q69_110 : n0 ≤ a_q69_110) (ne_q77_q69_110 : a_q77 ≠ a_q69_110) (A_q77 : Ar Z h a_q77 .int 5 cf_q77) (A_q69_110 : Ar Z h a_q69_110 .int cn_q69_110 cf_q69_110) (ok : (O0_158 K cf_q77 cn_q69_110 cf_q69_110 x6 t0)), Ends p e below s 4 28 (Q0 Z  h0 n0 (F0_158 K cf_q77 cn_q69_110 cf_q69_110 x6 t0)) (T.setTop (mkF m 158 #[d0, d1, d2, d3, d4, d5, .val (.int x6), d7, d8, d9, d10, d11, d12, .val (.ref a_q77), .val (.ref a_q69_110), d15] [(.int t0)])) := by
    intro T L h X eT N Zs cf_q77 cn_q69_110 cf_q69_110 x6 t0 d0 od0 d1 od1 d2 od2 d3 od3 d4 od4 d5 od5 d7 od7 d8 od8 d9 od9 d10 od10 d11 od11 d12 od12 d15 od15 a_q77 g_q77 a_q69_110 g_q69_110 ne_q77_q69_110 A_q77 A_q69_110 ok
    obtain ⟨okt, okf⟩ := ok
    refine Ends.step (u' := (T.setTop (mkF m 160 #[d0, d1, d2, d3, d4, d5, .val (.int x6), d7, d8, d9, d10, d11, d12, .val (.ref a_q77), .val (.ref a_q69_110), .val (.int t0)] []))) ?_ (fun _ k => XS.istoreS X.here hx rfl (hb hby at_158) rfl rfl od15 k)
    refine Ends.step (u' := (T.setTop (mkF m 162 #[d0, d1, d2, d3, d4, d5, .val (.int x6), d7, d8, d9, d10, d11, d12, .val (.ref a_q77), .val (.ref a_q69_110), .val (.int t0)] [(.int t0)]))) ?_ (fun _ k => XS.iload X.here hx rfl (hb hby at_160) rfl k)
    by_cases hc162 : t0 = 0
    · refine Eq.mp (congrArg (fun z => Ends p e below s 4 28 (Q0 Z  h0 n0 z) (T.setTop (mkF m 162 #[d0, d1, d2, d3, d4, d5, .val (.int x6), d7, d8, d9, d10, d11, d12, .val (.ref a_q77), .val (.ref a_q69_110), .val (.int t0)] [(.int t0)]))) (show (F0_158 K cf_q77 cn_q69_110 cf_q69_110 x6 t0) = (F0_190 K cf_q77 cn_q69_110 cf_q69_110 x6) from (if_pos hc162)).symm) ?_
      refine Ends.step (u' := (T.setTop (mkF m 190 #[d0, d1, d2, d3, d4, d5, .val (.int x6), d7, d8, d9, d10, d11, d12, .val (.ref a_q77), .val (.ref a_q69_110), .val (.int t0)] []))) ?_ (fun _ k => XS.ifYes X.here hx rfl (pc0 := 162) (pc' := 190) rfl (hb hby at_162) rfl (XT.i0_eq_t hc162) (by decide) (by decide) k)
      exact b190 T _ _ X eT N Zs cf_q77 cn_q69_110 cf_q69_110 x6 (d0) od0 (d1) od1 (d2) od2 (d3) od3 (d4) od4 (d5) od5 (d7) od7 (d8) od8 (d9) od9 (d10) od10 (d11) od11 (d12) od12 (.val (.int t0)) (Or.inr ⟨_, rfl, rfl⟩) a_q77 g_q77 a_q69_110 g_q69_110 ne_q77_q69_110 A_q77 A_q69_110 (okt hc162)
    · refine Eq.mp (congrArg (fun z => Ends p e below s 4 28 (Q0 Z  h0 n0 z) (T.setTop (mkF m 162 #[d0, d1, d2, d3, d4, d5, .val (.int x6), d7, d8, d9, d10, d11, d12, .val (.ref a_q77), .val (.ref a_q69_110), .val (.int t0)] [(.int t0)]))) (show (F0_158 K cf_q77 cn_q69_110 cf_q69_110 x6 t0) = (F0_165 K cf_q77 cn_q69_110 cf_q69_110 x6) from (if_neg hc162)).symm) ?_
      refine Ends.step (u' := (T.setTop (mkF m 165 #[d0, d1, d2, d3, d4, d5, .val (.int x6), d7, d8, d9, d10, d11, d12, .val (.ref a_q77), .val (.ref a_q69_110), .val (.int t0)] []))) ?_ (fun _ k => XS.ifNo X.here hx rfl (hb hby at_162) rfl (XT.i0_eq_f hc162) k)
      exact b165 T _ _ X eT N Zs cf_q77 cn_q69_110 cf_q69_110 x6 (d0) od0 (d1) od1 (d2) od2 (d3) od3 (d4) od4 (d5) od5 (d7) od7 (d8) od8 (d9) od9 (d10) od10 (d11) od11 (d12) od12 (.val (.int t0)) (Or.inr ⟨_, rfl, rfl⟩) a_q77 g_q77 a_q69_110 g_q69_110 ne_q77_q69_110 A_q77 A_q69_110 (okf hc162)
  have b153 : ∀ (T : State) (L : List Loc) (h : Heap) (X : Stand p l e room_1 s m #[(.int p0), (.int p1), (.int p2), (.int p3), (.int p4), (.int p5)] below meth c T L 4 28) (eT : T.heap = h) (N : Fr n0 L) (Zs : n0 ≤ h.size) (cf_q77 : Nat → Int32) (cn_q69_110 : Nat) (cf_q69_110 : Nat → Int32) (x6 : Int32) (d0 : Slot) (od0 : OneS d0) (d1 : Slot) (od1 : OneS d1) (d2 : Slot) (od2 : OneS d2) (d3 : Slot) (od3 : OneS d3) (d4 : Slot) (od4 : OneS d4) (d5 : Slot) (od5 : OneS d5) (d7 : Slot) (od7 : OneS d7) (d8 : Slot) (od8 : OneS d8) (d9 : Slot) (od9 : OneS d9) (d10 : Slot) (od10 : OneS d10) (d11 : Slot) (od11 : OneS d11) (d12 : Slot) (od12 : OneS d12) (d15 : Slot) (od15 : OneS d15) (a_q77 : Addr) (g_q77 : n0 ≤ a_q77) (a_q69_110 : Addr) (g_q69_110 : n0 ≤ a_q69_110) (ne_q77_q69_110 : a_q77 ≠ a_q69_110) (A_q77 : Ar Z h a_q77 .int 5 cf_q77) (A_q69_110 : Ar Z h a_q69_110 .int cn_q69_110 cf_q69_110) (ok : (O0_153 K cf_q77 cn_q69_110 cf_q69_110 x6)), Ends p e below s 4 28 (Q0 Z  h0 n0 (F0_153 K cf_q77 cn_q69_110 cf_q69_110 x6)) (T.setTop (mkF m 153 #[d0, d1, d2, d3, d4, d5, .val (.int x6), d7, d8, d9, d10, d11, d12, .val (.ref a_q77), .val (.ref a_q69_110), d15] [])) := by
    intro T L h X eT N Zs cf_q77 cn_q69_110 cf_q69_110 x6 d0 od0 d1 od1 d2 od2 d3 od3 d4 od4 d5 od5 d7 od7 d8 od8 d9 od9 d10 od10 d11 od11 d12 od12 d15 od15 a_q77 g_q77 a_q69_110 g_q69_110 ne_q77_q69_110 A_q77 A_q69_110 ok
    refine Ends.step (u' := (T.setTop (mkF m 154 #[d0, d1, d2, d3, d4, d5, .val (.int x6), d7, d8, d9, d10, d11, d12, .val (.ref a_q77), .val (.ref a_q69_110), d15] [(.int (1 : Int32))]))) ?_ (fun _ k => XT.iconstV X.here hx rfl (1 : Int32) (hb hby at_153) rfl k)
    refine Ends.step (u' := (T.setTop (mkF m 158 #[d0, d1, d2, d3, d4, d5, .val (.int x6), d7, d8, d9, d10, d11, d12, .val (.ref a_q77), .val (.ref a_q69_110), d15] [(.int (1 : Int32))]))) ?_ (fun _ k => XS.goto X.here hx rfl (pc0 := 154) (pc' := 158) rfl (hb hby at_154) (by decide) (by decide) k)
    exact b158 T _ _ X eT N Zs cf_q77 cn_q69_110 cf_q69_110 x6 (1 : Int32) (d0) od0 (d1) od1 (d2) od2 (d3) od3 (d4) od4 (d5) od5 (d7) od7 (d8) od8 (d9) od9 (d10) od10 (d11) od11 (d12) od12 (d15) od15 a_q77 g_q77 a_q69_110 g_q69_110 ne_q77_q69_110 A_q77 A_q69_110 ok
  have b157 : ∀ (T : State) (L : List Loc) (h : Heap) (X : Stand p l e room_1 s m #[(.int p0), (.int p1), (.int p2), (.int p3), (.int p4), (.int p5)] below meth c T L 4 28) (eT : T.heap = h) (N : Fr n0 L) (Zs : n0 ≤ h.size) (cf_q77 : Nat → Int32) (cn_q69_110 : Nat) (cf_q69_110 : Nat → Int32) (x6 : Int32) (d0 : Slot) (od0 : OneS d0) (d1 : Slot) (od1 : OneS d1) (d2 : Slot) (od2 : OneS d2) (d3 : Slot) (od3 : OneS d3) (d4 : Slot) (od4 : OneS d4) (d5 : Slot) (od5 : OneS d5) (d7 : Slot) (od7 : OneS d7) (d8 : Slot) (od8 : OneS d8) (d9 : Slot) (od9 : OneS d9) (d10 : Slot) (od10 : OneS d10) (d11 : Slot) (od11 : OneS d11) (d12 : Slot) (od12 : OneS d12) (d15 : Slot) (od15 : OneS d15) (a_q77 : Addr) (g_q77 : n0 ≤ a_q77) (a_q69_110 : Addr) (g_q69_110 : n0 ≤ a_q69_110) (ne_q77_q69_110 : a_q77 ≠ a_q69_110) (A_q77 : Ar Z h a_q77 .int 5 cf_q77) (A_q69_110 : Ar Z h a_q69_110 .int cn_q69_110 cf_q69_110) (ok : (O0_157 K cf_q77 cn_q69_110 cf_q69_110 x6)), Ends p e below s 4 28 (Q0 Z  h0 n0 (F0_157 K cf_q77 cn_q69_110 cf_q69_110 x6)) (T.setTop (mkF m 157 #[d0, d1, d2, d3, d4, d5, .val (.int x6), d7, d8, d9, d10, d11, d12, .val (.ref a_q77), .val (.ref a_q69_110), d15] [])) := by
    intro T L h X eT N Zs cf_q77 cn_q69_110 cf_q69_110 x6 d0 od0 d1 od1 d2 od2 d3 od3 d4 od4 d5 od5 d7 od7 d8 od8 d9 od9 d10 od10 d11 od11 d12 od12 d15 od15 a_q77 g_q77 a_q69_110 g_q69_110 ne_q77_q69_110 A_q77 A_q69_110 ok
    refine Ends.step (u' := (T.setTop (mkF m 158 #[d0, d1, d2, d3, d4, d5, .val (.int x6), d7, d8, d9, d10, d11, d12, .val (.ref a_q77), .val (.ref a_q69_110), d15] [(.int (0 : Int32))]))) ?_ (fun _ k => XT.iconstV X.here hx rfl (0 : Int32) (hb hby at_157) rfl k)
    exact b158 T _ _ X eT N Zs cf_q77 cn_q69_110 cf_q69_110 x6 (0 : Int32) (d0) od0 (d1) od1 (d2) od2 (d3) od3 (d4) od4 (d5) od5 (d7) od7 (d8) od8 (d9) od9 (d10) od10 (d11) od11 (d12) od12 (d15) od15 a_q77 g_q77 a_q69_110 g_q69_110 ne_q77_q69_110 A_q77 A_q69_110 ok
  have b138 : ∀ (T : State) (L : List Loc) (h : Heap) (X : Stand p l e room_1 s m #[(.int p0), (.int p1), (.int p2), (.int p3), (.int p4), (.int p5)] below meth c T L 4 28) (eT : T.heap = h) (N : Fr n0 L) (Zs : n0 ≤ h.size) (cf_q77 : Nat → Int32) (cn_q69_110 : Nat) (cf_q69_110 : Nat → Int32) (x6 : Int32) (d0 : Slot) (od0 : OneS d0) (d1 : Slot) (od1 : OneS d1) (d2 : Slot) (od2 : OneS d2) (d3 : Slot) (od3 : OneS d3) (d4 : Slot) (od4 : OneS d4) (d5 : Slot) (od5 : OneS d5) (d7 : Slot) (od7 : OneS d7) (d8 : Slot) (od8 : OneS d8) (d9 : Slot) (od9 : OneS d9) (d10 : Slot) (od10 : OneS d10) (d11 : Slot) (od11 : OneS d11) (d12 : Slot) (od12 : OneS d12) (d15 : Slot) (od15 : OneS d15) (a_q77 : Addr) (g_q77 : n0 ≤ a_q77) (a_q69_110 : Addr) (g_q69_110 : n0 ≤ a_q69_110) (ne_q77_q69_110 : a_q77 ≠ a_q69_110) (A_q77 : Ar Z h a_q77 .int 5 cf_q77) (A_q69_110 : Ar Z h a_q69_110 .int cn_q69_110 cf_q69_110) (ok : (O0_138 K cf_q77 cn_q69_110 cf_q69_110 x6)), Ends p e below s 4 28 (Q0 Z  h0 n0 (F0_138 K cf_q77 cn_q69_110 cf_q69_110 x6)) (T.setTop (mkF m 138 #[d0, d1, d2, d3, d4, d5, .val (.int x6), d7, d8, d9, d10, d11, d12, .val (.ref a_q77), .val (.ref a_q69_110), d15] [])) := by
    intro T L h X eT N Zs cf_q77 cn_q69_110 cf_q69_110 x6 d0 od0 d1 od1 d2 od2 d3 od3 d4 od4 d5 od5 d7 od7 d8 od8 d9 od9 d10 od10 d11 od11 d12 od12 d15 od15 a_q77 g_q77 a_q69_110 g_q69_110 ne_q77_q69_110 A_q77 A_q69_110 ok
    obtain ⟨o1, o2, okt, okf⟩ := ok
    refine Ends.step (u' := (T.setTop (mkF m 140 #[d0, d1, d2, d3, d4, d5, .val (.int x6), d7, d8, d9, d10, d11, d12, .val (.ref a_q77), .val (.ref a_q69_110), d15] [(.ref a_q69_110)]))) ?_ (fun _ k => XS.aload X.here hx rfl (hb hby at_138) rfl rfl k)
    refine Ends.step (u' := (T.setTop (mkF m 141 #[d0, d1, d2, d3, d4, d5, .val (.int x6), d7, d8, d9, d10, d11, d12, .val (.ref a_q77), .val (.ref a_q69_110), d15] [(.int (0 : Int32)), (.ref a_q69_110)]))) ?_ (fun _ k => XT.iconstV X.here hx rfl (0 : Int32) (hb hby at_140) rfl k)
    refine Ends.iaload X hx hZ eT A_q69_110 o1 (g := (mkF m 141 #[d0, d1, d2, d3, d4, d5, .val (.int x6), d7, d8, d9, d10, d11, d12, .val (.ref a_q77), .val (.ref a_q69_110), d15] [(.int (0 : Int32)), (.ref a_q69_110)])) rfl rfl (hb hby at_141) ?_
    show Ends p e below s _ _ _ (T.setTop (mkF m 142 #[d0, d1, d2, d3, d4, d5, .val (.int x6), d7, d8, d9, d10, d11, d12, .val (.ref a_q77), .val (.ref a_q69_110), d15] [(.int (cf_q69_110 ((0 : Int32)).toNatClampNeg))]))
    refine Ends.step (u' := (T.setTop (mkF m 144 #[d0, d1, d2, d3, d4, d5, .val (.int x6), d7, d8, d9, d10, d11, d12, .val (.ref a_q77), .val (.ref a_q69_110), d15] [(.ref a_q77), (.int (cf_q69_110 ((0 : Int32)).toNatClampNeg))]))) ?_ (fun _ k => XS.aload X.here hx rfl (hb hby at_142) rfl rfl k)
    refine Ends.step (u' := (T.setTop (mkF m 146 #[d0, d1, d2, d3, d4, d5, .val (.int x6), d7, d8, d9, d10, d11, d12, .val (.ref a_q77), .val (.ref a_q69_110), d15] [(.int x6), (.ref a_q77), (.int (cf_q69_110 ((0 : Int32)).toNatClampNeg))]))) ?_ (fun _ k => XS.iload X.here hx rfl (hb hby at_144) rfl k)
    refine Ends.step (u' := (T.setTop (mkF m 147 #[d0, d1, d2, d3, d4, d5, .val (.int x6), d7, d8, d9, d10, d11, d12, .val (.ref a_q77), .val (.ref a_q69_110), d15] [(.int (0 : Int32)), (.int x6), (.ref a_q77), (.int (cf_q69_110 ((0 : Int32)).toNatClampNeg))]))) ?_ (fun _ k => XT.iconstV X.here hx rfl (0 : Int32) (hb hby at_146) rfl k)
    refine Ends.callS X hx hZ hown (hw _ (List.mem_of_getElem? (i := 11) rfl)) (hw _ (List.mem_of_getElem? (i := 12) rfl)) (hw _ (List.mem_of_getElem? (i := 3) rfl)) (hw _ (List.mem_of_getElem? (i := 13) rfl)) (by decide) (rm3 l Z a0 hw x6 (0 : Int32) 5 cf_q77 a_q77 h n0 Zs A_q77 o2) 1 (by decide) (by decide) eT  (g := (mkF m 147 #[d0, d1, d2, d3, d4, d5, .val (.int x6), d7, d8, d9, d10, d11, d12, .val (.ref a_q77), .val (.ref a_q69_110), d15] [(.int (0 : Int32)), (.int x6), (.ref a_q77), (.int (cf_q69_110 ((0 : Int32)).toNatClampNeg))])) rfl (by rw [hml]; rfl)  [(.ref a_q77), (.int x6), (.int (0 : Int32))] [(.int (cf_q69_110 ((0 : Int32)).toNatClampNeg))] (lenOf pd_3 rfl) rfl (by show 2 * 0 + _ ≤ _; exact Nat.le_of_eq rfl) (hb hby at_147) rfl (by decide) (by decide) (fun v5 T5 L5 X5 hQ5 => ?_)
    obtain ⟨rfl, Nq5, e5⟩ := hQ5
    have N5 := Fr.app N Nq5
    show Ends p e below s _ _ _ (T5.setTop (mkF m 150 #[d0, d1, d2, d3, d4, d5, .val (.int x6), d7, d8, d9, d10, d11, d12, .val (.ref a_q77), .val (.ref a_q69_110), d15] [(.int (F3 x6 (0 : Int32) 5 cf_q77)), (.int (cf_q69_110 ((0 : Int32)).toNatClampNeg))]))
    by_cases hc150 : (cf_q69_110 ((0 : Int32)).toNatClampNeg) = (F3 x6 (0 : Int32) 5 cf_q77)
    · refine Eq.mp (congrArg (fun z => Ends p e below s 4 28 (Q0 Z  h0 n0 z) (T5.setTop (mkF m 150 #[d0, d1, d2, d3, d4, d5, .val (.int x6), d7, d8, d9, d10, d11, d12, .val (.ref a_q77), .val (.ref a_q69_110), d15] [(.int (F3 x6 (0 : Int32) 5 cf_q77)), (.int (cf_q69_110 ((0 : Int32)).toNatClampNeg))]))) (show (F0_138 K cf_q77 cn_q69_110 cf_q69_110 x6) = (F0_153 K cf_q77 cn_q69_110 cf_q69_110 x6) from (if_pos hc150)).symm) ?_
      refine Ends.step (u' := (T5.setTop (mkF m 153 #[d0, d1, d2, d3, d4, d5, .val (.int x6), d7, d8, d9, d10, d11, d12, .val (.ref a_q77), .val (.ref a_q69_110), d15] []))) ?_ (fun _ k => XS.icmpNo X5.here hx rfl (hb hby at_150) rfl (XT.ii_ne_f hc150) k)
      exact b153 T5 _ _ X5 e5 N5 Zs cf_q77 cn_q69_110 cf_q69_110 x6 (d0) od0 (d1) od1 (d2) od2 (d3) od3 (d4) od4 (d5) od5 (d7) od7 (d8) od8 (d9) od9 (d10) od10 (d11) od11 (d12) od12 (d15) od15 a_q77 g_q77 a_q69_110 g_q69_110 ne_q77_q69_110 A_q77 A_q69_110 (okt hc150)
    · refine Eq.mp (congrArg (fun z => Ends p e below s 4 28 (Q0 Z  h0 n0 z) (T5.setTop (mkF m 150 #[d0, d1, d2, d3, d4, d5, .val (.int x6), d7, d8, d9, d10, d11, d12, .val (.ref a_q77), .val (.ref a_q69_110), d15] [(.int (F3 x6 (0 : Int32) 5 cf_q77)), (.int (cf_q69_110 ((0 : Int32)).toNatClampNeg))]))) (show (F0_138 K cf_q77 cn_q69_110 cf_q69_110 x6) = (F0_157 K cf_q77 cn_q69_110 cf_q69_110 x6) from (if_neg hc150)).symm) ?_
      refine Ends.step (u' := (T5.setTop (mkF m 157 #[d0, d1, d2, d3, d4, d5, .val (.int x6), d7, d8, d9, d10, d11, d12, .val (.ref a_q77), .val (.ref a_q69_110), d15] []))) ?_ (fun _ k => XS.icmpYes X5.here hx rfl (pc0 := 150) (pc' := 157) rfl (hb hby at_150) rfl (XT.ii_ne_t hc150) (by decide) (by decide) k)
      exact b157 T5 _ _ X5 e5 N5 Zs cf_q77 cn_q69_110 cf_q69_110 x6 (d0) od0 (d1) od1 (d2) od2 (d3) od3 (d4) od4 (d5) od5 (d7) od7 (d8) od8 (d9) od9 (d10) od10 (d11) od11 (d12) od12 (d15) od15 a_q77 g_q77 a_q69_110 g_q69_110 ne_q77_q69_110 A_q77 A_q69_110 (okf hc150)
  have b133 : ∀ (T : State) (L : List Loc) (h : Heap) (X : Stand p l e room_1 s m #[(.int p0), (.int p1), (.int p2), (.int p3), (.int p4), (.int p5)] below meth c T L 4 28) (eT : T.heap = h) (N : Fr n0 L) (Zs : n0 ≤ h.size) (cf_q77 : Nat → Int32) (cn_q69_110 : Nat) (cf_q69_110 : Nat → Int32) (x6 : Int32) (d0 : Slot) (od0 : OneS d0) (d1 : Slot) (od1 : OneS d1) (d2 : Slot) (od2 : OneS d2) (d3 : Slot) (od3 : OneS d3) (d4 : Slot) (od4 : OneS d4) (d5 : Slot) (od5 : OneS d5) (d7 : Slot) (od7 : OneS d7) (d8 : Slot) (od8 : OneS d8) (d9 : Slot) (od9 : OneS d9) (d10 : Slot) (od10 : OneS d10) (d11 : Slot) (od11 : OneS d11) (d12 : Slot) (od12 : OneS d12) (d15 : Slot) (od15 : OneS d15) (a_q77 : Addr) (g_q77 : n0 ≤ a_q77) (a_q69_110 : Addr) (g_q69_110 : n0 ≤ a_q69_110) (ne_q77_q69_110 : a_q77 ≠ a_q69_110) (A_q77 : Ar Z h a_q77 .int 5 cf_q77) (A_q69_110 : Ar Z h a_q69_110 .int cn_q69_110 cf_q69_110) (ok : (O0_133 K cf_q77 cn_q69_110 cf_q69_110 x6)), Ends p e below s 4 28 (Q0 Z  h0 n0 (F0_133 K cf_q77 cn_q69_110 cf_q69_110 x6)) (T.setTop (mkF m 133 #[d0, d1, d2, d3, d4, d5, .val (.int x6), d7, d8, d9, d10, d11, d12, .val (.ref a_q77), .val (.ref a_q69_110), d15] [])) := by
    intro T L h X eT N Zs cf_q77 cn_q69_110 cf_q69_110 x6 d0 od0 d1 od1 d2 od2 d3 od3 d4 od4 d5 od5 d7 od7 d8 od8 d9 od9 d10 od10 d11 od11 d12 od12 d15 od15 a_q77 g_q77 a_q69_110 g_q69_110 ne_q77_q69_110 A_q77 A_q69_110 ok
    obtain ⟨okt, okf⟩ := ok
    refine Ends.step (u' := (T.setTop (mkF m 135 #[d0, d1, d2, d3, d4, d5, .val (.int x6), d7, d8, d9, d10, d11, d12, .val (.ref a_q77), .val (.ref a_q69_110), d15] [(.int x6)]))) ?_ (fun _ k => XS.iload X.here hx rfl (hb hby at_133) rfl k)
    by_cases hc135 : 0 < x6
    · refine Eq.mp (congrArg (fun z => Ends p e below s 4 28 (Q0 Z  h0 n0 z) (T.setTop (mkF m 135 #[d0, d1, d2, d3, d4, d5, .val (.int x6), d7, d8, d9, d10, d11, d12, .val (.ref a_q77), .val (.ref a_q69_110), d15] [(.int x6)]))) (show (F0_133 K cf_q77 cn_q69_110 cf_q69_110 x6) = (F0_138 K cf_q77 cn_q69_110 cf_q69_110 x6) from (if_pos hc135)).symm) ?_
      refine Ends.step (u' := (T.setTop (mkF m 138 #[d0, d1, d2, d3, d4, d5, .val (.int x6), d7, d8, d9, d10, d11, d12, .val (.ref a_q77), .val (.ref a_q69_110), d15] []))) ?_ (fun _ k => XS.ifNo X.here hx rfl (hb hby at_135) rfl (XT.i0_le_f hc135) k)
      exact b138 T _ _ X eT N Zs cf_q77 cn_q69_110 cf_q69_110 x6 (d0) od0 (d1) od1 (d2) od2 (d3) od3 (d4) od4 (d5) od5 (d7) od7 (d8) od8 (d9) od9 (d10) od10 (d11) od11 (d12) od12 (d15) od15 a_q77 g_q77 a_q69_110 g_q69_110 ne_q77_q69_110 A_q77 A_q69_110 (okt hc135)
    · refine Eq.mp (congrArg (fun z => Ends p e below s 4 28 (Q0 Z  h0 n0 z) (T.setTop (mkF m 135 #[d0, d1, d2, d3, d4, d5, .val (.int x6), d7, d8, d9, d10, d11, d12, .val (.ref a_q77), .val (.ref a_q69_110), d15] [(.int x6)]))) (show (F0_133 K cf_q77 cn_q69_110 cf_q69_110 x6) = (F0_153 K cf_q77 cn_q69_110 cf_q69_110 x6) from (if_neg hc135)).symm) ?_
      refine Ends.step (u' := (T.setTop (mkF m 153 #[d0, d1, d2, d3, d4, d5, .val (.int x6), d7, d8, d9, d10, d11, d12, .val (.ref a_q77), .val (.ref a_q69_110), d15] []))) ?_ (fun _ k => XS.ifYes X.here hx rfl (pc0 := 135) (pc' := 153) rfl (hb hby at_135) rfl (XT.i0_le_t hc135) (by decide) (by decide) k)
      exact b153 T _ _ X eT N Zs cf_q77 cn_q69_110 cf_q69_110 x6 (d0) od0 (d1) od1 (d2) od2 (d3) od3 (d4) od4 (d5) od5 (d7) od7 (d8) od8 (d9) od9 (d10) od10 (d11) od11 (d12) od12 (d15) od15 a_q77 g_q77 a_q69_110 g_q69_110 ne_q77_q69_110 A_q77 A_q69_110 (okf hc135)
  have b125 : ∀ (T : State) (L : List Loc) (h : Heap) (X : Stand p l e room_1 s m #[(.int p0), (.int p1), (.int p2), (.int p3), (.int p4), (.int p5)] below meth c T L 4 28) (eT : T.heap = h) (N : Fr n0 L) (Zs : n0 ≤ h.size) (cf_q77 : Nat → Int32) (cn_q69_110 : Nat) (cf_q69_110 : Nat → Int32) (x6 : Int32) (d0 : Slot) (od0 : OneS d0) (d1 : Slot) (od1 : OneS d1) (d2 : Slot) (od2 : OneS d2) (d3 : Slot) (od3 : OneS d3) (d4 : Slot) (od4 : OneS d4) (d5 : Slot) (od5 : OneS d5) (d7 : Slot) (od7 : OneS d7) (d8 : Slot) (od8 : OneS d8) (d9 : Slot) (od9 : OneS d9) (d10 : Slot) (od10 : OneS d10) (d11 : Slot) (od11 : OneS d11) (d12 : Slot) (od12 : OneS d12) (a_q77 : Addr) (g_q77 : n0 ≤ a_q77) (a_q69_110 : Addr) (g_q69_110 : n0 ≤ a_q69_110) (ne_q77_q69_110 : a_q77 ≠ a_q69_110) (A_q77 : Ar Z h a_q77 .int 5 cf_q77) (A_q69_110 : Ar Z h a_q69_110 .int cn_q69_110 cf_q69_110) (ok : (O0_125 K cf_q77 cn_q69_110 cf_q69_110 x6)), Ends p e below s 4 28 (Q0 Z  h0 n0 (F0_125 K cf_q77 cn_q69_110 cf_q69_110 x6)) (T.setTop (mkF m 125 #[d0, d1, d2, d3, d4, d5, .val (.int x6), d7, d8, d9, d10, d11, d12, .val (.ref a_q77), .val (.ref a_q69_110), .unset] [])) := by
    intro T L h X eT N Zs cf_q77 cn_q69_110 cf_q69_110 x6 d0 od0 d1 od1 d2 od2 d3 od3 d4 od4 d5 od5 d7 od7 d8 od8 d9 od9 d10 od10 d11 od11 d12 od12 a_q77 g_q77 a_q69_110 g_q69_110 ne_q77_q69_110 A_q77 A_q69_110 ok
    obtain ⟨okt, okf⟩ := ok
    refine Ends.step (u' := (T.setTop (mkF m 126 #[d0, d1, d2, d3, d4, d5, .val (.int x6), d7, d8, d9, d10, d11, d12, .val (.ref a_q77), .val (.ref a_q69_110), .unset] [(.int (1 : Int32))]))) ?_ (fun _ k => XT.iconstV X.here hx rfl (1 : Int32) (hb hby at_125) rfl k)
    refine Ends.step (u' := (T.setTop (mkF m 128 #[d0, d1, d2, d3, d4, d5, .val (.int x6), d7, d8, d9, d10, d11, d12, .val (.ref a_q77), .val (.ref a_q69_110), .val (.int (1 : Int32))] []))) ?_ (fun _ k => XS.istore X.here hx rfl (hb hby at_126) rfl (l' := #[d0, d1, d2, d3, d4, d5, .val (.int x6), d7, d8, d9, d10, d11, d12, .val (.ref a_q77), .val (.ref a_q69_110), .val (.int (1 : Int32))]) rfl k)
    refine Ends.step (u' := (T.setTop (mkF m 130 #[d0, d1, d2, d3, d4, d5, .val (.int x6), d7, d8, d9, d10, d11, d12, .val (.ref a_q77), .val (.ref a_q69_110), .val (.int (1 : Int32))] [(.int (1 : Int32))]))) ?_ (fun _ k => XS.iload X.here hx rfl (hb hby at_128) rfl k)
    by_cases hc130 : (1 : Int32) = 0
    · refine Eq.mp (congrArg (fun z => Ends p e below s 4 28 (Q0 Z  h0 n0 z) (T.setTop (mkF m 130 #[d0, d1, d2, d3, d4, d5, .val (.int x6), d7, d8, d9, d10, d11, d12, .val (.ref a_q77), .val (.ref a_q69_110), .val (.int (1 : Int32))] [(.int (1 : Int32))]))) (show (F0_125 K cf_q77 cn_q69_110 cf_q69_110 x6) = (F0_157 K cf_q77 cn_q69_110 cf_q69_110 x6) from (if_pos hc130)).symm) ?_
      refine Ends.step (u' := (T.setTop (mkF m 157 #[d0, d1, d2, d3, d4, d5, .val (.int x6), d7, d8, d9, d10, d11, d12, .val (.ref a_q77), .val (.ref a_q69_110), .val (.int (1 : Int32))] []))) ?_ (fun _ k => XS.ifYes X.here hx rfl (pc0 := 130) (pc' := 157) rfl (hb hby at_130) rfl (XT.i0_eq_t hc130) (by decide) (by decide) k)
      exact b157 T _ _ X eT N Zs cf_q77 cn_q69_110 cf_q69_110 x6 (d0) od0 (d1) od1 (d2) od2 (d3) od3 (d4) od4 (d5) od5 (d7) od7 (d8) od8 (d9) od9 (d10) od10 (d11) od11 (d12) od12 (.val (.int (1 : Int32))) (Or.inr ⟨_, rfl, rfl⟩) a_q77 g_q77 a_q69_110 g_q69_110 ne_q77_q69_110 A_q77 A_q69_110 (okt hc130)
    · refine Eq.mp (congrArg (fun z => Ends p e below s 4 28 (Q0 Z  h0 n0 z) (T.setTop (mkF m 130 #[d0, d1, d2, d3, d4, d5, .val (.int x6), d7, d8, d9, d10, d11, d12, .val (.ref a_q77), .val (.ref a_q69_110), .val (.int (1 : Int32))] [(.int (1 : Int32))]))) (show (F0_125 K cf_q77 cn_q69_110 cf_q69_110 x6) = (F0_133 K cf_q77 cn_q69_110 cf_q69_110 x6) from (if_neg hc130)).symm) ?_
      refine Ends.step (u' := (T.setTop (mkF m 133 #[d0, d1, d2, d3, d4, d5, .val (.int x6), d7, d8, d9, d10, d11, d12, .val (.ref a_q77), .val (.ref a_q69_110), .val (.int (1 : Int32))] []))) ?_ (fun _ k => XS.ifNo X.here hx rfl (hb hby at_130) rfl (XT.i0_eq_f hc130) k)
      exact b133 T _ _ X eT N Zs cf_q77 cn_q69_110 cf_q69_110 x6 (d0) od0 (d1) od1 (d2) od2 (d3) od3 (d4) od4 (d5) od5 (d7) od7 (d8) od8 (d9) od9 (d10) od10 (d11) od11 (d12) od12 (.val (.int (1 : Int32))) (Or.inr ⟨_, rfl, rfl⟩) a_q77 g_q77 a_q69_110 g_q69_110 ne_q77_q69_110 A_q77 A_q69_110 (okf hc130)
  have b106 : ∀ (T : State) (L : List Loc) (h : Heap) (X : Stand p l e room_1 s m #[(.int p0), (.int p1), (.int p2), (.int p3), (.int p4), (.int p5)] below meth c T L 2 10) (eT : T.heap = h) (N : Fr n0 L) (Zs : n0 ≤ h.size) (cf_q42 : Nat → Int32) (cf_q77 : Nat → Int32) (x6 : Int32) (d0 : Slot) (od0 : OneS d0) (d1 : Slot) (od1 : OneS d1) (d2 : Slot) (od2 : OneS d2) (d3 : Slot) (od3 : OneS d3) (d4 : Slot) (od4 : OneS d4) (d5 : Slot) (od5 : OneS d5) (d7 : Slot) (od7 : OneS d7) (d8 : Slot) (od8 : OneS d8) (d9 : Slot) (od9 : OneS d9) (d10 : Slot) (od10 : OneS d10) (d11 : Slot) (od11 : OneS d11) (a_q42 : Addr) (g_q42 : n0 ≤ a_q42) (a_q77 : Addr) (g_q77 : n0 ≤ a_q77) (ne_q42_q77 : a_q42 ≠ a_q77) (A_q42 : Ar Z h a_q42 .byte 5 cf_q42) (A_q77 : Ar Z h a_q77 .int 5 cf_q77) (ok : (O0_106 K cf_q42 cf_q77 x6)), Ends p e below s 4 28 (Q0 Z  h0 n0 (F0_106 K cf_q42 cf_q77 x6)) (T.setTop (mkF m 106 #[d0, d1, d2, d3, d4, d5, .val (.int x6), d7, d8, d9, d10, d11, .val (.ref a_q42), .val (.ref a_q77), .unset, .unset] [])) := by
    intro T L h X eT N Zs cf_q42 cf_q77 x6 d0 od0 d1 od1 d2 od2 d3 od3 d4 od4 d5 od5 d7 od7 d8 od8 d9 od9 d10 od10 d11 od11 a_q42 g_q42 a_q77 g_q77 ne_q42_q77 A_q42 A_q77 ok
    obtain ⟨o1, okt, okf⟩ := ok
    refine Ends.step (u' := (T.setTop (mkF m 108 #[d0, d1, d2, d3, d4, d5, .val (.int x6), d7, d8, d9, d10, d11, .val (.ref a_q42), .val (.ref a_q77), .unset, .unset] [(.ref a_q42)]))) ?_ (fun _ k => XS.aload X.here hx rfl (hb hby at_106) rfl rfl k)
    refine Ends.step (u' := (T.setTop (mkF m 110 #[d0, d1, d2, d3, d4, d5, .val (.int x6), d7, d8, d9, d10, d11, .val (.ref a_q42), .val (.ref a_q77), .unset, .unset] [(.int x6), (.ref a_q42)]))) ?_ (fun _ k => XS.iload X.here hx rfl (hb hby at_108) rfl k)
    refine Ends.callS X hx hZ hown (hw _ (List.mem_of_getElem? (i := 7) rfl)) (hw _ (List.mem_of_getElem? (i := 8) rfl)) (hw _ (List.mem_of_getElem? (i := 9) rfl)) (hw _ (List.mem_of_getElem? (i := 10) rfl)) (by decide) (rm2 l Z a0 hw K x6 5 cf_q42 a_q42 h n0 Zs A_q42 o1) 0 (by decide) (by decide) eT  (g := (mkF m 110 #[d0, d1, d2, d3, d4, d5, .val (.int x6), d7, d8, d9, d10, d11, .val (.ref a_q42), .val (.ref a_q77), .unset, .unset] [(.int x6), (.ref a_q42)])) rfl (by rw [hml]; rfl)  [(.ref a_q42), (.int x6)] [] (lenOf pd_2 rfl) rfl (by show 2 * 0 + _ ≤ _; exact Nat.le_of_eq rfl) (hb hby at_110) rfl (by decide) (by decide) (fun v6 T6 L6 X6 hQ6 => ?_)
    obtain ⟨a6_q69, rfl, Nq6, Kq6, fr7, A8⟩ := hQ6
    have N6 := Fr.app N Nq6
    show Ends p e below s _ _ _ (T6.setTop (mkF m 113 #[d0, d1, d2, d3, d4, d5, .val (.int x6), d7, d8, d9, d10, d11, .val (.ref a_q42), .val (.ref a_q77), .unset, .unset] [(.ref a6_q69)]))
    have A9 := A_q42.keep Kq6 nin0
    have A10 := A_q77.keep Kq6 nin0
    have g11 : n0 ≤ a6_q69 := Nat.le_trans Zs fr7
    have ne12 : a_q42 ≠ a6_q69 := Nat.ne_of_lt (Nat.lt_of_lt_of_le A_q42.lt fr7)
    have ne13 : a_q77 ≠ a6_q69 := Nat.ne_of_lt (Nat.lt_of_lt_of_le A_q77.lt fr7)
    have Z14 := Nat.le_trans Zs Kq6.1
    refine Ends.step (u' := (T6.setTop (mkF m 115 #[d0, d1, d2, d3, d4, d5, .val (.int x6), d7, d8, d9, d10, d11, .val (.ref a_q42), .val (.ref a_q77), .val (.ref a6_q69), .unset] []))) ?_ (fun _ k => XS.astore X6.here hx rfl (hb hby at_113) rfl rfl (l' := #[d0, d1, d2, d3, d4, d5, .val (.int x6), d7, d8, d9, d10, d11, .val (.ref a_q42), .val (.ref a_q77), .val (.ref a6_q69), .unset]) rfl k)
    refine Ends.step (u' := (T6.setTop (mkF m 117 #[d0, d1, d2, d3, d4, d5, .val (.int x6), d7, d8, d9, d10, d11, .val (.ref a_q42), .val (.ref a_q77), .val (.ref a6_q69), .unset] [(.ref a6_q69)]))) ?_ (fun _ k => XS.aload X6.here hx rfl (hb hby at_115) rfl rfl k)
    refine Ends.arrlen X6 hx hZ rfl A8 (g := (mkF m 117 #[d0, d1, d2, d3, d4, d5, .val (.int x6), d7, d8, d9, d10, d11, .val (.ref a_q42), .val (.ref a_q77), .val (.ref a6_q69), .unset] [(.ref a6_q69)])) rfl rfl (hb hby at_117) ?_
    show Ends p e below s _ _ _ (T6.setTop (mkF m 118 #[d0, d1, d2, d3, d4, d5, .val (.int x6), d7, d8, d9, d10, d11, .val (.ref a_q42), .val (.ref a_q77), .val (.ref a6_q69), .unset] [(.int (Nat.toInt32 (F2 K x6 5 cf_q42).1))]))
    refine Ends.step (u' := (T6.setTop (mkF m 120 #[d0, d1, d2, d3, d4, d5, .val (.int x6), d7, d8, d9, d10, d11, .val (.ref a_q42), .val (.ref a_q77), .val (.ref a6_q69), .unset] [(.int x6), (.int (Nat.toInt32 (F2 K x6 5 cf_q42).1))]))) ?_ (fun _ k => XS.iload X6.here hx rfl (hb hby at_118) rfl k)
    by_cases hc120 : (Nat.toInt32 (F2 K x6 5 cf_q42).1) = x6
    · refine Eq.mp (congrArg (fun z => Ends p e below s 4 28 (Q0 Z  h0 n0 z) (T6.setTop (mkF m 120 #[d0, d1, d2, d3, d4, d5, .val (.int x6), d7, d8, d9, d10, d11, .val (.ref a_q42), .val (.ref a_q77), .val (.ref a6_q69), .unset] [(.int x6), (.int (Nat.toInt32 (F2 K x6 5 cf_q42).1))]))) (show (F0_106 K cf_q42 cf_q77 x6) = (F0_125 K cf_q77 (F2 K x6 5 cf_q42).1 (F2 K x6 5 cf_q42).2 x6) from (if_pos hc120)).symm) ?_
      refine Ends.step (u' := (T6.setTop (mkF m 125 #[d0, d1, d2, d3, d4, d5, .val (.int x6), d7, d8, d9, d10, d11, .val (.ref a_q42), .val (.ref a_q77), .val (.ref a6_q69), .unset] []))) ?_ (fun _ k => XS.icmpYes X6.here hx rfl (pc0 := 120) (pc' := 125) rfl (hb hby at_120) rfl (XT.ii_eq_t hc120) (by decide) (by decide) k)
      exact b125 T6 _ _ X6 rfl N6 Z14 cf_q77 (F2 K x6 5 cf_q42).1 (F2 K x6 5 cf_q42).2 x6 (d0) od0 (d1) od1 (d2) od2 (d3) od3 (d4) od4 (d5) od5 (d7) od7 (d8) od8 (d9) od9 (d10) od10 (d11) od11 (.val (.ref a_q42)) (Or.inr ⟨_, rfl, rfl⟩) a_q77 g_q77 a6_q69 g11 ne13 A10 A8 (okt hc120)
    · refine Eq.mp (congrArg (fun z => Ends p e below s 4 28 (Q0 Z  h0 n0 z) (T6.setTop (mkF m 120 #[d0, d1, d2, d3, d4, d5, .val (.int x6), d7, d8, d9, d10, d11, .val (.ref a_q42), .val (.ref a_q77), .val (.ref a6_q69), .unset] [(.int x6), (.int (Nat.toInt32 (F2 K x6 5 cf_q42).1))]))) (show (F0_106 K cf_q42 cf_q77 x6) = (F0_123 K) from (if_neg hc120)).symm) ?_
      refine Ends.step (u' := (T6.setTop (mkF m 123 #[d0, d1, d2, d3, d4, d5, .val (.int x6), d7, d8, d9, d10, d11, .val (.ref a_q42), .val (.ref a_q77), .val (.ref a6_q69), .unset] []))) ?_ (fun _ k => XS.icmpNo X6.here hx rfl (hb hby at_120) rfl (XT.ii_eq_f hc120) k)
      exact b123 T6 _ _ X6 rfl N6 Z14 (d0) od0 (d1) od1 (d2) od2 (d3) od3 (d4) od4 (d5) od5 (.val (.int x6)) (Or.inr ⟨_, rfl, rfl⟩) (d7) od7 (d8) od8 (d9) od9 (d10) od10 (d11) od11 (.val (.ref a_q42)) (Or.inr ⟨_, rfl, rfl⟩) (.val (.ref a_q77)) (Or.inr ⟨_, rfl, rfl⟩) (.val (.ref a6_q69)) (Or.inr ⟨_, rfl, rfl⟩)
  have b76 : ∀ (T : State) (L : List Loc) (h : Heap) (X : Stand p l e room_1 s m #[(.int p0), (.int p1), (.int p2), (.int p3), (.int p4), (.int p5)] below meth c T L 1 5) (eT : T.heap = h) (N : Fr n0 L) (Zs : n0 ≤ h.size) (cf_q42 : Nat → Int32) (x6 : Int32) (x7 : Int32) (x8 : Int32) (x9 : Int32) (x10 : Int32) (x11 : Int32) (d0 : Slot) (od0 : OneS d0) (d1 : Slot) (od1 : OneS d1) (d2 : Slot) (od2 : OneS d2) (d3 : Slot) (od3 : OneS d3) (d4 : Slot) (od4 : OneS d4) (d5 : Slot) (od5 : OneS d5) (a_q42 : Addr) (g_q42 : n0 ≤ a_q42) (A_q42 : Ar Z h a_q42 .byte 5 cf_q42) (ok : (O0_76 K cf_q42 x6 x7 x8 x9 x10 x11)), Ends p e below s 4 28 (Q0 Z  h0 n0 (F0_76 K cf_q42 x6 x7 x8 x9 x10 x11)) (T.setTop (mkF m 76 #[d0, d1, d2, d3, d4, d5, .val (.int x6), .val (.int x7), .val (.int x8), .val (.int x9), .val (.int x10), .val (.int x11), .val (.ref a_q42), .unset, .unset, .unset] [])) := by
    intro T L h X eT N Zs cf_q42 x6 x7 x8 x9 x10 x11 d0 od0 d1 od1 d2 od2 d3 od3 d4 od4 d5 od5 a_q42 g_q42 A_q42 ok
    refine Ends.step (u' := (T.setTop (mkF m 77 #[d0, d1, d2, d3, d4, d5, .val (.int x6), .val (.int x7), .val (.int x8), .val (.int x9), .val (.int x10), .val (.int x11), .val (.ref a_q42), .unset, .unset, .unset] [(.int (5 : Int32))]))) ?_ (fun _ k => XT.iconstV X.here hx rfl (5 : Int32) (hb hby at_76) rfl k)
    refine Ends.newA X hx hZ (hw _ (List.mem_of_getElem? (i := 6) rfl)) eT (g := (mkF m 77 #[d0, d1, d2, d3, d4, d5, .val (.int x6), .val (.int x7), .val (.int x8), .val (.int x9), .val (.int x10), .val (.int x11), .val (.ref a_q42), .unset, .unset, .unset] [(.int (5 : Int32))])) rfl (hb hby at_77) rfl rfl (by decide) 5 (by decide) (by decide) (by decide) (by decide) (fun T15 h15 a15 X15 e15 E15 q15 A15 => ?_)
    have ne16 : a_q42 ≠ a15 := q15 ▸ Nat.ne_of_lt A_q42.lt
    have A17 := A_q42.ext E15
    have g18 : n0 ≤ a15 := q15 ▸ Zs
    have Z19 := Nat.le_trans Zs E15.1
    show Ends p e below s _ _ _ (T15.setTop (mkF m 79 #[d0, d1, d2, d3, d4, d5, .val (.int x6), .val (.int x7), .val (.int x8), .val (.int x9), .val (.int x10), .val (.int x11), .val (.ref a_q42), .unset, .unset, .unset] [(.ref a15)]))
    refine Ends.step (u' := (T15.setTop (mkF m 80 #[d0, d1, d2, d3, d4, d5, .val (.int x6), .val (.int x7), .val (.int x8), .val (.int x9), .val (.int x10), .val (.int x11), .val (.ref a_q42), .unset, .unset, .unset] [(.ref a15), (.ref a15)]))) ?_ (fun _ k => XS.dup X15.here hx rfl (hb hby at_79) rfl rfl k)
    refine Ends.step (u' := (T15.setTop (mkF m 81 #[d0, d1, d2, d3, d4, d5, .val (.int x6), .val (.int x7), .val (.int x8), .val (.int x9), .val (.int x10), .val (.int x11), .val (.ref a_q42), .unset, .unset, .unset] [(.int (0 : Int32)), (.ref a15), (.ref a15)]))) ?_ (fun _ k => XT.iconstV X15.here hx rfl (0 : Int32) (hb hby at_80) rfl k)
    refine Ends.step (u' := (T15.setTop (mkF m 83 #[d0, d1, d2, d3, d4, d5, .val (.int x6), .val (.int x7), .val (.int x8), .val (.int x9), .val (.int x10), .val (.int x11), .val (.ref a_q42), .unset, .unset, .unset] [(.int x7), (.int (0 : Int32)), (.ref a15), (.ref a15)]))) ?_ (fun _ k => XS.iload X15.here hx rfl (hb hby at_81) rfl k)
    refine Ends.iastore X15 hx hZ e15 A15 (by unfold inb; decide) N g18 (g := (mkF m 83 #[d0, d1, d2, d3, d4, d5, .val (.int x6), .val (.int x7), .val (.int x8), .val (.int x9), .val (.int x10), .val (.int x11), .val (.ref a_q42), .unset, .unset, .unset] [(.int x7), (.int (0 : Int32)), (.ref a15), (.ref a15)])) rfl rfl (hb hby at_83) (fun T20 h20 sl20 X20 e20 N20 W20 A20 => ?_)
    show Ends p e below s _ _ _ (T20.setTop (mkF m 84 #[d0, d1, d2, d3, d4, d5, .val (.int x6), .val (.int x7), .val (.int x8), .val (.int x9), .val (.int x10), .val (.int x11), .val (.ref a_q42), .unset, .unset, .unset] [(.ref a15)]))
    have A21 := A17.other W20 ne16
    have Z22 : n0 ≤ h20.size := W20.size.symm ▸ Z19
    refine Ends.step (u' := (T20.setTop (mkF m 85 #[d0, d1, d2, d3, d4, d5, .val (.int x6), .val (.int x7), .val (.int x8), .val (.int x9), .val (.int x10), .val (.int x11), .val (.ref a_q42), .unset, .unset, .unset] [(.ref a15), (.ref a15)]))) ?_ (fun _ k => XS.dup X20.here hx rfl (hb hby at_84) rfl rfl k)
    refine Ends.step (u' := (T20.setTop (mkF m 86 #[d0, d1, d2, d3, d4, d5, .val (.int x6), .val (.int x7), .val (.int x8), .val (.int x9), .val (.int x10), .val (.int x11), .val (.ref a_q42), .unset, .unset, .unset] [(.int (1 : Int32)), (.ref a15), (.ref a15)]))) ?_ (fun _ k => XT.iconstV X20.here hx rfl (1 : Int32) (hb hby at_85) rfl k)
    refine Ends.step (u' := (T20.setTop (mkF m 88 #[d0, d1, d2, d3, d4, d5, .val (.int x6), .val (.int x7), .val (.int x8), .val (.int x9), .val (.int x10), .val (.int x11), .val (.ref a_q42), .unset, .unset, .unset] [(.int x8), (.int (1 : Int32)), (.ref a15), (.ref a15)]))) ?_ (fun _ k => XS.iload X20.here hx rfl (hb hby at_86) rfl k)
    refine Ends.iastore X20 hx hZ e20 A20 (by unfold inb; decide) N20 g18 (g := (mkF m 88 #[d0, d1, d2, d3, d4, d5, .val (.int x6), .val (.int x7), .val (.int x8), .val (.int x9), .val (.int x10), .val (.int x11), .val (.ref a_q42), .unset, .unset, .unset] [(.int x8), (.int (1 : Int32)), (.ref a15), (.ref a15)])) rfl rfl (hb hby at_88) (fun T23 h23 sl23 X23 e23 N23 W23 A23 => ?_)
    show Ends p e below s _ _ _ (T23.setTop (mkF m 89 #[d0, d1, d2, d3, d4, d5, .val (.int x6), .val (.int x7), .val (.int x8), .val (.int x9), .val (.int x10), .val (.int x11), .val (.ref a_q42), .unset, .unset, .unset] [(.ref a15)]))
    have A24 := A21.other W23 ne16
    have Z25 : n0 ≤ h23.size := W23.size.symm ▸ Z22
    refine Ends.step (u' := (T23.setTop (mkF m 90 #[d0, d1, d2, d3, d4, d5, .val (.int x6), .val (.int x7), .val (.int x8), .val (.int x9), .val (.int x10), .val (.int x11), .val (.ref a_q42), .unset, .unset, .unset] [(.ref a15), (.ref a15)]))) ?_ (fun _ k => XS.dup X23.here hx rfl (hb hby at_89) rfl rfl k)
    refine Ends.step (u' := (T23.setTop (mkF m 91 #[d0, d1, d2, d3, d4, d5, .val (.int x6), .val (.int x7), .val (.int x8), .val (.int x9), .val (.int x10), .val (.int x11), .val (.ref a_q42), .unset, .unset, .unset] [(.int (2 : Int32)), (.ref a15), (.ref a15)]))) ?_ (fun _ k => XT.iconstV X23.here hx rfl (2 : Int32) (hb hby at_90) rfl k)
    refine Ends.step (u' := (T23.setTop (mkF m 93 #[d0, d1, d2, d3, d4, d5, .val (.int x6), .val (.int x7), .val (.int x8), .val (.int x9), .val (.int x10), .val (.int x11), .val (.ref a_q42), .unset, .unset, .unset] [(.int x9), (.int (2 : Int32)), (.ref a15), (.ref a15)]))) ?_ (fun _ k => XS.iload X23.here hx rfl (hb hby at_91) rfl k)
    refine Ends.iastore X23 hx hZ e23 A23 (by unfold inb; decide) N23 g18 (g := (mkF m 93 #[d0, d1, d2, d3, d4, d5, .val (.int x6), .val (.int x7), .val (.int x8), .val (.int x9), .val (.int x10), .val (.int x11), .val (.ref a_q42), .unset, .unset, .unset] [(.int x9), (.int (2 : Int32)), (.ref a15), (.ref a15)])) rfl rfl (hb hby at_93) (fun T26 h26 sl26 X26 e26 N26 W26 A26 => ?_)
    show Ends p e below s _ _ _ (T26.setTop (mkF m 94 #[d0, d1, d2, d3, d4, d5, .val (.int x6), .val (.int x7), .val (.int x8), .val (.int x9), .val (.int x10), .val (.int x11), .val (.ref a_q42), .unset, .unset, .unset] [(.ref a15)]))
    have A27 := A24.other W26 ne16
    have Z28 : n0 ≤ h26.size := W26.size.symm ▸ Z25
    refine Ends.step (u' := (T26.setTop (mkF m 95 #[d0, d1, d2, d3, d4, d5, .val (.int x6), .val (.int x7), .val (.int x8), .val (.int x9), .val (.int x10), .val (.int x11), .val (.ref a_q42), .unset, .unset, .unset] [(.ref a15), (.ref a15)]))) ?_ (fun _ k => XS.dup X26.here hx rfl (hb hby at_94) rfl rfl k)
    refine Ends.step (u' := (T26.setTop (mkF m 96 #[d0, d1, d2, d3, d4, d5, .val (.int x6), .val (.int x7), .val (.int x8), .val (.int x9), .val (.int x10), .val (.int x11), .val (.ref a_q42), .unset, .unset, .unset] [(.int (3 : Int32)), (.ref a15), (.ref a15)]))) ?_ (fun _ k => XT.iconstV X26.here hx rfl (3 : Int32) (hb hby at_95) rfl k)
    refine Ends.step (u' := (T26.setTop (mkF m 98 #[d0, d1, d2, d3, d4, d5, .val (.int x6), .val (.int x7), .val (.int x8), .val (.int x9), .val (.int x10), .val (.int x11), .val (.ref a_q42), .unset, .unset, .unset] [(.int x10), (.int (3 : Int32)), (.ref a15), (.ref a15)]))) ?_ (fun _ k => XS.iload X26.here hx rfl (hb hby at_96) rfl k)
    refine Ends.iastore X26 hx hZ e26 A26 (by unfold inb; decide) N26 g18 (g := (mkF m 98 #[d0, d1, d2, d3, d4, d5, .val (.int x6), .val (.int x7), .val (.int x8), .val (.int x9), .val (.int x10), .val (.int x11), .val (.ref a_q42), .unset, .unset, .unset] [(.int x10), (.int (3 : Int32)), (.ref a15), (.ref a15)])) rfl rfl (hb hby at_98) (fun T29 h29 sl29 X29 e29 N29 W29 A29 => ?_)
    show Ends p e below s _ _ _ (T29.setTop (mkF m 99 #[d0, d1, d2, d3, d4, d5, .val (.int x6), .val (.int x7), .val (.int x8), .val (.int x9), .val (.int x10), .val (.int x11), .val (.ref a_q42), .unset, .unset, .unset] [(.ref a15)]))
    have A30 := A27.other W29 ne16
    have Z31 : n0 ≤ h29.size := W29.size.symm ▸ Z28
    refine Ends.step (u' := (T29.setTop (mkF m 100 #[d0, d1, d2, d3, d4, d5, .val (.int x6), .val (.int x7), .val (.int x8), .val (.int x9), .val (.int x10), .val (.int x11), .val (.ref a_q42), .unset, .unset, .unset] [(.ref a15), (.ref a15)]))) ?_ (fun _ k => XS.dup X29.here hx rfl (hb hby at_99) rfl rfl k)
    refine Ends.step (u' := (T29.setTop (mkF m 101 #[d0, d1, d2, d3, d4, d5, .val (.int x6), .val (.int x7), .val (.int x8), .val (.int x9), .val (.int x10), .val (.int x11), .val (.ref a_q42), .unset, .unset, .unset] [(.int (4 : Int32)), (.ref a15), (.ref a15)]))) ?_ (fun _ k => XT.iconstV X29.here hx rfl (4 : Int32) (hb hby at_100) rfl k)
    refine Ends.step (u' := (T29.setTop (mkF m 103 #[d0, d1, d2, d3, d4, d5, .val (.int x6), .val (.int x7), .val (.int x8), .val (.int x9), .val (.int x10), .val (.int x11), .val (.ref a_q42), .unset, .unset, .unset] [(.int x11), (.int (4 : Int32)), (.ref a15), (.ref a15)]))) ?_ (fun _ k => XS.iload X29.here hx rfl (hb hby at_101) rfl k)
    refine Ends.iastore X29 hx hZ e29 A29 (by unfold inb; decide) N29 g18 (g := (mkF m 103 #[d0, d1, d2, d3, d4, d5, .val (.int x6), .val (.int x7), .val (.int x8), .val (.int x9), .val (.int x10), .val (.int x11), .val (.ref a_q42), .unset, .unset, .unset] [(.int x11), (.int (4 : Int32)), (.ref a15), (.ref a15)])) rfl rfl (hb hby at_103) (fun T32 h32 sl32 X32 e32 N32 W32 A32 => ?_)
    show Ends p e below s _ _ _ (T32.setTop (mkF m 104 #[d0, d1, d2, d3, d4, d5, .val (.int x6), .val (.int x7), .val (.int x8), .val (.int x9), .val (.int x10), .val (.int x11), .val (.ref a_q42), .unset, .unset, .unset] [(.ref a15)]))
    have A33 := A30.other W32 ne16
    have Z34 : n0 ≤ h32.size := W32.size.symm ▸ Z31
    refine Ends.step (u' := (T32.setTop (mkF m 106 #[d0, d1, d2, d3, d4, d5, .val (.int x6), .val (.int x7), .val (.int x8), .val (.int x9), .val (.int x10), .val (.int x11), .val (.ref a_q42), .val (.ref a15), .unset, .unset] []))) ?_ (fun _ k => XS.astore X32.here hx rfl (hb hby at_104) rfl rfl (l' := #[d0, d1, d2, d3, d4, d5, .val (.int x6), .val (.int x7), .val (.int x8), .val (.int x9), .val (.int x10), .val (.int x11), .val (.ref a_q42), .val (.ref a15), .unset, .unset]) rfl k)
    exact b106 T32 _ _ X32 e32 N32 Z34 cf_q42 (upd (upd (upd (upd (upd (fun _ => 0) 0 x7) 1 x8) 2 x9) 3 x10) 4 x11) x6 (d0) od0 (d1) od1 (d2) od2 (d3) od3 (d4) od4 (d5) od5 (.val (.int x7)) (Or.inr ⟨_, rfl, rfl⟩) (.val (.int x8)) (Or.inr ⟨_, rfl, rfl⟩) (.val (.int x9)) (Or.inr ⟨_, rfl, rfl⟩) (.val (.int x10)) (Or.inr ⟨_, rfl, rfl⟩) (.val (.int x11)) (Or.inr ⟨_, rfl, rfl⟩) a_q42 g_q42 a15 g18 ne16 A33 A32 ok
  have b41 : ∀ (T : State) (L : List Loc) (h : Heap) (X : Stand p l e room_1 s m #[(.int p0), (.int p1), (.int p2), (.int p3), (.int p4), (.int p5)] below meth c T L 0 0) (eT : T.heap = h) (N : Fr n0 L) (Zs : n0 ≤ h.size) (x6 : Int32) (x7 : Int32) (x8 : Int32) (x9 : Int32) (x10 : Int32) (x11 : Int32) (d0 : Slot) (od0 : OneS d0) (d1 : Slot) (od1 : OneS d1) (d2 : Slot) (od2 : OneS d2) (d3 : Slot) (od3 : OneS d3) (d4 : Slot) (od4 : OneS d4) (d5 : Slot) (od5 : OneS d5) (ok : (O0_41 K x6 x7 x8 x9 x10 x11)), Ends p e below s 4 28 (Q0 Z  h0 n0 (F0_41 K x6 x7 x8 x9 x10 x11)) (T.setTop (mkF m 41 #[d0, d1, d2, d3, d4, d5, .val (.int x6), .val (.int x7), .val (.int x8), .val (.int x9), .val (.int x10), .val (.int x11), .unset, .unset, .unset, .unset] [])) := by
    intro T L h X eT N Zs x6 x7 x8 x9 x10 x11 d0 od0 d1 od1 d2 od2 d3 od3 d4 od4 d5 od5 ok
    refine Ends.step (u' := (T.setTop (mkF m 42 #[d0, d1, d2, d3, d4, d5, .val (.int x6), .val (.int x7), .val (.int x8), .val (.int x9), .val (.int x10), .val (.int x11), .unset, .unset, .unset, .unset] [(.int (5 : Int32))]))) ?_ (fun _ k => XT.iconstV X.here hx rfl (5 : Int32) (hb hby at_41) rfl k)
    refine Ends.newA X hx hZ (hw _ (List.mem_of_getElem? (i := 5) rfl)) eT (g := (mkF m 42 #[d0, d1, d2, d3, d4, d5, .val (.int x6), .val (.int x7), .val (.int x8), .val (.int x9), .val (.int x10), .val (.int x11), .unset, .unset, .unset, .unset] [(.int (5 : Int32))])) rfl (hb hby at_42) rfl rfl (by decide) 5 (by decide) (by decide) (by decide) (by decide) (fun T35 h35 a35 X35 e35 E35 q35 A35 => ?_)
    have g36 : n0 ≤ a35 := q35 ▸ Zs
    have Z37 := Nat.le_trans Zs E35.1
    show Ends p e below s _ _ _ (T35.setTop (mkF m 44 #[d0, d1, d2, d3, d4, d5, .val (.int x6), .val (.int x7), .val (.int x8), .val (.int x9), .val (.int x10), .val (.int x11), .unset, .unset, .unset, .unset] [(.ref a35)]))
    refine Ends.step (u' := (T35.setTop (mkF m 45 #[d0, d1, d2, d3, d4, d5, .val (.int x6), .val (.int x7), .val (.int x8), .val (.int x9), .val (.int x10), .val (.int x11), .unset, .unset, .unset, .unset] [(.ref a35), (.ref a35)]))) ?_ (fun _ k => XS.dup X35.here hx rfl (hb hby at_44) rfl rfl k)
    refine Ends.step (u' := (T35.setTop (mkF m 46 #[d0, d1, d2, d3, d4, d5, .val (.int x6), .val (.int x7), .val (.int x8), .val (.int x9), .val (.int x10), .val (.int x11), .unset, .unset, .unset, .unset] [(.int (0 : Int32)), (.ref a35), (.ref a35)]))) ?_ (fun _ k => XT.iconstV X35.here hx rfl (0 : Int32) (hb hby at_45) rfl k)
    refine Ends.step (u' := (T35.setTop (mkF m 48 #[d0, d1, d2, d3, d4, d5, .val (.int x6), .val (.int x7), .val (.int x8), .val (.int x9), .val (.int x10), .val (.int x11), .unset, .unset, .unset, .unset] [(.int x7), (.int (0 : Int32)), (.ref a35), (.ref a35)]))) ?_ (fun _ k => XS.iload X35.here hx rfl (hb hby at_46) rfl k)
    refine Ends.step (u' := (T35.setTop (mkF m 49 #[d0, d1, d2, d3, d4, d5, .val (.int x6), .val (.int x7), .val (.int x8), .val (.int x9), .val (.int x10), .val (.int x11), .unset, .unset, .unset, .unset] [(.int ((x7).toInt8.toInt32)), (.int (0 : Int32)), (.ref a35), (.ref a35)]))) ?_ (fun _ k => XT.i2b X35.here hx rfl (hb hby at_48) rfl k)
    refine Ends.bastore X35 hx hZ e35 A35 (by unfold inb; decide) N g36 (g := (mkF m 49 #[d0, d1, d2, d3, d4, d5, .val (.int x6), .val (.int x7), .val (.int x8), .val (.int x9), .val (.int x10), .val (.int x11), .unset, .unset, .unset, .unset] [(.int ((x7).toInt8.toInt32)), (.int (0 : Int32)), (.ref a35), (.ref a35)])) rfl rfl (hb hby at_49) (fun T38 h38 sl38 X38 e38 N38 W38 A38 => ?_)
    show Ends p e below s _ _ _ (T38.setTop (mkF m 50 #[d0, d1, d2, d3, d4, d5, .val (.int x6), .val (.int x7), .val (.int x8), .val (.int x9), .val (.int x10), .val (.int x11), .unset, .unset, .unset, .unset] [(.ref a35)]))
    have Z39 : n0 ≤ h38.size := W38.size.symm ▸ Z37
    refine Ends.step (u' := (T38.setTop (mkF m 51 #[d0, d1, d2, d3, d4, d5, .val (.int x6), .val (.int x7), .val (.int x8), .val (.int x9), .val (.int x10), .val (.int x11), .unset, .unset, .unset, .unset] [(.ref a35), (.ref a35)]))) ?_ (fun _ k => XS.dup X38.here hx rfl (hb hby at_50) rfl rfl k)
    refine Ends.step (u' := (T38.setTop (mkF m 52 #[d0, d1, d2, d3, d4, d5, .val (.int x6), .val (.int x7), .val (.int x8), .val (.int x9), .val (.int x10), .val (.int x11), .unset, .unset, .unset, .unset] [(.int (1 : Int32)), (.ref a35), (.ref a35)]))) ?_ (fun _ k => XT.iconstV X38.here hx rfl (1 : Int32) (hb hby at_51) rfl k)
    refine Ends.step (u' := (T38.setTop (mkF m 54 #[d0, d1, d2, d3, d4, d5, .val (.int x6), .val (.int x7), .val (.int x8), .val (.int x9), .val (.int x10), .val (.int x11), .unset, .unset, .unset, .unset] [(.int x8), (.int (1 : Int32)), (.ref a35), (.ref a35)]))) ?_ (fun _ k => XS.iload X38.here hx rfl (hb hby at_52) rfl k)
    refine Ends.step (u' := (T38.setTop (mkF m 55 #[d0, d1, d2, d3, d4, d5, .val (.int x6), .val (.int x7), .val (.int x8), .val (.int x9), .val (.int x10), .val (.int x11), .unset, .unset, .unset, .unset] [(.int ((x8).toInt8.toInt32)), (.int (1 : Int32)), (.ref a35), (.ref a35)]))) ?_ (fun _ k => XT.i2b X38.here hx rfl (hb hby at_54) rfl k)
    refine Ends.bastore X38 hx hZ e38 A38 (by unfold inb; decide) N38 g36 (g := (mkF m 55 #[d0, d1, d2, d3, d4, d5, .val (.int x6), .val (.int x7), .val (.int x8), .val (.int x9), .val (.int x10), .val (.int x11), .unset, .unset, .unset, .unset] [(.int ((x8).toInt8.toInt32)), (.int (1 : Int32)), (.ref a35), (.ref a35)])) rfl rfl (hb hby at_55) (fun T40 h40 sl40 X40 e40 N40 W40 A40 => ?_)
    show Ends p e below s _ _ _ (T40.setTop (mkF m 56 #[d0, d1, d2, d3, d4, d5, .val (.int x6), .val (.int x7), .val (.int x8), .val (.int x9), .val (.int x10), .val (.int x11), .unset, .unset, .unset, .unset] [(.ref a35)]))
    have Z41 : n0 ≤ h40.size := W40.size.symm ▸ Z39
    refine Ends.step (u' := (T40.setTop (mkF m 57 #[d0, d1, d2, d3, d4, d5, .val (.int x6), .val (.int x7), .val (.int x8), .val (.int x9), .val (.int x10), .val (.int x11), .unset, .unset, .unset, .unset] [(.ref a35), (.ref a35)]))) ?_ (fun _ k => XS.dup X40.here hx rfl (hb hby at_56) rfl rfl k)
    refine Ends.step (u' := (T40.setTop (mkF m 58 #[d0, d1, d2, d3, d4, d5, .val (.int x6), .val (.int x7), .val (.int x8), .val (.int x9), .val (.int x10), .val (.int x11), .unset, .unset, .unset, .unset] [(.int (2 : Int32)), (.ref a35), (.ref a35)]))) ?_ (fun _ k => XT.iconstV X40.here hx rfl (2 : Int32) (hb hby at_57) rfl k)
    refine Ends.step (u' := (T40.setTop (mkF m 60 #[d0, d1, d2, d3, d4, d5, .val (.int x6), .val (.int x7), .val (.int x8), .val (.int x9), .val (.int x10), .val (.int x11), .unset, .unset, .unset, .unset] [(.int x9), (.int (2 : Int32)), (.ref a35), (.ref a35)]))) ?_ (fun _ k => XS.iload X40.here hx rfl (hb hby at_58) rfl k)
    refine Ends.step (u' := (T40.setTop (mkF m 61 #[d0, d1, d2, d3, d4, d5, .val (.int x6), .val (.int x7), .val (.int x8), .val (.int x9), .val (.int x10), .val (.int x11), .unset, .unset, .unset, .unset] [(.int ((x9).toInt8.toInt32)), (.int (2 : Int32)), (.ref a35), (.ref a35)]))) ?_ (fun _ k => XT.i2b X40.here hx rfl (hb hby at_60) rfl k)
    refine Ends.bastore X40 hx hZ e40 A40 (by unfold inb; decide) N40 g36 (g := (mkF m 61 #[d0, d1, d2, d3, d4, d5, .val (.int x6), .val (.int x7), .val (.int x8), .val (.int x9), .val (.int x10), .val (.int x11), .unset, .unset, .unset, .unset] [(.int ((x9).toInt8.toInt32)), (.int (2 : Int32)), (.ref a35), (.ref a35)])) rfl rfl (hb hby at_61) (fun T42 h42 sl42 X42 e42 N42 W42 A42 => ?_)
    show Ends p e below s _ _ _ (T42.setTop (mkF m 62 #[d0, d1, d2, d3, d4, d5, .val (.int x6), .val (.int x7), .val (.int x8), .val (.int x9), .val (.int x10), .val (.int x11), .unset, .unset, .unset, .unset] [(.ref a35)]))
    have Z43 : n0 ≤ h42.size := W42.size.symm ▸ Z41
    refine Ends.step (u' := (T42.setTop (mkF m 63 #[d0, d1, d2, d3, d4, d5, .val (.int x6), .val (.int x7), .val (.int x8), .val (.int x9), .val (.int x10), .val (.int x11), .unset, .unset, .unset, .unset] [(.ref a35), (.ref a35)]))) ?_ (fun _ k => XS.dup X42.here hx rfl (hb hby at_62) rfl rfl k)
    refine Ends.step (u' := (T42.setTop (mkF m 64 #[d0, d1, d2, d3, d4, d5, .val (.int x6), .val (.int x7), .val (.int x8), .val (.int x9), .val (.int x10), .val (.int x11), .unset, .unset, .unset, .unset] [(.int (3 : Int32)), (.ref a35), (.ref a35)]))) ?_ (fun _ k => XT.iconstV X42.here hx rfl (3 : Int32) (hb hby at_63) rfl k)
    refine Ends.step (u' := (T42.setTop (mkF m 66 #[d0, d1, d2, d3, d4, d5, .val (.int x6), .val (.int x7), .val (.int x8), .val (.int x9), .val (.int x10), .val (.int x11), .unset, .unset, .unset, .unset] [(.int x10), (.int (3 : Int32)), (.ref a35), (.ref a35)]))) ?_ (fun _ k => XS.iload X42.here hx rfl (hb hby at_64) rfl k)
    refine Ends.step (u' := (T42.setTop (mkF m 67 #[d0, d1, d2, d3, d4, d5, .val (.int x6), .val (.int x7), .val (.int x8), .val (.int x9), .val (.int x10), .val (.int x11), .unset, .unset, .unset, .unset] [(.int ((x10).toInt8.toInt32)), (.int (3 : Int32)), (.ref a35), (.ref a35)]))) ?_ (fun _ k => XT.i2b X42.here hx rfl (hb hby at_66) rfl k)
    refine Ends.bastore X42 hx hZ e42 A42 (by unfold inb; decide) N42 g36 (g := (mkF m 67 #[d0, d1, d2, d3, d4, d5, .val (.int x6), .val (.int x7), .val (.int x8), .val (.int x9), .val (.int x10), .val (.int x11), .unset, .unset, .unset, .unset] [(.int ((x10).toInt8.toInt32)), (.int (3 : Int32)), (.ref a35), (.ref a35)])) rfl rfl (hb hby at_67) (fun T44 h44 sl44 X44 e44 N44 W44 A44 => ?_)
    show Ends p e below s _ _ _ (T44.setTop (mkF m 68 #[d0, d1, d2, d3, d4, d5, .val (.int x6), .val (.int x7), .val (.int x8), .val (.int x9), .val (.int x10), .val (.int x11), .unset, .unset, .unset, .unset] [(.ref a35)]))
    have Z45 : n0 ≤ h44.size := W44.size.symm ▸ Z43
    refine Ends.step (u' := (T44.setTop (mkF m 69 #[d0, d1, d2, d3, d4, d5, .val (.int x6), .val (.int x7), .val (.int x8), .val (.int x9), .val (.int x10), .val (.int x11), .unset, .unset, .unset, .unset] [(.ref a35), (.ref a35)]))) ?_ (fun _ k => XS.dup X44.here hx rfl (hb hby at_68) rfl rfl k)
    refine Ends.step (u' := (T44.setTop (mkF m 70 #[d0, d1, d2, d3, d4, d5, .val (.int x6), .val (.int x7), .val (.int x8), .val (.int x9), .val (.int x10), .val (.int x11), .unset, .unset, .unset, .unset] [(.int (4 : Int32)), (.ref a35), (.ref a35)]))) ?_ (fun _ k => XT.iconstV X44.here hx rfl (4 : Int32) (hb hby at_69) rfl k)
    refine Ends.step (u' := (T44.setTop (mkF m 72 #[d0, d1, d2, d3, d4, d5, .val (.int x6), .val (.int x7), .val (.int x8), .val (.int x9), .val (.int x10), .val (.int x11), .unset, .unset, .unset, .unset] [(.int x11), (.int (4 : Int32)), (.ref a35), (.ref a35)]))) ?_ (fun _ k => XS.iload X44.here hx rfl (hb hby at_70) rfl k)
    refine Ends.step (u' := (T44.setTop (mkF m 73 #[d0, d1, d2, d3, d4, d5, .val (.int x6), .val (.int x7), .val (.int x8), .val (.int x9), .val (.int x10), .val (.int x11), .unset, .unset, .unset, .unset] [(.int ((x11).toInt8.toInt32)), (.int (4 : Int32)), (.ref a35), (.ref a35)]))) ?_ (fun _ k => XT.i2b X44.here hx rfl (hb hby at_72) rfl k)
    refine Ends.bastore X44 hx hZ e44 A44 (by unfold inb; decide) N44 g36 (g := (mkF m 73 #[d0, d1, d2, d3, d4, d5, .val (.int x6), .val (.int x7), .val (.int x8), .val (.int x9), .val (.int x10), .val (.int x11), .unset, .unset, .unset, .unset] [(.int ((x11).toInt8.toInt32)), (.int (4 : Int32)), (.ref a35), (.ref a35)])) rfl rfl (hb hby at_73) (fun T46 h46 sl46 X46 e46 N46 W46 A46 => ?_)
    show Ends p e below s _ _ _ (T46.setTop (mkF m 74 #[d0, d1, d2, d3, d4, d5, .val (.int x6), .val (.int x7), .val (.int x8), .val (.int x9), .val (.int x10), .val (.int x11), .unset, .unset, .unset, .unset] [(.ref a35)]))
    have Z47 : n0 ≤ h46.size := W46.size.symm ▸ Z45
    refine Ends.step (u' := (T46.setTop (mkF m 76 #[d0, d1, d2, d3, d4, d5, .val (.int x6), .val (.int x7), .val (.int x8), .val (.int x9), .val (.int x10), .val (.int x11), .val (.ref a35), .unset, .unset, .unset] []))) ?_ (fun _ k => XS.astore X46.here hx rfl (hb hby at_74) rfl rfl (l' := #[d0, d1, d2, d3, d4, d5, .val (.int x6), .val (.int x7), .val (.int x8), .val (.int x9), .val (.int x10), .val (.int x11), .val (.ref a35), .unset, .unset, .unset]) rfl k)
    exact b76 T46 _ _ X46 e46 N46 Z47 (upd (upd (upd (upd (upd (fun _ => 0) 0 (nar .byte ((x7).toInt8.toInt32))) 1 (nar .byte ((x8).toInt8.toInt32))) 2 (nar .byte ((x9).toInt8.toInt32))) 3 (nar .byte ((x10).toInt8.toInt32))) 4 (nar .byte ((x11).toInt8.toInt32))) x6 x7 x8 x9 x10 x11 (d0) od0 (d1) od1 (d2) od2 (d3) od3 (d4) od4 (d5) od5 a35 g36 A46 ok
  have b34 : ∀ (T : State) (L : List Loc) (h : Heap) (X : Stand p l e room_1 s m #[(.int p0), (.int p1), (.int p2), (.int p3), (.int p4), (.int p5)] below meth c T L 0 0) (eT : T.heap = h) (N : Fr n0 L) (Zs : n0 ≤ h.size) (x4 : Int32) (x6 : Int32) (x7 : Int32) (x8 : Int32) (x9 : Int32) (x10 : Int32) (d0 : Slot) (od0 : OneS d0) (d1 : Slot) (od1 : OneS d1) (d2 : Slot) (od2 : OneS d2) (d3 : Slot) (od3 : OneS d3) (d5 : Slot) (od5 : OneS d5) (ok : (O0_34 K x4 x6 x7 x8 x9 x10)), Ends p e below s 4 28 (Q0 Z  h0 n0 (F0_34 K x4 x6 x7 x8 x9 x10)) (T.setTop (mkF m 34 #[d0, d1, d2, d3, .val (.int x4), d5, .val (.int x6), .val (.int x7), .val (.int x8), .val (.int x9), .val (.int x10), .unset, .unset, .unset, .unset, .unset] [])) := by
    intro T L h X eT N Zs x4 x6 x7 x8 x9 x10 d0 od0 d1 od1 d2 od2 d3 od3 d5 od5 ok
    refine Ends.step (u' := (T.setTop (mkF m 36 #[d0, d1, d2, d3, .val (.int x4), d5, .val (.int x6), .val (.int x7), .val (.int x8), .val (.int x9), .val (.int x10), .unset, .unset, .unset, .unset, .unset] [(.int x4)]))) ?_ (fun _ k => XS.iload X.here hx rfl (hb hby at_34) rfl k)
    refine Ends.callS X hx hZ hown (hw _ (List.mem_of_getElem? (i := 1) rfl)) (hw _ (List.mem_of_getElem? (i := 2) rfl)) (hw _ (List.mem_of_getElem? (i := 3) rfl)) (hw _ (List.mem_of_getElem? (i := 4) rfl)) (by decide) (rm1 l Z a0 hw x4 h n0 Zs) 0 (by decide) (by decide) eT  (g := (mkF m 36 #[d0, d1, d2, d3, .val (.int x4), d5, .val (.int x6), .val (.int x7), .val (.int x8), .val (.int x9), .val (.int x10), .unset, .unset, .unset, .unset, .unset] [(.int x4)])) rfl (by rw [hml]; rfl)  [(.int x4)] [] (lenOf pd_1 rfl) rfl (by show 2 * 0 + _ ≤ _; exact Nat.le_of_eq rfl) (hb hby at_36) rfl (by decide) (by decide) (fun v48 T48 L48 X48 hQ48 => ?_)
    obtain ⟨rfl, Nq48, e48⟩ := hQ48
    have N48 := Fr.app N Nq48
    show Ends p e below s _ _ _ (T48.setTop (mkF m 39 #[d0, d1, d2, d3, .val (.int x4), d5, .val (.int x6), .val (.int x7), .val (.int x8), .val (.int x9), .val (.int x10), .unset, .unset, .unset, .unset, .unset] [(.int (F1 x4))]))
    refine Ends.step (u' := (T48.setTop (mkF m 41 #[d0, d1, d2, d3, .val (.int x4), d5, .val (.int x6), .val (.int x7), .val (.int x8), .val (.int x9), .val (.int x10), .val (.int (F1 x4)), .unset, .unset, .unset, .unset] []))) ?_ (fun _ k => XS.istore X48.here hx rfl (hb hby at_39) rfl (l' := #[d0, d1, d2, d3, .val (.int x4), d5, .val (.int x6), .val (.int x7), .val (.int x8), .val (.int x9), .val (.int x10), .val (.int (F1 x4)), .unset, .unset, .unset, .unset]) rfl k)
    exact b41 T48 _ _ X48 e48 N48 Zs x6 x7 x8 x9 x10 (F1 x4) (d0) od0 (d1) od1 (d2) od2 (d3) od3 (.val (.int x4)) (Or.inr ⟨_, rfl, rfl⟩) (d5) od5 ok
  have b28 : ∀ (T : State) (L : List Loc) (h : Heap) (X : Stand p l e room_1 s m #[(.int p0), (.int p1), (.int p2), (.int p3), (.int p4), (.int p5)] below meth c T L 0 0) (eT : T.heap = h) (N : Fr n0 L) (Zs : n0 ≤ h.size) (x3 : Int32) (x4 : Int32) (x6 : Int32) (x7 : Int32) (x8 : Int32) (x9 : Int32) (d0 : Slot) (od0 : OneS d0) (d1 : Slot) (od1 : OneS d1) (d2 : Slot) (od2 : OneS d2) (d5 : Slot) (od5 : OneS d5) (ok : (O0_28 K x3 x4 x6 x7 x8 x9)), Ends p e below s 4 28 (Q0 Z  h0 n0 (F0_28 K x3 x4 x6 x7 x8 x9)) (T.setTop (mkF m 28 #[d0, d1, d2, .val (.int x3), .val (.int x4), d5, .val (.int x6), .val (.int x7), .val (.int x8), .val (.int x9), .unset, .unset, .unset, .unset, .unset, .unset] [])) := by
    intro T L h X eT N Zs x3 x4 x6 x7 x8 x9 d0 od0 d1 od1 d2 od2 d5 od5 ok
    refine Ends.step (u' := (T.setTop (mkF m 29 #[d0, d1, d2, .val (.int x3), .val (.int x4), d5, .val (.int x6), .val (.int x7), .val (.int x8), .val (.int x9), .unset, .unset, .unset, .unset, .unset, .unset] [(.int x3)]))) ?_ (fun _ k => XS.iloadN X.here hx rfl (hb hby at_28) rfl k)
    refine Ends.callS X hx hZ hown (hw _ (List.mem_of_getElem? (i := 1) rfl)) (hw _ (List.mem_of_getElem? (i := 2) rfl)) (hw _ (List.mem_of_getElem? (i := 3) rfl)) (hw _ (List.mem_of_getElem? (i := 4) rfl)) (by decide) (rm1 l Z a0 hw x3 h n0 Zs) 0 (by decide) (by decide) eT  (g := (mkF m 29 #[d0, d1, d2, .val (.int x3), .val (.int x4), d5, .val (.int x6), .val (.int x7), .val (.int x8), .val (.int x9), .unset, .unset, .unset, .unset, .unset, .unset] [(.int x3)])) rfl (by rw [hml]; rfl)  [(.int x3)] [] (lenOf pd_1 rfl) rfl (by show 2 * 0 + _ ≤ _; exact Nat.le_of_eq rfl) (hb hby at_29) rfl (by decide) (by decide) (fun v49 T49 L49 X49 hQ49 => ?_)
    obtain ⟨rfl, Nq49, e49⟩ := hQ49
    have N49 := Fr.app N Nq49
    show Ends p e below s _ _ _ (T49.setTop (mkF m 32 #[d0, d1, d2, .val (.int x3), .val (.int x4), d5, .val (.int x6), .val (.int x7), .val (.int x8), .val (.int x9), .unset, .unset, .unset, .unset, .unset, .unset] [(.int (F1 x3))]))
    refine Ends.step (u' := (T49.setTop (mkF m 34 #[d0, d1, d2, .val (.int x3), .val (.int x4), d5, .val (.int x6), .val (.int x7), .val (.int x8), .val (.int x9), .val (.int (F1 x3)), .unset, .unset, .unset, .unset, .unset] []))) ?_ (fun _ k => XS.istore X49.here hx rfl (hb hby at_32) rfl (l' := #[d0, d1, d2, .val (.int x3), .val (.int x4), d5, .val (.int x6), .val (.int x7), .val (.int x8), .val (.int x9), .val (.int (F1 x3)), .unset, .unset, .unset, .unset, .unset]) rfl k)
    exact b34 T49 _ _ X49 e49 N49 Zs x4 x6 x7 x8 x9 (F1 x3) (d0) od0 (d1) od1 (d2) od2 (.val (.int x3)) (Or.inr ⟨_, rfl, rfl⟩) (d5) od5 ok
  have b22 : ∀ (T : State) (L : List Loc) (h : Heap) (X : Stand p l e room_1 s m #[(.int p0), (.int p1), (.int p2), (.int p3), (.int p4), (.int p5)] below meth c T L 0 0) (eT : T.heap = h) (N : Fr n0 L) (Zs : n0 ≤ h.size) (x2 : Int32) (x3 : Int32) (x4 : Int32) (x6 : Int32) (x7 : Int32) (x8 : Int32) (d0 : Slot) (od0 : OneS d0) (d1 : Slot) (od1 : OneS d1) (d5 : Slot) (od5 : OneS d5) (ok : (O0_22 K x2 x3 x4 x6 x7 x8)), Ends p e below s 4 28 (Q0 Z  h0 n0 (F0_22 K x2 x3 x4 x6 x7 x8)) (T.setTop (mkF m 22 #[d0, d1, .val (.int x2), .val (.int x3), .val (.int x4), d5, .val (.int x6), .val (.int x7), .val (.int x8), .unset, .unset, .unset, .unset, .unset, .unset, .unset] [])) := by
    intro T L h X eT N Zs x2 x3 x4 x6 x7 x8 d0 od0 d1 od1 d5 od5 ok
    refine Ends.step (u' := (T.setTop (mkF m 23 #[d0, d1, .val (.int x2), .val (.int x3), .val (.int x4), d5, .val (.int x6), .val (.int x7), .val (.int x8), .unset, .unset, .unset, .unset, .unset, .unset, .unset] [(.int x2)]))) ?_ (fun _ k => XS.iloadN X.here hx rfl (hb hby at_22) rfl k)
    refine Ends.callS X hx hZ hown (hw _ (List.mem_of_getElem? (i := 1) rfl)) (hw _ (List.mem_of_getElem? (i := 2) rfl)) (hw _ (List.mem_of_getElem? (i := 3) rfl)) (hw _ (List.mem_of_getElem? (i := 4) rfl)) (by decide) (rm1 l Z a0 hw x2 h n0 Zs) 0 (by decide) (by decide) eT  (g := (mkF m 23 #[d0, d1, .val (.int x2), .val (.int x3), .val (.int x4), d5, .val (.int x6), .val (.int x7), .val (.int x8), .unset, .unset, .unset, .unset, .unset, .unset, .unset] [(.int x2)])) rfl (by rw [hml]; rfl)  [(.int x2)] [] (lenOf pd_1 rfl) rfl (by show 2 * 0 + _ ≤ _; exact Nat.le_of_eq rfl) (hb hby at_23) rfl (by decide) (by decide) (fun v50 T50 L50 X50 hQ50 => ?_)
    obtain ⟨rfl, Nq50, e50⟩ := hQ50
    have N50 := Fr.app N Nq50
    show Ends p e below s _ _ _ (T50.setTop (mkF m 26 #[d0, d1, .val (.int x2), .val (.int x3), .val (.int x4), d5, .val (.int x6), .val (.int x7), .val (.int x8), .unset, .unset, .unset, .unset, .unset, .unset, .unset] [(.int (F1 x2))]))
    refine Ends.step (u' := (T50.setTop (mkF m 28 #[d0, d1, .val (.int x2), .val (.int x3), .val (.int x4), d5, .val (.int x6), .val (.int x7), .val (.int x8), .val (.int (F1 x2)), .unset, .unset, .unset, .unset, .unset, .unset] []))) ?_ (fun _ k => XS.istore X50.here hx rfl (hb hby at_26) rfl (l' := #[d0, d1, .val (.int x2), .val (.int x3), .val (.int x4), d5, .val (.int x6), .val (.int x7), .val (.int x8), .val (.int (F1 x2)), .unset, .unset, .unset, .unset, .unset, .unset]) rfl k)
    exact b28 T50 _ _ X50 e50 N50 Zs x3 x4 x6 x7 x8 (F1 x2) (d0) od0 (d1) od1 (.val (.int x2)) (Or.inr ⟨_, rfl, rfl⟩) (d5) od5 ok
  have b16 : ∀ (T : State) (L : List Loc) (h : Heap) (X : Stand p l e room_1 s m #[(.int p0), (.int p1), (.int p2), (.int p3), (.int p4), (.int p5)] below meth c T L 0 0) (eT : T.heap = h) (N : Fr n0 L) (Zs : n0 ≤ h.size) (x1 : Int32) (x2 : Int32) (x3 : Int32) (x4 : Int32) (x6 : Int32) (x7 : Int32) (d0 : Slot) (od0 : OneS d0) (d5 : Slot) (od5 : OneS d5) (ok : (O0_16 K x1 x2 x3 x4 x6 x7)), Ends p e below s 4 28 (Q0 Z  h0 n0 (F0_16 K x1 x2 x3 x4 x6 x7)) (T.setTop (mkF m 16 #[d0, .val (.int x1), .val (.int x2), .val (.int x3), .val (.int x4), d5, .val (.int x6), .val (.int x7), .unset, .unset, .unset, .unset, .unset, .unset, .unset, .unset] [])) := by
    intro T L h X eT N Zs x1 x2 x3 x4 x6 x7 d0 od0 d5 od5 ok
    refine Ends.step (u' := (T.setTop (mkF m 17 #[d0, .val (.int x1), .val (.int x2), .val (.int x3), .val (.int x4), d5, .val (.int x6), .val (.int x7), .unset, .unset, .unset, .unset, .unset, .unset, .unset, .unset] [(.int x1)]))) ?_ (fun _ k => XS.iloadN X.here hx rfl (hb hby at_16) rfl k)
    refine Ends.callS X hx hZ hown (hw _ (List.mem_of_getElem? (i := 1) rfl)) (hw _ (List.mem_of_getElem? (i := 2) rfl)) (hw _ (List.mem_of_getElem? (i := 3) rfl)) (hw _ (List.mem_of_getElem? (i := 4) rfl)) (by decide) (rm1 l Z a0 hw x1 h n0 Zs) 0 (by decide) (by decide) eT  (g := (mkF m 17 #[d0, .val (.int x1), .val (.int x2), .val (.int x3), .val (.int x4), d5, .val (.int x6), .val (.int x7), .unset, .unset, .unset, .unset, .unset, .unset, .unset, .unset] [(.int x1)])) rfl (by rw [hml]; rfl)  [(.int x1)] [] (lenOf pd_1 rfl) rfl (by show 2 * 0 + _ ≤ _; exact Nat.le_of_eq rfl) (hb hby at_17) rfl (by decide) (by decide) (fun v51 T51 L51 X51 hQ51 => ?_)
    obtain ⟨rfl, Nq51, e51⟩ := hQ51
    have N51 := Fr.app N Nq51
    show Ends p e below s _ _ _ (T51.setTop (mkF m 20 #[d0, .val (.int x1), .val (.int x2), .val (.int x3), .val (.int x4), d5, .val (.int x6), .val (.int x7), .unset, .unset, .unset, .unset, .unset, .unset, .unset, .unset] [(.int (F1 x1))]))
    refine Ends.step (u' := (T51.setTop (mkF m 22 #[d0, .val (.int x1), .val (.int x2), .val (.int x3), .val (.int x4), d5, .val (.int x6), .val (.int x7), .val (.int (F1 x1)), .unset, .unset, .unset, .unset, .unset, .unset, .unset] []))) ?_ (fun _ k => XS.istore X51.here hx rfl (hb hby at_20) rfl (l' := #[d0, .val (.int x1), .val (.int x2), .val (.int x3), .val (.int x4), d5, .val (.int x6), .val (.int x7), .val (.int (F1 x1)), .unset, .unset, .unset, .unset, .unset, .unset, .unset]) rfl k)
    exact b22 T51 _ _ X51 e51 N51 Zs x2 x3 x4 x6 x7 (F1 x1) (d0) od0 (.val (.int x1)) (Or.inr ⟨_, rfl, rfl⟩) (d5) od5 ok
  have b10 : ∀ (T : State) (L : List Loc) (h : Heap) (X : Stand p l e room_1 s m #[(.int p0), (.int p1), (.int p2), (.int p3), (.int p4), (.int p5)] below meth c T L 0 0) (eT : T.heap = h) (N : Fr n0 L) (Zs : n0 ≤ h.size) (x0 : Int32) (x1 : Int32) (x2 : Int32) (x3 : Int32) (x4 : Int32) (x6 : Int32) (d5 : Slot) (od5 : OneS d5) (ok : (O0_10 K x0 x1 x2 x3 x4 x6)), Ends p e below s 4 28 (Q0 Z  h0 n0 (F0_10 K x0 x1 x2 x3 x4 x6)) (T.setTop (mkF m 10 #[.val (.int x0), .val (.int x1), .val (.int x2), .val (.int x3), .val (.int x4), d5, .val (.int x6), .unset, .unset, .unset, .unset, .unset, .unset, .unset, .unset, .unset] [])) := by
    intro T L h X eT N Zs x0 x1 x2 x3 x4 x6 d5 od5 ok
    refine Ends.step (u' := (T.setTop (mkF m 11 #[.val (.int x0), .val (.int x1), .val (.int x2), .val (.int x3), .val (.int x4), d5, .val (.int x6), .unset, .unset, .unset, .unset, .unset, .unset, .unset, .unset, .unset] [(.int x0)]))) ?_ (fun _ k => XS.iloadN X.here hx rfl (hb hby at_10) rfl k)
    refine Ends.callS X hx hZ hown (hw _ (List.mem_of_getElem? (i := 1) rfl)) (hw _ (List.mem_of_getElem? (i := 2) rfl)) (hw _ (List.mem_of_getElem? (i := 3) rfl)) (hw _ (List.mem_of_getElem? (i := 4) rfl)) (by decide) (rm1 l Z a0 hw x0 h n0 Zs) 0 (by decide) (by decide) eT  (g := (mkF m 11 #[.val (.int x0), .val (.int x1), .val (.int x2), .val (.int x3), .val (.int x4), d5, .val (.int x6), .unset, .unset, .unset, .unset, .unset, .unset, .unset, .unset, .unset] [(.int x0)])) rfl (by rw [hml]; rfl)  [(.int x0)] [] (lenOf pd_1 rfl) rfl (by show 2 * 0 + _ ≤ _; exact Nat.le_of_eq rfl) (hb hby at_11) rfl (by decide) (by decide) (fun v52 T52 L52 X52 hQ52 => ?_)
    obtain ⟨rfl, Nq52, e52⟩ := hQ52
    have N52 := Fr.app N Nq52
    show Ends p e below s _ _ _ (T52.setTop (mkF m 14 #[.val (.int x0), .val (.int x1), .val (.int x2), .val (.int x3), .val (.int x4), d5, .val (.int x6), .unset, .unset, .unset, .unset, .unset, .unset, .unset, .unset, .unset] [(.int (F1 x0))]))
    refine Ends.step (u' := (T52.setTop (mkF m 16 #[.val (.int x0), .val (.int x1), .val (.int x2), .val (.int x3), .val (.int x4), d5, .val (.int x6), .val (.int (F1 x0)), .unset, .unset, .unset, .unset, .unset, .unset, .unset, .unset] []))) ?_ (fun _ k => XS.istore X52.here hx rfl (hb hby at_14) rfl (l' := #[.val (.int x0), .val (.int x1), .val (.int x2), .val (.int x3), .val (.int x4), d5, .val (.int x6), .val (.int (F1 x0)), .unset, .unset, .unset, .unset, .unset, .unset, .unset, .unset]) rfl k)
    exact b16 T52 _ _ X52 e52 N52 Zs x1 x2 x3 x4 x6 (F1 x0) (.val (.int x0)) (Or.inr ⟨_, rfl, rfl⟩) (d5) od5 ok
  refine Ends.step (u' := (s₁.setTop (mkF m 0 #[.val (.int p0), .val (.int p1), .val (.int p2), .val (.int p3), .val (.int p4), .val (.int p5), .unset, .unset, .unset, .unset, .unset, .unset, .unset, .unset, .unset, .unset] []))) ?_ (fun _ k => castTop (ef_0 m p0 p1 p2 p3 p4 p5) k)
  refine Ends.step (u' := (s₁.setTop (mkF m 2 #[.val (.int p0), .val (.int p1), .val (.int p2), .val (.int p3), .val (.int p4), .val (.int p5), .unset, .unset, .unset, .unset, .unset, .unset, .unset, .unset, .unset, .unset] [(.int p5)]))) ?_ (fun _ k => XS.iload X0.here hx rfl (hb hby at_0) rfl k)
  refine Ends.step (u' := (s₁.setTop (mkF m 4 #[.val (.int p0), .val (.int p1), .val (.int p2), .val (.int p3), .val (.int p4), .val (.int p5), .unset, .unset, .unset, .unset, .unset, .unset, .unset, .unset, .unset, .unset] [(.int (2147483647 : Int32)), (.int p5)]))) ?_ (fun _ k => X0.ldcI hx hown (mvT hZ (hw _ (List.mem_of_getElem? (i := 0) rfl))) rfl (hb hby at_2) k)
  refine Ends.step (u' := (s₁.setTop (mkF m 5 #[.val (.int p0), .val (.int p1), .val (.int p2), .val (.int p3), .val (.int p4), .val (.int p5), .unset, .unset, .unset, .unset, .unset, .unset, .unset, .unset, .unset, .unset] [(.int (p5 &&& (2147483647 : Int32)))]))) ?_ (fun _ k => XS.iand X0.here hx rfl (hb hby at_4) rfl k)
  refine Ends.step (u' := (s₁.setTop (mkF m 7 #[.val (.int p0), .val (.int p1), .val (.int p2), .val (.int p3), .val (.int p4), .val (.int p5), .unset, .unset, .unset, .unset, .unset, .unset, .unset, .unset, .unset, .unset] [(.int (6 : Int32)), (.int (p5 &&& (2147483647 : Int32)))]))) ?_ (fun _ k => XT.bipushV X0.here hx rfl (6 : Int32) (hb hby at_5) rfl k)
  refine Ends.step (u' := (s₁.setTop (mkF m 8 #[.val (.int p0), .val (.int p1), .val (.int p2), .val (.int p3), .val (.int p4), .val (.int p5), .unset, .unset, .unset, .unset, .unset, .unset, .unset, .unset, .unset, .unset] [(.int ((p5 &&& (2147483647 : Int32)) % (6 : Int32)))]))) ?_ (fun _ k => iremM X0 hx rfl (hb hby at_7) rfl (by decide) k)
  refine Ends.step (u' := (s₁.setTop (mkF m 10 #[.val (.int p0), .val (.int p1), .val (.int p2), .val (.int p3), .val (.int p4), .val (.int p5), .val (.int ((p5 &&& (2147483647 : Int32)) % (6 : Int32))), .unset, .unset, .unset, .unset, .unset, .unset, .unset, .unset, .unset] []))) ?_ (fun _ k => XS.istore X0.here hx rfl (hb hby at_8) rfl (l' := #[.val (.int p0), .val (.int p1), .val (.int p2), .val (.int p3), .val (.int p4), .val (.int p5), .val (.int ((p5 &&& (2147483647 : Int32)) % (6 : Int32))), .unset, .unset, .unset, .unset, .unset, .unset, .unset, .unset, .unset]) rfl k)
  exact b10 s₁ _ _ X0 e0 N0 Z0 p0 p1 p2 p3 p4 ((p5 &&& (2147483647 : Int32)) % (6 : Int32)) (.val (.int p5)) (Or.inr ⟨_, rfl, rfl⟩) ok
theorem own_toInt (x : Int32) (h : x.toBitVec.toNat < 2 ^ 31) : x.toInt = x.toBitVec.toNat := by
  show x.toBitVec.toInt = _
  rw [BitVec.toInt_eq_toNat_cond, if_pos (by omega)]
theorem own_nonneg (x : Int32) (h : 0 ≤ x.toInt) : x.toBitVec.toNat < 2 ^ 31 := by
  have h' : 0 ≤ x.toBitVec.toInt := h
  rw [BitVec.toInt_eq_toNat_cond] at h'
  split at h' <;> omega
theorem own_band (x c : Int32) (hc : 0 ≤ c.toInt) : 0 ≤ (x &&& c).toInt ∧ (x &&& c).toInt ≤ c.toInt := by
  have hb := own_nonneg c hc
  have e : (x &&& c).toBitVec.toNat = x.toBitVec.toNat &&& c.toBitVec.toNat := by rw [Int32.toBitVec_and, BitVec.toNat_and]
  have l : x.toBitVec.toNat &&& c.toBitVec.toNat ≤ c.toBitVec.toNat := Nat.and_le_right
  rw [own_toInt (x &&& c) (by omega), own_toInt c hb, e]
  omega
theorem own_inb (j : Int32) (n : Nat) (h0 : 0 ≤ j.toInt) (h1 : j.toInt < n) : inb j n := by
  intro h
  rcases h with h | h
  · rw [Int32.lt_iff_toInt_lt] at h
    have : (0 : Int32).toInt = 0 := rfl
    omega
  · simp only [Int32.toNatClampNeg] at h
    omega
theorem own_n_toInt (i : Nat) (h : i < 2 ^ 31) : (Int32.ofNat i).toInt = i := Int32.toInt_ofNat_of_lt h
theorem own_n_lt (i j : Nat) (hi : i < 2 ^ 31) (hj : j < 2 ^ 31) : Int32.ofNat i < Int32.ofNat j ↔ i < j := by
  rw [Int32.lt_iff_toInt_lt, own_n_toInt i hi, own_n_toInt j hj]; omega
theorem own_n_add (i j : Nat) : Int32.ofNat i + Int32.ofNat j = Int32.ofNat (i + j) := (Int32.ofNat_add i j).symm
theorem own_n_ix (i : Nat) (h : i < 2 ^ 31) : (Int32.ofNat i).toNatClampNeg = i := by
  simp only [Int32.toNatClampNeg, own_n_toInt i h]; omega
theorem own_n_inb (i n : Nat) (h : i < n) (hn : n < 2 ^ 31) : inb (Int32.ofNat i) n :=
  own_inb _ _ (by rw [own_n_toInt i (by omega)]; omega) (by rw [own_n_toInt i (by omega)]; omega)
theorem own_n_ex (x : Int32) (h : 0 ≤ x.toInt) : ∃ n : Nat, n < 2 ^ 31 ∧ x = Int32.ofNat n ∧ x.toInt = n := by
  have := Int32.toInt_lt x
  refine ⟨x.toInt.toNat, by omega, ?_, by omega⟩
  apply Int32.toInt_inj.mp
  rw [own_n_toInt _ (by omega)]
  omega
theorem own_pos_mod (x c : Int32) (hc : 0 < c.toInt) : 0 ≤ ((x &&& (2147483647 : Int32)) % c).toInt ∧ ((x &&& (2147483647 : Int32)) % c).toInt < c.toInt := by
  have h := own_band x 2147483647 (by decide)
  rw [Int32.toInt_mod, Int.tmod_eq_emod_of_nonneg h.1]
  exact ⟨Int.emod_nonneg _ (by omega), Int.emod_lt_of_pos _ hc⟩
def own_V (x : Nat) : Int32 := (1 : Int32) <<< ((Int32.ofNat x - (1 : Int32)) &&& 31)
def own_sum (g : Nat → Int32) : Nat → Int32
  | 0 => 0
  | m + 1 => own_sum g m + g m
theorem own_sum_add (g h : Nat → Int32) : ∀ m, own_sum g m + own_sum h m = own_sum (fun t => g t + h t) m
  | 0 => (by decide : (0 : Int32) + 0 = 0)
  | m + 1 => by
    show (own_sum g m + g m) + (own_sum h m + h m) = own_sum (fun t => g t + h t) m + (g m + h m)
    rw [← own_sum_add g h m]
    generalize own_sum g m = a
    generalize own_sum h m = b
    rw [Int32.add_assoc, Int32.add_assoc, ← Int32.add_assoc (g m) b, Int32.add_comm (g m) b, Int32.add_assoc b]
theorem own_sum_ext (g h : Nat → Int32) : ∀ m, (∀ t, t < m → g t = h t) → own_sum g m = own_sum h m
  | 0, _ => rfl
  | m + 1, q => by
    show own_sum g m + g m = own_sum h m + h m
    rw [own_sum_ext g h m (fun t ht => q t (by omega)), q m (by omega)]
theorem own_sum_zero (g : Nat → Int32) : ∀ m, (∀ t, t < m → g t = 0) → own_sum g m = 0
  | 0, _ => rfl
  | m + 1, q => by
    show own_sum g m + g m = 0
    rw [own_sum_zero g m (fun t ht => q t (by omega)), q m (by omega)]; decide
theorem own_sum_cut (g : Nat → Int32) (m : Nat) : ∀ k, m ≤ k → own_sum g m = own_sum (fun t => if t < m then g t else 0) k := by
  intro k hk
  induction k with
  | zero =>
    have : m = 0 := by omega
    subst this; rfl
  | succ k ih =>
    by_cases q : m = k + 1
    · subst q
      exact own_sum_ext _ _ _ fun t ht => (if_pos ht).symm
    · show _ = own_sum _ k + (if k < m then g k else 0)
      rw [← ih (by omega), if_neg (by omega), Int32.add_zero]
/-! the three loops, on contents -/
def own_C (w : Nat → Nat) : Nat → (Nat → Int32)
  | 0 => fun _ => 0
  | i + 1 => if 0 < w i then upd (own_C w i) (w i + 1) (own_C w i (w i + 1) + own_V (w i)) else own_C w i
theorem own_C_at (w : Nat → Nat) (x : Nat) : ∀ i, own_C w i x = own_sum (fun t => if 0 < w t ∧ w t + 1 = x then own_V (w t) else 0) i
  | 0 => rfl
  | i + 1 => by
    show (if 0 < w i then upd (own_C w i) (w i + 1) (own_C w i (w i + 1) + own_V (w i)) else own_C w i) x = own_sum _ i + (if 0 < w i ∧ w i + 1 = x then own_V (w i) else 0)
    rw [← own_C_at w x i]
    by_cases q : 0 < w i
    · rw [if_pos q]
      show (if x = w i + 1 then own_C w i (w i + 1) + own_V (w i) else own_C w i x) = _
      by_cases r : x = w i + 1
      · rw [if_pos r, if_pos ⟨q, r.symm⟩, r]
      · rw [if_neg r, if_neg (fun z => r z.2.symm), Int32.add_zero]
    · rw [if_neg q, if_neg (fun z => q z.1), Int32.add_zero]
def own_PS (c : Nat → Int32) : Nat → Int32
  | 0 => 0
  | x + 1 => own_PS c x + c (x + 1)
def own_D (c : Nat → Int32) : Nat → (Nat → Int32)
  | 0 => c
  | i + 1 => upd (own_D c i) (i + 2) (own_D c i (i + 2) + own_D c i (i + 1))
theorem own_D_at (c : Nat → Int32) : ∀ i x, own_D c i x = if 1 ≤ x ∧ x < i + 2 then own_PS c x else c x
  | 0, x => by
    by_cases q : x = 1
    · subst q
      rw [if_pos (by omega)]
      show c 1 = own_PS c 0 + c 1
      show c 1 = 0 + c 1
      rw [Int32.zero_add]
    · rw [if_neg (by omega)]; rfl
  | i + 1, x => by
    show (if x = i + 2 then own_D c i (i + 2) + own_D c i (i + 1) else own_D c i x) = _
    have h1 : own_D c i (i + 2) = c (i + 2) := (own_D_at c i (i + 2)).trans (if_neg (by omega))
    have h2 : own_D c i (i + 1) = own_PS c (i + 1) := (own_D_at c i (i + 1)).trans (if_pos (by omega))
    rw [h1, h2, own_D_at c i x]
    by_cases q : x = i + 2
    · subst q
      rw [if_pos rfl, if_pos (by omega), Int32.add_comm]; rfl
    · rw [if_neg q]
      by_cases r : 1 ≤ x ∧ x < i + 2
      · rw [if_pos r, if_pos (by omega)]
      · rw [if_neg r, if_neg (by omega)]
theorem own_PS_eq (w : Nat → Nat) (n : Nat) : ∀ x, own_PS (own_C w n) x = own_sum (fun t => if 0 < w t ∧ w t + 1 ≤ x then own_V (w t) else 0) n
  | 0 => (own_sum_zero _ n fun t _ => if_neg (by omega)).symm
  | x + 1 => by
    show own_PS (own_C w n) x + own_C w n (x + 1) = _
    rw [own_PS_eq w n x, own_C_at, own_sum_add]
    refine own_sum_ext _ _ _ fun t _ => ?_
    by_cases a : 0 < w t ∧ w t + 1 ≤ x
    · rw [if_pos a, if_neg (by omega), if_pos (by omega), Int32.add_zero]
    · by_cases b : 0 < w t ∧ w t + 1 = x + 1
      · rw [if_neg a, if_pos b, if_pos (by omega), Int32.zero_add]
      · rw [if_neg a, if_neg b, if_neg (by omega), Int32.add_zero]
def own_E (w : Nat → Nat) (d : Nat → Int32) : Nat → (Nat → Int32)
  | 0 => d
  | i + 1 => if 0 < w i then upd (own_E w d i) (w i) (own_E w d i (w i) + own_V (w i)) else own_E w d i
theorem own_E_at (w : Nat → Nat) (d : Nat → Int32) (x : Nat) : ∀ i, own_E w d i x = d x + own_sum (fun t => if 0 < w t ∧ w t = x then own_V (w t) else 0) i
  | 0 => (Int32.add_zero _).symm
  | i + 1 => by
    show (if 0 < w i then upd (own_E w d i) (w i) (own_E w d i (w i) + own_V (w i)) else own_E w d i) x = d x + (own_sum _ i + (if 0 < w i ∧ w i = x then own_V (w i) else 0))
    rw [← Int32.add_assoc, ← own_E_at w d x i]
    by_cases q : 0 < w i
    · rw [if_pos q]
      show (if x = w i then own_E w d i (w i) + own_V (w i) else own_E w d i x) = _
      by_cases r : x = w i
      · rw [if_pos r, if_pos ⟨q, r.symm⟩, r]
      · rw [if_neg r, if_neg (fun z => r z.2.symm), Int32.add_zero]
    · rw [if_neg q, if_neg (fun z => q z.1), Int32.add_zero]
def own_G (w : Nat → Nat) (d : Nat → Int32) : Nat → (Nat → Int32)
  | 0 => fun _ => 0
  | i + 1 => if 0 < w i then upd (own_G w d i) i (own_E w d i (w i)) else own_G w d i
theorem own_G_at (w : Nat → Nat) (d : Nat → Int32) (s : Nat) : ∀ m, own_G w d m s = if s < m ∧ 0 < w s then own_E w d s (w s) else 0
  | 0 => by rw [if_neg (by omega)]; rfl
  | m + 1 => by
    show (if 0 < w m then upd (own_G w d m) m (own_E w d m (w m)) else own_G w d m) s = _
    by_cases q : 0 < w m
    · rw [if_pos q]
      show (if s = m then own_E w d m (w m) else own_G w d m s) = _
      by_cases r : s = m
      · subst r
        rw [if_pos rfl, if_pos ⟨by omega, q⟩]
      · rw [if_neg r, own_G_at w d s m]
        by_cases u : s < m ∧ 0 < w s
        · rw [if_pos u, if_pos ⟨by omega, u.2⟩]
        · rw [if_neg u, if_neg (fun z => u ⟨by omega, z.2⟩)]
    · rw [if_neg q, own_G_at w d s m]
      by_cases u : s < m ∧ 0 < w s
      · rw [if_pos u, if_pos ⟨by omega, u.2⟩]
      · rw [if_neg u, if_neg (fun z => u ⟨by
          have : s ≠ m := fun e => q (e ▸ z.2)
          omega, z.2⟩)]
theorem own_pos (x : Nat) (h : x < 100) : 0 < Int32.ofNat x ↔ 0 < x := own_n_lt 0 x (by decide) (by omega)
theorem own_loop1 (K : Nat) (f : Nat → Int32) (w : Nat → Nat) (n : Nat) (hn : n ≤ 5) (hw : ∀ t, t < 5 → w t ≤ 11) (hf : ∀ t, t < 5 → f t = Int32.ofNat (w t)) : ∀ (r j i : Nat), i + r = n → r < j →
    (O2_43 K 5 f (own_C w n) (Int32.ofNat n) → O2_7 K j 5 f (own_C w i) (Int32.ofNat n) (Int32.ofNat i)) ∧ F2_7 K j 5 f (own_C w i) (Int32.ofNat n) (Int32.ofNat i) = F2_43 K 5 f (own_C w n) (Int32.ofNat n)
  | r, 0, _, _, z => absurd z (Nat.not_lt_zero r)
  | 0, j + 1, i, e, _ => by
    have e' : i = n := by omega
    subst e'
    have c : ¬ Int32.ofNat i < Int32.ofNat i := by rw [own_n_lt _ _ (by omega) (by omega)]; omega
    exact ⟨fun ok => ⟨fun z => absurd z c, fun _ => ok⟩, if_neg c⟩
  | r + 1, j + 1, i, e, z => by
    have c : Int32.ofNat i < Int32.ofNat n := by rw [own_n_lt _ _ (by omega) (by omega)]; omega
    have ih := own_loop1 K f w n hn hw hf r j (i + 1) (by omega) (by omega)
    have e1 : Int32.ofNat i + 1 = Int32.ofNat (i + 1) := own_n_add i 1
    have e2 : (Int32.ofNat i).toNatClampNeg = i := own_n_ix i (by omega)
    have wi := hw i (by omega)
    have fi := hf i (by omega)
    have hb : inb (Int32.ofNat i) 5 := own_n_inb _ _ (by omega) (by decide)
    have e3 : Int32.ofNat (w i) + 1 = Int32.ofNat (w i + 1) := own_n_add _ 1
    have e4 : (Int32.ofNat (w i + 1)).toNatClampNeg = w i + 1 := own_n_ix _ (by omega)
    have hb2 : inb (Int32.ofNat (w i) + 1) 13 := by rw [e3]; exact own_n_inb _ _ (by omega) (by decide)
    have o1 : ∀ ok : O2_43 K 5 f (own_C w n) (Int32.ofNat n), O2_17 K (O2_7 K j) 5 f (own_C w i) (Int32.ofNat n) (Int32.ofNat i) (Int32.ofNat (w i)) := fun ok => by
      by_cases q : 0 < w i
      · have q' := (own_pos (w i) (by omega)).mpr q
        have u : own_C w (i + 1) = upd (own_C w i) (w i + 1) (own_C w i (w i + 1) + own_V (w i)) := if_pos q
        refine ⟨fun _ => ⟨hb2, hb2, ?_⟩, fun z => absurd q' z⟩
        show O2_7 K j 5 f _ _ (Int32.ofNat i + 1)
        rw [e3, e4, e1]
        have := ih.1 ok
        rw [u] at this
        exact this
      · have q' : ¬ 0 < Int32.ofNat (w i) := fun z => q ((own_pos (w i) (by omega)).mp z)
        have u : own_C w (i + 1) = own_C w i := if_neg q
        refine ⟨fun z => absurd z q', fun _ => ?_⟩
        show O2_7 K j 5 f _ _ (Int32.ofNat i + 1)
        rw [e1, ← u]
        exact ih.1 ok
    have f1 : F2_17 K (F2_7 K j) 5 f (own_C w i) (Int32.ofNat n) (Int32.ofNat i) (Int32.ofNat (w i)) = F2_43 K 5 f (own_C w n) (Int32.ofNat n) := by
      by_cases q : 0 < w i
      · have q' := (own_pos (w i) (by omega)).mpr q
        have u : own_C w (i + 1) = upd (own_C w i) (w i + 1) (own_C w i (w i + 1) + own_V (w i)) := if_pos q
        refine (if_pos q').trans ?_
        simp only [F2_22, F2_37]
        rw [e3, e4, e1]
        have := ih.2
        rw [u] at this
        exact this
      · have q' : ¬ 0 < Int32.ofNat (w i) := fun z => q ((own_pos (w i) (by omega)).mp z)
        have u : own_C w (i + 1) = own_C w i := if_neg q
        refine (if_neg q').trans ?_
        simp only [F2_37]
        rw [e1, ← u]
        exact ih.2
    refine ⟨fun ok => ⟨fun _ => ⟨hb, ?_⟩, fun z => absurd c z⟩, (if_pos c).trans ?_⟩
    · rw [e2, fi]; exact o1 ok
    · simp only [F2_12]
      rw [e2, fi]; exact f1
theorem own_loop2 (K : Nat) (f c : Nat → Int32) (x1 : Int32) : ∀ (r j i : Nat), i + r = 11 → r < j →
    (O2_68 K 5 f (own_D c 11) x1 → O2_45 K j 5 f (own_D c i) x1 (Int32.ofNat (i + 2))) ∧ F2_45 K j 5 f (own_D c i) x1 (Int32.ofNat (i + 2)) = F2_68 K 5 f (own_D c 11) x1
  | r, 0, _, _, z => absurd z (Nat.not_lt_zero r)
  | 0, j + 1, i, e, _ => by
    have e' : i = 11 := by omega
    subst e'
    have q : ¬ Int32.ofNat (11 + 2) < Nat.toInt32 13 := by decide
    exact ⟨fun ok => ⟨fun z => absurd z q, fun _ => ok⟩, if_neg q⟩
  | r + 1, j + 1, i, e, z => by
    have q : Int32.ofNat (i + 2) < Nat.toInt32 13 := (own_n_lt (i + 2) 13 (by omega) (by decide)).mpr (by omega)
    have ih := own_loop2 K f c x1 r j (i + 1) (by omega) (by omega)
    have e1 : Int32.ofNat (i + 2) + 1 = Int32.ofNat (i + 1 + 2) := own_n_add _ 1
    have e2 : (Int32.ofNat (i + 2)).toNatClampNeg = i + 2 := own_n_ix _ (by omega)
    have e3 : Int32.ofNat (i + 2) - 1 = Int32.ofNat (i + 1) := by
      rw [show i + 2 = i + 1 + 1 by omega, ← own_n_add (i + 1) 1]; exact Int32.add_sub_cancel _ _
    have e4 : (Int32.ofNat (i + 1)).toNatClampNeg = i + 1 := own_n_ix _ (by omega)
    have b1 : inb (Int32.ofNat (i + 2)) 13 := own_n_inb _ _ (by omega) (by decide)
    have b2 : inb (Int32.ofNat (i + 2) - 1) 13 := by rw [e3]; exact own_n_inb _ _ (by omega) (by decide)
    refine ⟨fun ok => ⟨fun _ => ⟨b1, b2, b1, ?_⟩, fun z => absurd q z⟩, (if_pos q).trans ?_⟩
    · rw [e3, e4, e2, e1]; exact ih.1 ok
    · simp only [F2_51]
      rw [e3, e4, e2, e1]; exact ih.2
theorem own_loop3 (K : Nat) (f d : Nat → Int32) (w : Nat → Nat) (n : Nat) (hn : n ≤ 5) (hw : ∀ t, t < 5 → w t ≤ 11) (hf : ∀ t, t < 5 → f t = Int32.ofNat (w t)) : ∀ (r j i : Nat), i + r = n → r < j →
    O2_75 K j 5 f (own_E w d i) n (own_G w d i) (Int32.ofNat n) (Int32.ofNat i) ∧ F2_75 K j 5 f (own_E w d i) n (own_G w d i) (Int32.ofNat n) (Int32.ofNat i) = (n, own_G w d n)
  | r, 0, _, _, z => absurd z (Nat.not_lt_zero r)
  | 0, j + 1, i, e, _ => by
    have e' : i = n := by omega
    subst e'
    have c : ¬ Int32.ofNat i < Int32.ofNat i := by rw [own_n_lt _ _ (by omega) (by omega)]; omega
    exact ⟨⟨fun z => absurd z c, fun _ => trivial⟩, if_neg c⟩
  | r + 1, j + 1, i, e, z => by
    have c : Int32.ofNat i < Int32.ofNat n := by rw [own_n_lt _ _ (by omega) (by omega)]; omega
    have ih := own_loop3 K f d w n hn hw hf r j (i + 1) (by omega) (by omega)
    have e1 : Int32.ofNat i + 1 = Int32.ofNat (i + 1) := own_n_add i 1
    have e2 : (Int32.ofNat i).toNatClampNeg = i := own_n_ix i (by omega)
    have wi := hw i (by omega)
    have fi := hf i (by omega)
    have hb : inb (Int32.ofNat i) 5 := own_n_inb _ _ (by omega) (by decide)
    have hbn : inb (Int32.ofNat i) n := own_n_inb _ _ (by omega) (by omega)
    have e4 : (Int32.ofNat (w i)).toNatClampNeg = w i := own_n_ix _ (by omega)
    have hb2 : inb (Int32.ofNat (w i)) 13 := own_n_inb _ _ (by omega) (by decide)
    have t1 : O2_87 K (O2_75 K j) 5 f (own_E w d i) n (own_G w d i) (Int32.ofNat n) (Int32.ofNat i) (Int32.ofNat (w i)) ∧ F2_87 K (F2_75 K j) 5 f (own_E w d i) n (own_G w d i) (Int32.ofNat n) (Int32.ofNat i) (Int32.ofNat (w i)) = (n, own_G w d n) := by
      by_cases q : 0 < w i
      · have q' := (own_pos (w i) (by omega)).mpr q
        have u : own_E w d (i + 1) = upd (own_E w d i) (w i) (own_E w d i (w i) + own_V (w i)) := if_pos q
        have v : own_G w d (i + 1) = upd (own_G w d i) i (own_E w d i (w i)) := if_pos q
        rw [u, v] at ih
        refine ⟨⟨fun _ => ⟨hb2, hbn, hb2, hb2, ?_⟩, fun z => absurd q' z⟩, (if_pos q').trans ?_⟩
        · show O2_75 K j 5 f _ n _ _ (Int32.ofNat i + 1)
          rw [e4, e2, e1]; exact ih.1
        · simp only [F2_92, F2_113]
          rw [e4, e2, e1]; exact ih.2
      · have q' : ¬ 0 < Int32.ofNat (w i) := fun z => q ((own_pos (w i) (by omega)).mp z)
        have u : own_E w d (i + 1) = own_E w d i := if_neg q
        have v : own_G w d (i + 1) = own_G w d i := if_neg q
        rw [u, v] at ih
        refine ⟨⟨fun z => absurd z q', fun _ => ?_⟩, (if_neg q').trans ?_⟩
        · show O2_75 K j 5 f _ n _ _ (Int32.ofNat i + 1)
          rw [e1]; exact ih.1
        · simp only [F2_113]
          rw [e1]; exact ih.2
    refine ⟨⟨fun _ => ⟨hb, ?_⟩, fun z => absurd c z⟩, (if_pos c).trans ?_⟩
    · rw [e2, fi]; exact t1.1
    · simp only [F2_81]
      rw [e2, fi]; exact t1.2
theorem own_F2 (f : Nat → Int32) (w : Nat → Nat) (n : Nat) (hn : n ≤ 5) (hw : ∀ t, t < 5 → w t ≤ 11) (hf : ∀ t, t < 5 → f t = Int32.ofNat (w t)) :
    O2 16 (Int32.ofNat n) 5 f ∧ F2 16 (Int32.ofNat n) 5 f = (n, own_G w (own_D (own_C w n) 11) n) := by
  have l1 := own_loop1 16 f w n hn hw hf n 16 0 (by omega) (by omega)
  have l2 := own_loop2 16 f (own_C w n) (Int32.ofNat n) 11 16 0 (by decide) (by decide)
  have l3 := own_loop3 16 f (own_D (own_C w n) 11) w n hn hw hf n 16 0 (by omega) (by omega)
  have e : (Int32.ofNat n).toNatClampNeg = n := own_n_ix _ (by omega)
  have nn : ¬ Int32.ofNat n < 0 := fun z => absurd ((own_n_lt n 0 (by omega) (by decide)).mp z) (Nat.not_lt_zero n)
  have o68 : O2_68 16 5 f (own_D (own_C w n) 11) (Int32.ofNat n) := by
    refine ⟨nn, by rw [e]; exact hn, ?_⟩
    rw [e]; exact l3.1
  have f68 : F2_68 16 5 f (own_D (own_C w n) 11) (Int32.ofNat n) = (n, own_G w (own_D (own_C w n) 11) n) := by
    simp only [F2_68]
    rw [e]; exact l3.2
  exact ⟨l1.1 (l2.1 o68), l1.2.trans (l2.2.trans f68)⟩
def own_part (w : Nat → Nat) (n s t : Nat) : Int32 := if t < n ∧ t ≠ s ∧ 0 < w t ∧ (w t < w s ∨ (w t = w s ∧ t < s)) then own_V (w t) else 0
theorem own_neq (a b : Nat) (ha : a < 2 ^ 31) (hb : b < 2 ^ 31) (h : a ≠ b) : ¬ Int32.ofNat a = Int32.ofNat b := fun z => by
  have := congrArg Int32.toInt z
  rw [own_n_toInt a ha, own_n_toInt b hb] at this
  omega
theorem own_F4 (g : Nat → Int32) (w : Nat → Nat) (n s t : Nat) (hn : n ≤ 5) (hs : s < 5) (ht : t < 5) (hw : ∀ t, t < 5 → w t ≤ 11) (hg : ∀ t, t < 5 → g t = Int32.ofNat (w t)) :
    O4 (Int32.ofNat n) (Int32.ofNat s) (Int32.ofNat t) 5 g ∧ F4 (Int32.ofNat n) (Int32.ofNat s) (Int32.ofNat t) 5 g = own_part w n s t := by
  have et : (Int32.ofNat t).toNatClampNeg = t := own_n_ix _ (by omega)
  have es : (Int32.ofNat s).toNatClampNeg = s := own_n_ix _ (by omega)
  have bt : inb (Int32.ofNat t) 5 := own_n_inb _ _ ht (by decide)
  have bs : inb (Int32.ofNat s) 5 := own_n_inb _ _ hs (by decide)
  have wt := hw t ht
  have ws := hw s hs
  unfold own_part
  by_cases c1 : t < n
  · have c1' : Int32.ofNat t < Int32.ofNat n := (own_n_lt _ _ (by omega) (by omega)).mpr c1
    by_cases c2 : t = s
    · have c2' : Int32.ofNat t = Int32.ofNat s := by rw [c2]
      rw [if_neg (fun z => z.2.1 c2)]
      exact ⟨⟨fun _ => ⟨fun _ => trivial, fun z => absurd c2' z⟩, fun z => absurd c1' z⟩, (if_pos c1').trans (if_pos c2')⟩
    · have c2' := own_neq t s (by omega) (by omega) c2
      have main : O4_17 5 g (Int32.ofNat s) (Int32.ofNat t) (Int32.ofNat (w t)) ∧ F4_17 5 g (Int32.ofNat s) (Int32.ofNat t) (Int32.ofNat (w t)) = if t < n ∧ t ≠ s ∧ 0 < w t ∧ (w t < w s ∨ (w t = w s ∧ t < s)) then own_V (w t) else 0 := by
        by_cases c3 : w t = 0
        · have c3' : Int32.ofNat (w t) = 0 := by rw [c3]; rfl
          rw [if_neg (fun z => by omega)]
          exact ⟨⟨fun _ => trivial, fun z => absurd c3' z⟩, if_pos c3'⟩
        · have c3' : ¬ Int32.ofNat (w t) = 0 := own_neq (w t) 0 (by omega) (by decide) c3
          by_cases c4 : w t < w s
          · have c4' : Int32.ofNat (w t) < g (Int32.ofNat s).toNatClampNeg := by rw [es, hg s hs]; exact (own_n_lt _ _ (by omega) (by omega)).mpr c4
            rw [if_pos ⟨c1, c2, by omega, Or.inl c4⟩]
            exact ⟨⟨fun z => absurd z c3', fun _ => ⟨bs, fun _ => trivial, fun z => absurd c4' z⟩⟩, (if_neg c3').trans (if_pos c4')⟩
          · have c4' : ¬ Int32.ofNat (w t) < g (Int32.ofNat s).toNatClampNeg := by rw [es, hg s hs]; exact fun z => c4 ((own_n_lt _ _ (by omega) (by omega)).mp z)
            by_cases c5 : w t = w s
            · have c5' : Int32.ofNat (w t) = g (Int32.ofNat s).toNatClampNeg := by rw [es, hg s hs, c5]
              by_cases c6 : t < s
              · have c6' : Int32.ofNat t < Int32.ofNat s := (own_n_lt _ _ (by omega) (by omega)).mpr c6
                rw [if_pos ⟨c1, c2, by omega, Or.inr ⟨c5, c6⟩⟩]
                exact ⟨⟨fun z => absurd z c3', fun _ => ⟨bs, fun z => absurd z c4', fun _ => ⟨bs, fun _ => trivial, fun _ => trivial⟩⟩⟩, (if_neg c3').trans ((if_neg c4').trans ((if_pos c5').trans (if_pos c6')))⟩
              · have c6' : ¬ Int32.ofNat t < Int32.ofNat s := fun z => c6 ((own_n_lt _ _ (by omega) (by omega)).mp z)
                rw [if_neg (fun z => by omega)]
                exact ⟨⟨fun z => absurd z c3', fun _ => ⟨bs, fun z => absurd z c4', fun _ => ⟨bs, fun _ => trivial, fun _ => trivial⟩⟩⟩, (if_neg c3').trans ((if_neg c4').trans ((if_pos c5').trans (if_neg c6')))⟩
            · have c5' : ¬ Int32.ofNat (w t) = g (Int32.ofNat s).toNatClampNeg := by rw [es, hg s hs]; exact own_neq _ _ (by omega) (by omega) c5
              rw [if_neg (fun z => by omega)]
              exact ⟨⟨fun z => absurd z c3', fun _ => ⟨bs, fun z => absurd z c4', fun _ => ⟨bs, fun _ => trivial, fun _ => trivial⟩⟩⟩, (if_neg c3').trans ((if_neg c4').trans (if_neg c5'))⟩
      refine ⟨⟨fun _ => ⟨fun z => absurd z c2', fun _ => ⟨bt, ?_⟩⟩, fun z => absurd c1' z⟩, (if_pos c1').trans ((if_neg c2').trans ?_)⟩
      · rw [et, hg t ht]; exact main.1
      · simp only [F4_12]
        rw [et, hg t ht]; exact main.2
  · have c1' : ¬ Int32.ofNat t < Int32.ofNat n := fun z => c1 ((own_n_lt _ _ (by omega) (by omega)).mp z)
    rw [if_neg (fun z => c1 z.1)]
    exact ⟨⟨fun z => absurd z c1', fun _ => trivial⟩, if_neg c1'⟩
theorem own_eq (w : Nat → Nat) (n s : Nat) (hn : n ≤ 5) (hs : s < n) (hw : ∀ t, t < 5 → w t ≤ 11) (h0 : 0 < w s) : own_G w (own_D (own_C w n) 11) n s = own_sum (own_part w n s) 5 := by
  have ws := hw s (by omega)
  rw [own_G_at, if_pos ⟨hs, h0⟩, own_E_at, own_D_at, if_pos (by omega), own_PS_eq, own_sum_cut _ n 5 hn, own_sum_cut _ s 5 (by omega), own_sum_add]
  refine own_sum_ext _ _ _ fun t ht => ?_
  simp only [own_part]
  have wt := hw t ht
  by_cases c1 : t < n
  · by_cases c2 : 0 < w t
    · by_cases c3 : w t < w s
      · rw [if_pos c1, if_pos ⟨c2, by omega⟩, if_pos (show t < n ∧ t ≠ s ∧ 0 < w t ∧ (w t < w s ∨ (w t = w s ∧ t < s)) from ⟨c1, fun z => by rw [z] at c3; omega, c2, Or.inl c3⟩), if_neg (show ¬ (0 < w t ∧ w t = w s) from fun z => by omega), ite_self, Int32.add_zero]
      · rw [if_pos c1, if_neg (show ¬ (0 < w t ∧ w t + 1 ≤ w s) from fun z => by omega), Int32.zero_add]
        by_cases c4 : t < s
        · rw [if_pos c4]
          by_cases c5 : w t = w s
          · rw [if_pos ⟨c2, c5⟩, if_pos ⟨c1, by omega, c2, Or.inr ⟨c5, c4⟩⟩]
          · rw [if_neg (fun z => c5 z.2), if_neg (fun z => by omega)]
        · rw [if_neg c4, if_neg (fun z => by omega)]
    · rw [if_pos c1, if_neg (fun z => c2 z.1), if_neg (show ¬ (0 < w t ∧ w t = w s) from fun z => c2 z.1), ite_self, if_neg (fun z => c2 z.2.2.1), Int32.add_zero]
  · rw [if_neg c1, if_neg (show ¬ t < s by omega), if_neg (fun z => c1 z.1), Int32.add_zero]
theorem own_F3 (g : Nat → Int32) (w : Nat → Nat) (n s : Nat) (hn : n ≤ 5) (hs : s < n) (hw : ∀ t, t < 5 → w t ≤ 11) (hg : ∀ t, t < 5 → g t = Int32.ofNat (w t)) :
    O3 (Int32.ofNat n) (Int32.ofNat s) 5 g ∧ own_G w (own_D (own_C w n) 11) n s = F3 (Int32.ofNat n) (Int32.ofNat s) 5 g := by
  have es : (Int32.ofNat s).toNatClampNeg = s := own_n_ix _ (by omega)
  have bs : inb (Int32.ofNat s) 5 := own_n_inb _ _ (by omega) (by decide)
  have p := fun t (ht : t < 5) => own_F4 g w n s t hn (by omega) ht hw hg
  have p0 : O4 (Int32.ofNat n) (Int32.ofNat s) 0 5 g ∧ F4 (Int32.ofNat n) (Int32.ofNat s) 0 5 g = own_part w n s 0 := p 0 (by decide)
  have p1 : O4 (Int32.ofNat n) (Int32.ofNat s) 1 5 g ∧ F4 (Int32.ofNat n) (Int32.ofNat s) 1 5 g = own_part w n s 1 := p 1 (by decide)
  have p2 : O4 (Int32.ofNat n) (Int32.ofNat s) 2 5 g ∧ F4 (Int32.ofNat n) (Int32.ofNat s) 2 5 g = own_part w n s 2 := p 2 (by decide)
  have p3 : O4 (Int32.ofNat n) (Int32.ofNat s) 3 5 g ∧ F4 (Int32.ofNat n) (Int32.ofNat s) 3 5 g = own_part w n s 3 := p 3 (by decide)
  have p4 : O4 (Int32.ofNat n) (Int32.ofNat s) 4 5 g ∧ F4 (Int32.ofNat n) (Int32.ofNat s) 4 5 g = own_part w n s 4 := p 4 (by decide)
  have gs := hg s (by omega)
  have ws := hw s (by omega)
  by_cases c : w s = 0
  · have c' : g (Int32.ofNat s).toNatClampNeg = 0 := by rw [es, gs, c]; rfl
    refine ⟨⟨bs, fun _ => trivial, fun z => absurd c' z⟩, ?_⟩
    have e : F3 (Int32.ofNat n) (Int32.ofNat s) 5 g = 0 := if_pos c'
    rw [e, own_G_at, if_neg (fun z => by omega)]
  · have c' : ¬ g (Int32.ofNat s).toNatClampNeg = 0 := by rw [es, gs]; exact own_neq _ 0 (by omega) (by decide) c
    refine ⟨⟨bs, fun z => absurd z c', fun _ => ⟨p0.1, p1.1, p2.1, p3.1, p4.1, trivial⟩⟩, ?_⟩
    have e : F3 (Int32.ofNat n) (Int32.ofNat s) 5 g = F3_8 5 g (Int32.ofNat n) (Int32.ofNat s) := if_neg c'
    rw [e, own_eq w n s hn hs hw (by omega)]
    simp only [F3_8, p0.2, p1.2, p2.2, p3.2, p4.2]
    show ((((0 + own_part w n s 0) + _) + _) + _) + _ = _
    rw [Int32.zero_add]
theorem own_s4 (W G : Nat → Int32) (n : Nat) (hn : n ≤ 5) (h : ∀ s, s < n → O3 (Int32.ofNat n) (Int32.ofNat s) 5 W ∧ G s = F3 (Int32.ofNat n) (Int32.ofNat s) 5 W) : O0_264 16 W n G (Int32.ofNat n) ∧ F0_264 16 W n G (Int32.ofNat n) = 1 := by
  have ek : (4 : Int32).toNatClampNeg = 4 := by decide
  by_cases c : (4 : Int32) < Int32.ofNat n
  · have c' : 4 < n := (own_n_lt 4 n (by decide) (by omega)).mp c
    have q : O3 (Int32.ofNat n) (4 : Int32) 5 W ∧ G 4 = F3 (Int32.ofNat n) (4 : Int32) 5 W := h 4 c'
    have v : G (4 : Int32).toNatClampNeg = F3 (Int32.ofNat n) (4 : Int32) 5 W := by rw [ek]; exact q.2
    have hb : inb (4 : Int32) n := own_n_inb 4 n c' (by omega)
    exact ⟨⟨fun _ => ⟨hb, q.1, fun _ => trivial, fun z => absurd v z⟩, fun z => absurd c z⟩, (if_pos c).trans ((if_pos v).trans rfl)⟩
  · exact ⟨⟨fun z => absurd z c, fun _ => trivial⟩, (if_neg c).trans rfl⟩
theorem own_s3 (W G : Nat → Int32) (n : Nat) (hn : n ≤ 5) (h : ∀ s, s < n → O3 (Int32.ofNat n) (Int32.ofNat s) 5 W ∧ G s = F3 (Int32.ofNat n) (Int32.ofNat s) 5 W) : O0_231 16 W n G (Int32.ofNat n) ∧ F0_231 16 W n G (Int32.ofNat n) = 1 := by
  have t := own_s4 W G n hn h
  have t' : O0_252 16 W n G (Int32.ofNat n) ∧ F0_252 16 W n G (Int32.ofNat n) = 1 := ⟨⟨fun z => absurd z (by decide), fun _ => t.1⟩, by simp only [F0_252, F0_257]; rw [if_neg (by decide)]; exact t.2⟩
  have ek : (3 : Int32).toNatClampNeg = 3 := by decide
  by_cases c : (3 : Int32) < Int32.ofNat n
  · have c' : 3 < n := (own_n_lt 3 n (by decide) (by omega)).mp c
    have q : O3 (Int32.ofNat n) (3 : Int32) 5 W ∧ G 3 = F3 (Int32.ofNat n) (3 : Int32) 5 W := h 3 c'
    have v : G (3 : Int32).toNatClampNeg = F3 (Int32.ofNat n) (3 : Int32) 5 W := by rw [ek]; exact q.2
    have hb : inb (3 : Int32) n := own_n_inb 3 n c' (by omega)
    exact ⟨⟨fun _ => ⟨hb, q.1, fun _ => t'.1, fun z => absurd v z⟩, fun z => absurd c z⟩, (if_pos c).trans ((if_pos v).trans t'.2)⟩
  · exact ⟨⟨fun z => absurd z c, fun _ => t'.1⟩, (if_neg c).trans t'.2⟩
theorem own_s2 (W G : Nat → Int32) (n : Nat) (hn : n ≤ 5) (h : ∀ s, s < n → O3 (Int32.ofNat n) (Int32.ofNat s) 5 W ∧ G s = F3 (Int32.ofNat n) (Int32.ofNat s) 5 W) : O0_198 16 W n G (Int32.ofNat n) ∧ F0_198 16 W n G (Int32.ofNat n) = 1 := by
  have t := own_s3 W G n hn h
  have t' : O0_219 16 W n G (Int32.ofNat n) ∧ F0_219 16 W n G (Int32.ofNat n) = 1 := ⟨⟨fun z => absurd z (by decide), fun _ => t.1⟩, by simp only [F0_219, F0_224]; rw [if_neg (by decide)]; exact t.2⟩
  have ek : (2 : Int32).toNatClampNeg = 2 := by decide
  by_cases c : (2 : Int32) < Int32.ofNat n
  · have c' : 2 < n := (own_n_lt 2 n (by decide) (by omega)).mp c
    have q : O3 (Int32.ofNat n) (2 : Int32) 5 W ∧ G 2 = F3 (Int32.ofNat n) (2 : Int32) 5 W := h 2 c'
    have v : G (2 : Int32).toNatClampNeg = F3 (Int32.ofNat n) (2 : Int32) 5 W := by rw [ek]; exact q.2
    have hb : inb (2 : Int32) n := own_n_inb 2 n c' (by omega)
    exact ⟨⟨fun _ => ⟨hb, q.1, fun _ => t'.1, fun z => absurd v z⟩, fun z => absurd c z⟩, (if_pos c).trans ((if_pos v).trans t'.2)⟩
  · exact ⟨⟨fun z => absurd z c, fun _ => t'.1⟩, (if_neg c).trans t'.2⟩
theorem own_s1 (W G : Nat → Int32) (n : Nat) (hn : n ≤ 5) (h : ∀ s, s < n → O3 (Int32.ofNat n) (Int32.ofNat s) 5 W ∧ G s = F3 (Int32.ofNat n) (Int32.ofNat s) 5 W) : O0_165 16 W n G (Int32.ofNat n) ∧ F0_165 16 W n G (Int32.ofNat n) = 1 := by
  have t := own_s2 W G n hn h
  have t' : O0_186 16 W n G (Int32.ofNat n) ∧ F0_186 16 W n G (Int32.ofNat n) = 1 := ⟨⟨fun z => absurd z (by decide), fun _ => t.1⟩, by simp only [F0_186, F0_191]; rw [if_neg (by decide)]; exact t.2⟩
  have ek : (1 : Int32).toNatClampNeg = 1 := by decide
  by_cases c : (1 : Int32) < Int32.ofNat n
  · have c' : 1 < n := (own_n_lt 1 n (by decide) (by omega)).mp c
    have q : O3 (Int32.ofNat n) (1 : Int32) 5 W ∧ G 1 = F3 (Int32.ofNat n) (1 : Int32) 5 W := h 1 c'
    have v : G (1 : Int32).toNatClampNeg = F3 (Int32.ofNat n) (1 : Int32) 5 W := by rw [ek]; exact q.2
    have hb : inb (1 : Int32) n := own_n_inb 1 n c' (by omega)
    exact ⟨⟨fun _ => ⟨hb, q.1, fun _ => t'.1, fun z => absurd v z⟩, fun z => absurd c z⟩, (if_pos c).trans ((if_pos v).trans t'.2)⟩
  · exact ⟨⟨fun z => absurd z c, fun _ => t'.1⟩, (if_neg c).trans t'.2⟩
theorem own_s0 (W G : Nat → Int32) (n : Nat) (hn : n ≤ 5) (h : ∀ s, s < n → O3 (Int32.ofNat n) (Int32.ofNat s) 5 W ∧ G s = F3 (Int32.ofNat n) (Int32.ofNat s) 5 W) : O0_133 16 W n G (Int32.ofNat n) ∧ F0_133 16 W n G (Int32.ofNat n) = 1 := by
  have t := own_s1 W G n hn h
  have t' : O0_153 16 W n G (Int32.ofNat n) ∧ F0_153 16 W n G (Int32.ofNat n) = 1 := ⟨⟨fun z => absurd z (by decide), fun _ => t.1⟩, by simp only [F0_153, F0_158]; rw [if_neg (by decide)]; exact t.2⟩
  have ek : (0 : Int32).toNatClampNeg = 0 := by decide
  by_cases c : (0 : Int32) < Int32.ofNat n
  · have c' : 0 < n := (own_n_lt 0 n (by decide) (by omega)).mp c
    have q : O3 (Int32.ofNat n) (0 : Int32) 5 W ∧ G 0 = F3 (Int32.ofNat n) (0 : Int32) 5 W := h 0 c'
    have v : G (0 : Int32).toNatClampNeg = F3 (Int32.ofNat n) (0 : Int32) 5 W := by rw [ek]; exact q.2
    have hb : inb (0 : Int32) n := own_n_inb 0 n c' (by omega)
    exact ⟨⟨fun _ => ⟨hb, q.1, fun _ => t'.1, fun z => absurd v z⟩, fun z => absurd c z⟩, (if_pos c).trans ((if_pos v).trans t'.2)⟩
  · exact ⟨⟨fun z => absurd z c, fun _ => t'.1⟩, (if_neg c).trans t'.2⟩
theorem own_106 (f W : Nat → Int32) (w : Nat → Nat) (n : Nat) (hn : n ≤ 5) (hw : ∀ t, t < 5 → w t ≤ 11) (hf : ∀ t, t < 5 → f t = Int32.ofNat (w t)) (hg : ∀ t, t < 5 → W t = Int32.ofNat (w t)) :
    O0_106 16 f W (Int32.ofNat n) ∧ F0_106 16 f W (Int32.ofNat n) = 1 := by
  obtain ⟨o, v⟩ := own_F2 f w n hn hw hf
  have t := own_s0 W (own_G w (own_D (own_C w n) 11) n) n hn fun s hs => own_F3 W w n s hn hs hw hg
  have c : Nat.toInt32 (F2 16 (Int32.ofNat n) 5 f).1 = Int32.ofNat n := by rw [v]
  have t' : O0_125 16 W (F2 16 (Int32.ofNat n) 5 f).1 (F2 16 (Int32.ofNat n) 5 f).2 (Int32.ofNat n) ∧ F0_125 16 W (F2 16 (Int32.ofNat n) 5 f).1 (F2 16 (Int32.ofNat n) 5 f).2 (Int32.ofNat n) = 1 := by
    rw [v]
    exact ⟨⟨fun z => absurd z (by decide), fun _ => t.1⟩, (if_neg (by decide)).trans t.2⟩
  exact ⟨⟨o, fun _ => t'.1, fun z => absurd c z⟩, (if_pos c).trans t'.2⟩
theorem own_wt (x : Int32) : ∃ n : Nat, n ≤ 11 ∧ F1 x = Int32.ofNat n ∧ nar .byte ((F1 x).toInt8.toInt32) = Int32.ofNat n := by
  have h := own_pos_mod x 12 (by decide)
  have e : (12 : Int32).toInt = 12 := rfl
  obtain ⟨n, n1, en, n2⟩ := own_n_ex _ h.1
  refine ⟨n, by omega, en, ?_⟩
  have e2 : F1 x = Int32.ofNat n := en
  rw [e2]
  have k : ∀ m : Fin 12, nar .byte ((Int32.ofNat m.val).toInt8.toInt32) = Int32.ofNat m.val := by decide +kernel
  exact k ⟨n, by omega⟩
theorem own_un {P : Nat → Int32 → Prop} {f : Nat → Int32} {k : Nat} {v : Int32} (h : ∀ i, i < k → P i (f i)) (hv : P k v) : ∀ i, i < k + 1 → P i (upd f k v i) := by
  intro i hi
  show P i (if i = k then v else f i)
  by_cases q : i = k
  · rw [if_pos q, q]; exact hv
  · rw [if_neg q]; exact h i (by omega)
theorem own_law (i0 : Int32) (i1 : Int32) (i2 : Int32) (i3 : Int32) (i4 : Int32) (i5 : Int32) : ∃ K, O0 K i0 i1 i2 i3 i4 i5 ∧ F0 K i0 i1 i2 i3 i4 i5 = 1 := by
  refine ⟨16, ?_⟩
  have e6 : (6 : Int32).toInt = 6 := rfl
  have hn := own_pos_mod i5 6 (by decide)
  obtain ⟨n, n1, en, n2⟩ := own_n_ex _ hn.1
  obtain ⟨a, a1, a2, a3⟩ := own_wt i0
  obtain ⟨b, b1, b2, b3⟩ := own_wt i1
  obtain ⟨c, c1, c2, c3⟩ := own_wt i2
  obtain ⟨d, d1, d2, d3⟩ := own_wt i3
  obtain ⟨e, g1, g2, g3⟩ := own_wt i4
  let w : Nat → Nat := fun t => if t = 0 then a else if t = 1 then b else if t = 2 then c else if t = 3 then d else e
  have hw : ∀ t, t < 5 → w t ≤ 11 := by
    intro t _
    simp only [w]
    repeat' split
    all_goals assumption
  simp only [O0, F0, O0_10, F0_10, O0_16, F0_16, O0_22, F0_22, O0_28, F0_28, O0_34, F0_34, en]
  refine own_106 _ _ w n (by omega) hw ?_ ?_
  · exact (own_un (P := fun i x => x = Int32.ofNat (w i)) (own_un (P := fun i x => x = Int32.ofNat (w i)) (own_un (P := fun i x => x = Int32.ofNat (w i)) (own_un (P := fun i x => x = Int32.ofNat (w i)) (own_un (P := fun i x => x = Int32.ofNat (w i)) (fun i z => absurd z (Nat.not_lt_zero i)) a3) b3) c3) d3) g3 : ∀ i, i < 5 → _)
  · exact (own_un (P := fun i x => x = Int32.ofNat (w i)) (own_un (P := fun i x => x = Int32.ofNat (w i)) (own_un (P := fun i x => x = Int32.ofNat (w i)) (own_un (P := fun i x => x = Int32.ofNat (w i)) (own_un (P := fun i x => x = Int32.ofNat (w i)) (fun i z => absurd z (Nat.not_lt_zero i)) a2) b2) c2) d2) g2 : ∀ i, i < 5 → _)
set_option maxRecDepth 65536 in
set_option maxHeartbeats 40000000 in
theorem comes_1 {Post : Tables → Env → Array Value → State → Outcome → State → Prop} (hpost : ∀ tb e args s v u, (limb_1_1.after args s (.returned v) u = true ∧ limb_1_2.after args s (.returned v) u = true ∧ True) → FrameEnd s (.returned v) u (Jvm.fieldLocs frame_1_writes args s ++ Jvm.arrayLocs frame_1_arrays args s ++ Jvm.staticLocs frame_1_statics s) 16 128 → Post tb e args s (.returned v) u) :
    ArmFor flags0 classFile x code maxLocals ret World_1 tables_1 room_1 Calls_1 rest_1 Pre_1 Post := by
  intro l hfl _ _ p e ha hc hk s m args below hf hA hF happ hP
  obtain ⟨hcalls, hrest, hpre⟩ := hP
  obtain ⟨-, -, -, hnamed, -, -, -, hat⟩ := (Spec.applies_iff hf).mp happ
  obtain ⟨hg, hn⟩ := and_e (Cond.before_iff.mp (show (Jvm.Cond.and given_1 narrow_1).before args s = true from hpre))
  obtain ⟨h1, r0⟩ := and_e hg
  obtain ⟨k0, r1⟩ := and_e r0
  obtain ⟨k1, r2⟩ := and_e r1
  obtain ⟨k2, r3⟩ := and_e r2
  obtain ⟨k3, r4⟩ := and_e r3
  obtain ⟨k4, r5⟩ := and_e r4
  obtain ⟨w0, w1, w2, w3, w4, w5, rfl⟩ : ∃ w0 w1 w2 w3 w4 w5 : Value, args = #[w0, w1, w2, w3, w4, w5] := by
    have hs : args.size = 6 := by simpa [Cond.value, given_1] using h1
    obtain ⟨L⟩ := args
    match L, hs with
    | [w0, w1, w2, w3, w4, w5], _ => exact ⟨w0, w1, w2, w3, w4, w5, rfl⟩
  have hw := fun d (hd : d ∈ tables_1) => atoms_spec (ws := Jvm.Cond.code x code maxLocals ret :: tables_1) hat d (List.mem_cons_of_mem _ hd)
  obtain ⟨i0, e0⟩ := is_v k0
  obtain rfl : w0 = (.int i0) := Option.some.inj e0
  obtain ⟨i1, e1⟩ := is_v k1
  obtain rfl : w1 = (.int i1) := Option.some.inj e1
  obtain ⟨i2, e2⟩ := is_v k2
  obtain rfl : w2 = (.int i2) := Option.some.inj e2
  obtain ⟨i3, e3⟩ := is_v k3
  obtain rfl : w3 = (.int i3) := Option.some.inj e3
  obtain ⟨i4, e4⟩ := is_v k4
  obtain rfl : w4 = (.int i4) := Option.some.inj e4
  obtain ⟨i5, e5⟩ := is_v r5
  obtain rfl : w5 = (.int i5) := Option.some.inj e5
  obtain ⟨K, ok, val⟩ := own_law i0 i1 i2 i3 i4 i5
  obtain ⟨n, o, h1, h2, h3, _, L, rfl, ⟨rfl, N⟩, hq⟩ := rm0 l s _ hw K i0 i1 i2 i3 i4 i5 s.heap s.heap.size (Nat.le_refl _) ok p e ha hc hk s m _ below hf ((Spec.applies_iff_loose hf).mp happ).1 ⟨rfl, State.Warmed39.refl s, rfl⟩ trivial
  refine ⟨n, _, h1, h2, h3, hpost _ _ _ _ _ _ ⟨Cond.after_iff.mpr rfl, Cond.after_iff.mpr (eq_i res_at (Term.int_eval (1)) (by rw [val])), trivial⟩ ⟨hq.1, hq.2.1, (hq.2.2.sift fun y hy => Or.inr (N y hy)).mono (by decide) (by decide)⟩⟩
theorem main_1_1 : Claimed_1_1 := comes_1 fun _ _ _ _ _ _ h hF => ⟨h.1, hF⟩
theorem main_1_2 : Claimed_1_2 := comes_1 fun _ _ _ _ _ _ h hF => ⟨h.2.1, hF⟩
end Jvm.Pilot.@@N@@
namespace Jvm.Pilot.@@N@@
open Jvm Jvm.ClassFile Sem Op Lib Jvm.Free Jvm.Stand Jvm.Pilot.@@N@@.Jvm.D
/-! MADE BY PROGRAM (witnessworld.py) out of the Statement's table words and the real class files: 9 classes; the members and pool entries that the words name. The judged class is class 1, her method 1. -/
namespace start1
open Jvm.ClassFile
def u (s : String) : CpInfo := .utf8 (stringToUtf16 s)
/-- a pool by its gaps: so many unusable entries, then the entry; so many at the end -/
def gap : Nat → List CpInfo → List CpInfo
  | 0, r => r
  | n + 1, r => .unusable :: gap n r
def poolList (es : List (Nat × CpInfo)) (last : Nat) : List CpInfo := es.foldr (fun e r => gap e.1 (e.2 :: r)) (gap last [])
def pool (es : List (Nat × CpInfo)) (last : Nat) : Array CpInfo := ⟨poolList es last⟩
def fileOf (pool : Array CpInfo) (this : Nat) (attrs : Array Attribute := #[]) (ms : Array MethodInfo := #[]) (fl : Nat := 33) (sup : Nat := 0) (ifs : Array Nat := #[]) (fds : Array FieldInfo := #[]) : ClassFile where
  minorVersion := 0
  majorVersion := 65
  constantPool := pool
  accessFlags := fl
  thisClass := this
  superClass := sup
  interfaces := ifs
  fields := fds
  methods := ms
  attributes := attrs
def plain (name : String) (sup : Option ClassId) : Class where
  name := name
  kind := .ordinary
  loader := none
  accessFlags := 33
  super := sup
  interfaces := #[]
  cf := none
  fields := #[]
  methods := #[]
  instanceTypes := #[]
  staticTypes := #[]
  resolved := #[]
  callSites := []
  init := .initialized
  statics := none
  mirror := none

def pool0 : Array CpInfo := pool [(5, u "<init>"), (0, u "()V"), (1, .class_ 10), (1, u "java/lang/Object")] 113

def k0m0 : Method := { name := "<init>", desc := "()V", sig := { parameters := [], returnType := none }, accessFlags := 1, code := none }
/-- java/lang/Object -/
def k0 : Class := { plain "java/lang/Object" none with
  accessFlags := 33
  interfaces := #[]
  cf := some (fileOf pool0 8 #[] #[{ accessFlags := 1, nameIndex := 5, descriptorIndex := 6, attributes := #[] }] 33 0 #[] #[])
  fields := #[]
  methods := #[k0m0]
  instanceTypes := #[]
  staticTypes := #[]
  resolved := Array.replicate 124 none
  statics := none }

def pool1 : Array CpInfo := pool [(2, .class_ 4), (1, u "java/lang/Object"), (0, u "<init>"), (0, u "()V"), (0, .integer 2147483647), (0, .methodref 9 10), (0, .class_ 11), (0, .nameAndType 12 13), (0, u "lakewright/zstd/HuffmanTableFirstEntriesPinLaw"), (0, u "wt"), (0, u "(I)I"), (0, .methodref 15 16), (0, .class_ 17), (0, .nameAndType 18 19), (0, u "lakewright/zstd/HuffmanTable"), (0, u "firstEntries"), (0, u "([BI)[I"), (0, .methodref 9 21), (0, .nameAndType 22 23), (0, u "expected"), (0, u "([III)I"), (0, .methodref 9 25), (0, .nameAndType 26 27), (0, u "part"), (0, u "([IIII)I"), (2, u "law"), (0, u "(IIIIII)Z")] 7

def k1m0 : Method := { name := "<init>", desc := "()V", sig := { parameters := [], returnType := none }, accessFlags := 1, code := none }
def k1c1 : Code := { maxStack := 4, maxLocals := 16, code := code, exceptionTable := #[], attributes := #[] }
def k1m1 : Method := { name := "law", desc := "(IIIIII)Z", sig := { parameters := [.int, .int, .int, .int, .int, .int], returnType := some .boolean }, accessFlags := 9, code := some k1c1 }
def k1c2 : Code := { maxStack := 2, maxLocals := 1, code := method_3_code, exceptionTable := #[], attributes := #[] }
def k1m2 : Method := { name := "wt", desc := "(I)I", sig := { parameters := [.int], returnType := some .int }, accessFlags := 10, code := some k1c2 }
def k1c3 : Code := { maxStack := 5, maxLocals := 3, code := method_4_code, exceptionTable := #[], attributes := #[] }
def k1m3 : Method := { name := "expected", desc := "([III)I", sig := { parameters := [(.array .int), .int, .int], returnType := some .int }, accessFlags := 10, code := some k1c3 }
def k1c4 : Code := { maxStack := 3, maxLocals := 5, code := method_5_code, exceptionTable := #[], attributes := #[] }
def k1m4 : Method := { name := "part", desc := "([IIII)I", sig := { parameters := [(.array .int), .int, .int, .int], returnType := some .int }, accessFlags := 10, code := some k1c4 }
/-- lakewright/zstd/HuffmanTableFirstEntriesPinLaw -/
def k1 : Class := { plain "lakewright/zstd/HuffmanTableFirstEntriesPinLaw" (some 0) with
  accessFlags := 49
  interfaces := #[]
  cf := some (fileOf pool1 9 #[] #[{ accessFlags := 1, nameIndex := 5, descriptorIndex := 6, attributes := #[] }, { accessFlags := 9, nameIndex := 30, descriptorIndex := 31, attributes := #[] }, { accessFlags := 10, nameIndex := 12, descriptorIndex := 13, attributes := #[] }, { accessFlags := 10, nameIndex := 22, descriptorIndex := 23, attributes := #[] }, { accessFlags := 10, nameIndex := 26, descriptorIndex := 27, attributes := #[] }] 49 2 #[] #[])
  fields := #[]
  methods := #[k1m0, k1m1, k1m2, k1m3, k1m4]
  instanceTypes := #[]
  staticTypes := #[]
  resolved := Array.replicate 39 none
  statics := none }

def pool2 : Array CpInfo := pool [(2, .class_ 4), (1, u "java/lang/Object"), (3, .class_ 10), (1, u "lakewright/zstd/HuffmanTable"), (0, u "entries"), (0, u "[S"), (2, u "maxBits"), (0, u "I"), (2, u "formLength"), (80, u "firstEntries"), (0, u "([BI)[I"), (30, u "MAX_BITS"), (2, u "MAX_LISTED"), (1, u "WEIGHTS_MAX_LOG")] 30

def k2c0 : Code := { maxStack := 6, maxLocals := 6, code := prog_106_method_3_code, exceptionTable := #[], attributes := #[] }
def k2m0 : Method := { name := "firstEntries", desc := "([BI)[I", sig := { parameters := [(.array .byte), .int], returnType := some (.array .int) }, accessFlags := 8, code := some k2c0 }
/-- lakewright/zstd/HuffmanTable -/
def k2 : Class := { plain "lakewright/zstd/HuffmanTable" (some 0) with
  accessFlags := 48
  interfaces := #[]
  cf := some (fileOf pool2 8 #[] #[{ accessFlags := 8, nameIndex := 100, descriptorIndex := 101, attributes := #[] }] 48 2 #[] #[{ accessFlags := 24, nameIndex := 132, descriptorIndex := 16, attributes := #[] }, { accessFlags := 26, nameIndex := 135, descriptorIndex := 16, attributes := #[] }, { accessFlags := 24, nameIndex := 137, descriptorIndex := 16, attributes := #[] }, { accessFlags := 18, nameIndex := 11, descriptorIndex := 12, attributes := #[] }, { accessFlags := 18, nameIndex := 15, descriptorIndex := 16, attributes := #[] }, { accessFlags := 18, nameIndex := 19, descriptorIndex := 16, attributes := #[] }])
  fields := #[{ name := "MAX_BITS", type := .int, accessFlags := 24, slot := 0, constantValue := 0 }, { name := "MAX_LISTED", type := .int, accessFlags := 26, slot := 1, constantValue := 0 }, { name := "WEIGHTS_MAX_LOG", type := .int, accessFlags := 24, slot := 2, constantValue := 0 }, { name := "entries", type := (.array .short), accessFlags := 18, slot := 0, constantValue := 0 }, { name := "maxBits", type := .int, accessFlags := 18, slot := 1, constantValue := 0 }, { name := "formLength", type := .int, accessFlags := 18, slot := 2, constantValue := 0 }]
  methods := #[k2m0]
  instanceTypes := #[(.array .short), .int, .int]
  staticTypes := #[.int, .int, .int]
  resolved := Array.replicate 168 none
  statics := none }

def pool3 : Array CpInfo := pool [(1, u "java/lang/Cloneable"), (0, .class_ 1), (0, u "java/lang/Object"), (0, .class_ 3)] 3

/-- java/lang/Cloneable -/
def k3 : Class := { plain "java/lang/Cloneable" (some 0) with
  accessFlags := 1537
  interfaces := #[]
  cf := some (fileOf pool3 2 #[] #[] 1537 4 #[] #[])
  fields := #[]
  methods := #[]
  instanceTypes := #[]
  staticTypes := #[]
  resolved := Array.replicate 8 none
  statics := none }

def pool4 : Array CpInfo := pool [(1, u "java/io/Serializable"), (0, .class_ 1), (0, u "java/lang/Object"), (0, .class_ 3)] 3

/-- java/io/Serializable -/
def k4 : Class := { plain "java/io/Serializable" (some 0) with
  accessFlags := 1537
  interfaces := #[]
  cf := some (fileOf pool4 2 #[] #[] 1537 4 #[] #[])
  fields := #[]
  methods := #[]
  instanceTypes := #[]
  staticTypes := #[]
  resolved := Array.replicate 8 none
  statics := none }

/-- the primitive byte -/
def k5 : Class := { plain "byte" none with kind := .primitive 'B', accessFlags := 0x411 }
/-- [B -/
def k6 : Class := { plain "[B" (some 0) with kind := .array 5 .byte, interfaces := #[3, 4], accessFlags := 1041 }

/-- the primitive int -/
def k7 : Class := { plain "int" none with kind := .primitive 'I', accessFlags := 0x411 }
/-- [I -/
def k8 : Class := { plain "[I" (some 0) with kind := .array 7 .int, interfaces := #[3, 4], accessFlags := 1041 }

def heap : Heap := #[]
def classes : Array Class := #[k0, k1, k2, k3, k4, k5, k6, k7, k8]
def interned : List (Array UInt16 × Addr) := []
def slotsUsed : Nat := 0
def theMethod : MethodId := ⟨1, 1⟩
def args0 : Array Value := #[.int 5, .int 7, .int 3, .int 2, .int 9, .int 4]
def aboutOver (below : List Frame) : State where
  vm := { classes := classes, interned := interned.toArray }
  heap := heap
  slotsUsed := slotsUsed
  threads := #[{ frames := .invoking theMethod args0 :: below }]
def below0 : List Frame := [.native { method := ⟨0, 0⟩, args := #[] }]
def about1 : State := aboutOver below0
def p0 : Program := .bare "" "" ""
def e0 : Env := launch0.env 0 0 0
theorem w_frames : about1.frames = Frame.invoking theMethod args0 :: below0 := rfl
set_option maxRecDepth 65536 in
theorem w_args : argsFit about1.vm theMethod args0 = true := by decide +kernel
set_option maxRecDepth 65536 in
theorem w_heap : heapFits about1 = true := by decide +kernel
set_option maxRecDepth 65536 in
theorem w_runnable : about1.curStatus? = some .runnable := by decide +kernel
set_option maxRecDepth 65536 in
theorem w_alone : about1.alone = true := by decide +kernel
set_option maxRecDepth 65536 in
theorem w_named : about1.methodNamed? x = some theMethod := by decide +kernel
set_option maxRecDepth 65536 in
theorem w_hears : about1.hears theMethod below0 = true := by decide +kernel
set_option maxRecDepth 65536 in
theorem w_ripe : about1.ripe theMethod args0 below0 = true := by decide +kernel
theorem w_running : about1.status = .running := rfl
set_option maxRecDepth 65536 in
theorem w_room : about1.hasRoom e0.platform room_1 = true :=
  launch0.hasRoom_least _ room_1 (by decide +kernel) (by decide +kernel) (by decide +kernel) (by decide +kernel) (by decide +kernel) (by decide +kernel)
theorem allAtoms_all (ts : List Jvm.Cond) (a : Array Jvm.Value) (st : Jvm.State) : (allAtoms ts).before a st = ts.all (fun c => c.before a st) := by
  induction ts with
  | nil => rfl
  | cons c t ih =>
    show (Jvm.Cond.and c (allAtoms t)).before a st = _
    rw [Jvm.Cond.before_and, ih, List.all_cons]
def words1 : List Jvm.Cond := Jvm.Cond.code x code maxLocals ret :: tables_1
/-- a 'code' word, met by the world's own term for the bytes: nothing is compared byte by byte -/
theorem code_word {y : MethodName} {bytes : ByteArray} {mx : Nat} {rt : Option FieldType} {a : Array Value} {s : State} {m : MethodId} {meth : Method} {c : Code} (h1 : s.methodNamed? y = some m) (h2 : s.vm.method? m = some meth) (h3 : meth.code = some c) (h4 : c.code = bytes)
    (h5 : (c.maxLocals == mx && c.exceptionTable.isEmpty && decide (c.maxStack ≤ mostOperands) && decide (meth.sig.returnType = rt) && !meth.locks && decide (parseMethodDescriptor y.desc = some meth.sig)) = true) : (Jvm.Cond.code y bytes mx rt).before a s = true := by
  simp only [Bool.and_eq_true, beq_iff_eq, Bool.not_eq_true', decide_eq_true_eq] at h5
  obtain ⟨⟨⟨⟨⟨g1, g2⟩, g3⟩, g4⟩, g5⟩, g6⟩ := h5
  simp [Cond.before, Cond.holds, Cond.value, h1, h2, h3, h4, g1, g2, g3, g4, g5, g6]
def isCode : Jvm.Cond → Bool
  | .code _ _ _ _ => true
  | _ => false
theorem all_split {L : List Jvm.Cond} {P : Jvm.Cond → Bool} (h1 : L.all (fun c => isCode c || P c) = true) (h2 : ∀ c ∈ L.filter isCode, P c = true) : L.all P = true := by
  refine List.all_eq_true.mpr fun c hc => ?_
  have h := List.all_eq_true.mp h1 c hc
  rcases Bool.eq_false_or_eq_true (isCode c) with hi | hi
  · exact h2 c (List.mem_filter.mpr ⟨hc, hi⟩)
  · simpa [hi] using h
set_option maxRecDepth 65536 in
theorem w_c0 : (Jvm.Cond.code x code maxLocals ret).before args0 about1 = true := code_word (m := ⟨1, 1⟩) (meth := k1m1) (c := k1c1) (by decide +kernel) rfl rfl rfl (by decide +kernel)
set_option maxRecDepth 65536 in
theorem w_c1 : (Jvm.Cond.code ({ cls := "lakewright/zstd/HuffmanTableFirstEntriesPinLaw", name := "wt", desc := "(I)I" } : Jvm.MethodName) method_3_code (1 : Nat) (Option.some Jvm.ClassFile.FieldType.int)).before args0 about1 = true := code_word (m := ⟨1, 2⟩) (meth := k1m2) (c := k1c2) (by decide +kernel) rfl rfl rfl (by decide +kernel)
set_option maxRecDepth 65536 in
theorem w_c2 : (Jvm.Cond.code ({ cls := "lakewright/zstd/HuffmanTable", name := "firstEntries", desc := "([BI)[I" } : Jvm.MethodName) prog_106_method_3_code (6 : Nat) (Option.some (Jvm.ClassFile.FieldType.array Jvm.ClassFile.FieldType.int))).before args0 about1 = true := code_word (m := ⟨2, 0⟩) (meth := k2m0) (c := k2c0) (by decide +kernel) rfl rfl rfl (by decide +kernel)
set_option maxRecDepth 65536 in
theorem w_c3 : (Jvm.Cond.code ({ cls := "lakewright/zstd/HuffmanTableFirstEntriesPinLaw", name := "expected", desc := "([III)I" } : Jvm.MethodName) method_4_code (3 : Nat) (Option.some Jvm.ClassFile.FieldType.int)).before args0 about1 = true := code_word (m := ⟨1, 3⟩) (meth := k1m3) (c := k1c3) (by decide +kernel) rfl rfl rfl (by decide +kernel)
set_option maxRecDepth 65536 in
theorem w_c4 : (Jvm.Cond.code ({ cls := "lakewright/zstd/HuffmanTableFirstEntriesPinLaw", name := "part", desc := "([IIII)I" } : Jvm.MethodName) method_5_code (5 : Nat) (Option.some Jvm.ClassFile.FieldType.int)).before args0 about1 = true := code_word (m := ⟨1, 4⟩) (meth := k1m4) (c := k1c4) (by decide +kernel) rfl rfl rfl (by decide +kernel)
def codes1 : List Jvm.Cond := [Jvm.Cond.code x code maxLocals ret, Jvm.Cond.code ({ cls := "lakewright/zstd/HuffmanTableFirstEntriesPinLaw", name := "wt", desc := "(I)I" } : Jvm.MethodName) method_3_code (1 : Nat) (Option.some Jvm.ClassFile.FieldType.int), Jvm.Cond.code ({ cls := "lakewright/zstd/HuffmanTable", name := "firstEntries", desc := "([BI)[I" } : Jvm.MethodName) prog_106_method_3_code (6 : Nat) (Option.some (Jvm.ClassFile.FieldType.array Jvm.ClassFile.FieldType.int)), Jvm.Cond.code ({ cls := "lakewright/zstd/HuffmanTableFirstEntriesPinLaw", name := "expected", desc := "([III)I" } : Jvm.MethodName) method_4_code (3 : Nat) (Option.some Jvm.ClassFile.FieldType.int), Jvm.Cond.code ({ cls := "lakewright/zstd/HuffmanTableFirstEntriesPinLaw", name := "part", desc := "([IIII)I" } : Jvm.MethodName) method_5_code (5 : Nat) (Option.some Jvm.ClassFile.FieldType.int)]
set_option maxRecDepth 65536 in
theorem codes_eq : words1.filter isCode = codes1 := rfl
theorem w_codes : ∀ c ∈ words1.filter isCode, c.before args0 about1 = true := by
  rw [codes_eq]
  intro c hc
  simp only [codes1, List.mem_cons, List.not_mem_nil, or_false] at hc
  rcases hc with rfl | rfl | rfl | rfl | rfl
  · exact w_c0
  · exact w_c1
  · exact w_c2
  · exact w_c3
  · exact w_c4
set_option maxRecDepth 65536 in
theorem w_t1 : words1.all (fun c => isCode c || c.before args0 about1) = true := by decide +kernel
theorem w_tables : (allAtoms (Jvm.Cond.code x code maxLocals ret :: tables_1)).before args0 about1 = true := by
  rw [allAtoms_all]
  show words1.all (fun c => c.before args0 about1) = true
  refine all_split ?_ w_codes
  rw [w_t1]
set_option maxRecDepth 65536 in
theorem w_case : (Jvm.Cond.and given_1 narrow_1).before args0 about1 = true := by decide +kernel
theorem w_applies : (headSpec (Jvm.Cond.code x code maxLocals ret :: tables_1) room_1).applies x e0.platform about1 = true :=
  (Spec.applies_iff w_frames).mpr ⟨w_running, w_runnable, w_alone, w_named, w_hears, w_ripe, w_room, w_tables⟩
theorem atStart : AtStart classFile x code maxLocals ret World_1 tables_1 room_1 Calls_1 rest_1 Pre_1 launch0 p0 e0 about1 theMethod args0 below0 :=
  ⟨lists_1, trivial, launch0.admits_env _ _ _, launch0.least_env, fairChoices_fair.cas, fairChoices_fair.clock, w_frames, w_args, w_heap, w_applies, trivial, trivial, w_case⟩
end start1
theorem witness_1 : WitnessClaimed_1 := ⟨start1.p0, start1.e0, start1.about1, start1.theMethod, start1.args0, start1.below0, start1.atStart⟩
end Jvm.Pilot.@@N@@
