import JvmDerived
import JvmDerived.Pilot.@@N@@Statement
import JvmDerived.Pilot.@@N@@Code
set_option linter.unusedVariables false
set_option linter.unusedSimpArgs false
namespace Jvm.RoadKit
open Sem ClassFile Op Lib Jvm.Stand Jvm.Free Jvm.LawKit
section New
variable {p : Program} {l : Launch} {e : Env} {R : Room} {s : State} {m : MethodId} {args : Array Value} {below : List Frame} {meth : Method} {c : Code} {T : State} {locs : List Loc} {cells slots : Nat}
theorem retI (X : Stand p l e R s m args below meth c T locs cells slots) (hx : p.tables.exec = Jvm.exec) {pc : Nat} {Ls : Array Slot} {z : Int32} {rest : List Value} (hret : meth.sig.returnType = some .int) (hd : decode c.code pc = .ok (.ireturn, 1)) {fs : List Frame}
    (hl : ∀ (f : JFrame) (acts : List Action), f.method = m → f.locked = none → f.entered = [] → (doReturn e (T.setTop f) acts (some (.int z))).1 = T.setFrames fs) : Steps p.tables e below (T.setTop (mkF m pc Ls (.int z :: rest))) (T.setFrames fs) := by
  have hm' : T.vm.method? m = some meth := X.method'
  have hn : narrow .int (.int z) = .int z := rfl
  show Steps p.tables e below (T.setTop { method := m, pc := pc, locals := Ls, stack := _ :: rest, locked := none }) _
  jvm_step X.here [X.here.top, hx, hd, hm', hret, hn]
  first | (intro acts; rw [hl _ acts rfl rfl rfl]) | rw [hl _ _ rfl rfl rfl]
  exact Steps.refl _
end New
end Jvm.RoadKit
namespace Jvm.Pilot.@@N@@
open Jvm Jvm.ClassFile Sem Op Lib Jvm.Free Jvm.Stand Jvm.LawKit Jvm.RoadKit Bundle Jvm.Pilot.@@N@@.Jvm.D
/-! ### the frame of this text: 'Ends': the run from u ends in a return that Q says -/
section OwnFrame
variable {p : Program} {l : Launch} {e : Env} {R : Room} {s : State} {m : MethodId} {args : Array Value} {below : List Frame} {meth : Method} {c : Code} {T : State} {locs : List Loc} {cells slots cs ss : Nat} {Z : State} {a0 : Array Value} {h h' : Heap} {Q : Option Value → Heap → List Loc → Prop} {u u' : State}
def Ends (p : Program) (e : Env) (below : List Frame) (s : State) (cs ss : Nat) (Q : Option Value → Heap → List Loc → Prop) (u : State) : Prop :=
  ∃ t v L, Steps p.tables e below u t ∧ t.status = .running ∧ Ended t below (.returned v) ∧ Q v t.heap L ∧ s.WarmedH t.vm ∧ s.sameButNew ({ t with vm := s.vm } : State) L cs ss
theorem Ends.step (h : Ends p e below s cs ss Q u') (k : ∀ t, Steps p.tables e below u' t → Steps p.tables e below u t) : Ends p e below s cs ss Q u := by
  obtain ⟨t, v, L, h1, r⟩ := h; exact ⟨t, v, L, k t h1, r⟩
theorem Ends.ret (X : Stand p l e R s m args below meth c T locs cells slots) {v : Option Value} (hv : meth.sig.returnType = none → v = none) (hlk : meth.locks = false)
    (k : ∀ fs, (∀ (f : JFrame) (acts : List Action), f.method = m → f.locked = none → f.entered = [] → (doReturn e (T.setTop f) acts v).1 = T.setFrames fs) → Steps p.tables e below u (T.setFrames fs))
    (hc : cells ≤ cs) (hs : slots ≤ ss) (hq : Q v T.heap locs) : Ends p e below s cs ss Q u := by
  obtain ⟨fs, hr, hrun, hended, hW, hsame⟩ := X.leave (v := v) hv hlk
  exact ⟨T.setFrames fs, v, locs, k fs hr, hrun, hended, hq, hW, hsame.mono hc hs⟩
/-- what a body promises -/
abbrev Meets (l : Launch) (Z : State) (y : MethodName) (bytes : ByteArray) (maxL : Nat) (ret : Option FieldType) (ws : List Jvm.Cond) (rm : Room) (as' : Array Value) (h : Heap) (Q : Option Value → Heap → List Loc → Prop) (cs ss : Nat) : Prop :=
  MetFree l y (head1 (Jvm.Cond.code y bytes maxL ret :: ws) rm) (fun a U => a = as' ∧ Z.Warmed39 U.vm ∧ U.heap = h) (fun _ _ _ _ _ => True) (fun _ U o U' => ∃ v L, o = .returned v ∧ Q v U'.heap L ∧ FrameEnd U o U' L cs ss)
theorem Meets.of {y : MethodName} {bytes : ByteArray} {maxL : Nat} {ret : Option FieldType} {ws : List Jvm.Cond} {rm : Room} {as' : Array Value} (pn : plainFor y = true)
    (k : ∀ (p : Program) (e : Env) (s : State) (m : MethodId) (below : List Frame) (meth : Method) (c : Code) (s₁ : State), p.tables.exec = Jvm.exec → c.code = bytes → c.maxLocals = maxL → Z.Warmed39 s.vm → s.vm.findClass y.cls = some m.cls → meth.name = y.name → meth.sig.returnType = ret → meth.locks = false →
      Stand p l e rm s m as' below meth c s₁ [] 0 0 → s₁.heap = h → Ends p e below s cs ss Q (s₁.setTop (entryFrame m as' maxL))) : Meets l Z y bytes maxL ret ws rm as' h Q cs ss := by
  refine MetFree.of_bodySF pn hisR ?_
  intro p e s m args below meth c s₁ Bd hml0 hP hK
  obtain ⟨rfl, hZ, hh⟩ := hP
  obtain ⟨t, v, L, h1, h2, h3, h4, h5, h6⟩ := k p e s m below meth c s₁ Bd.exec Bd.bytes hml0 hZ (findClass_of_methodNamed Bd.named) (name_of_methodNamed Bd.named Bd.method).1 Bd.returns (BodyLoose.notSynchronized Bd) (Stand.of_body Bd) (by rw [← hh, Bd.state]; rfl)
  exact ⟨t, .returned v, h1, h2, h3, v, L, rfl, h4, ⟨_, rfl⟩, h5, h6⟩
theorem Ends.callS (X : Stand p l e R s m args below meth c T locs cells slots) (hx : p.tables.exec = Jvm.exec) (hZ : Z.Warmed39 s.vm) {own : String} {index : Nat} {y : MethodName} {bytes : ByteArray} {maxL : Nat} {ret : Option FieldType}
    (hown : s.vm.findClass own = some m.cls) (w1 : (Jvm.Cond.methodLink own index y).before a0 Z = true) (w2 : (Jvm.Cond.static y).before a0 Z = true) (w3 : (Jvm.Cond.initialized y.cls).before a0 Z = true) (w4 : (Jvm.Cond.code y bytes maxL ret).before a0 Z = true)
    (hy : y.cls ≠ "java/lang/invoke/MethodHandle" ∧ y.cls ≠ "java/lang/invoke/VarHandle") {rm : Room} {as' : Array Value} {Q' : Option Value → Heap → List Loc → Prop} (hM : Meets l Z y bytes maxL ret [] rm as' h Q' rm.cells rm.slots)
    (W : Nat) (hf : rm.frames + 1 ≤ R.frames) (hl : W + (maxL + 11) + rm.locals ≤ R.locals) (eT : T.heap = h) {g : JFrame} (hg : g.method = m) (hsize : g.locals.size = c.maxLocals) (argsL rest : List Value)
    (hlen : ∀ sig, parseMethodDescriptor y.desc = some sig → argsL.length = sig.parameters.length) (hstack : g.stack = argsL.reverse ++ rest) (hW : 2 * g.monitorRoom + (rest.map fun v => v.category).sum ≤ W) (hdg : decode c.code g.pc = .ok (.invokestatic index, 3))
    (ha : argsL.toArray = as') (hc : cells + rm.cells ≤ R.cells) (hs : slots + rm.slots ≤ R.slots)
    (k : ∀ v T' L, Stand p l e R s m args below meth c T' (locs ++ L) (cells + rm.cells) (slots + rm.slots) → Q' v T'.heap L → Ends p e below s cs ss Q (T'.setTop { g with pc := g.pc + 3, stack := v.toList ++ rest })) : Ends p e below s cs ss Q (T.setTop g) := by
  obtain ⟨v, _, ⟨T', L', k', n'⟩, -, X', ⟨Lc, hQ, rfl, rfl, rfl⟩, st⟩ := Jvm.LawKit.callS X hx (y := y) hown (mvT hZ w1) (mvT hZ w2) (mvT hZ w3) (mvT hZ w4) hy (backOf (W := W) hM hZ w4 w3 hf hl) hg hsize (argsL := argsL) (rest := rest) hlen hstack hW hdg (fun _ _ => ⟨ha, eT, hc, hs⟩)
  exact (k v T' Lc X' hQ).step st
theorem Ends.callC (X : Stand p l e R s m args below meth c T locs cells slots) (hx : p.tables.exec = Jvm.exec) (hZ : Z.Warmed39 s.vm) {own : String} {index : Nat} {y : MethodName} {bytes : ByteArray} {maxL : Nat} (hy1 : y.name = "<init>")
    (hown : s.vm.findClass own = some m.cls) (w1 : (Jvm.Cond.methodLink own index y).before a0 Z = true) (w2 : (Jvm.Cond.instanceMethod y).before a0 Z = true) (w3 : (Jvm.Cond.initialized y.cls).before a0 Z = true) (w4 : (Jvm.Cond.code y bytes maxL none).before a0 Z = true)
    (hy : y.cls ≠ "java/lang/invoke/MethodHandle" ∧ y.cls ≠ "java/lang/invoke/VarHandle") {rm : Room} {as' : Array Value} {Q' : Option Value → Heap → List Loc → Prop} (hM : Meets l Z y bytes maxL none [] rm as' h Q' rm.cells rm.slots)
    (W : Nat) (hf : rm.frames + 1 ≤ R.frames) (hl : W + (maxL + 11) + rm.locals ≤ R.locals) (eT : T.heap = h) {g : JFrame} (hg : g.method = m) (hsize : g.locals.size = c.maxLocals) (a : Addr) (argsL rest : List Value)
    (hlen : ∀ sig, parseMethodDescriptor y.desc = some sig → argsL.length = sig.parameters.length) (hstack : g.stack = argsL.reverse ++ .ref a :: rest) (hW : 2 * g.monitorRoom + (rest.map fun v => v.category).sum ≤ W) (hdg : decode c.code g.pc = .ok (.invokespecial index, 3))
    (ha : (.ref a :: argsL).toArray = as') (hc : cells + rm.cells ≤ R.cells) (hs : slots + rm.slots ≤ R.slots)
    (k : ∀ v T' L, Stand p l e R s m args below meth c T' (locs ++ L) (cells + rm.cells) (slots + rm.slots) → Q' v T'.heap L → Ends p e below s cs ss Q (T'.setTop { g with pc := g.pc + 3, stack := v.toList ++ rest })) : Ends p e below s cs ss Q (T.setTop g) := by
  obtain ⟨v, _, ⟨T', L', k', n'⟩, -, X', ⟨Lc, hQ, rfl, rfl, rfl⟩, st⟩ := X.specialBack hx (y := y) hy1 hown (mvT hZ w1) (mvT hZ w2) (mvT hZ w4) hy (backOf (W := W) hM hZ w4 w3 hf hl) hg hsize (Steps.refl _) (a := a) (argsL := argsL) (rest := rest) hlen hstack hW hdg (fun _ _ => ⟨ha, eT, hc, hs⟩)
  exact (k v T' Lc X' hQ).step (fun _ q => st.trans q)
theorem Ends.callV (X : Stand p l e R s m args below meth c T locs cells slots) (hx : p.tables.exec = Jvm.exec) (hZ : Z.Warmed39 s.vm) {own C : String} {index : Nat} {y : MethodName} {bytes : ByteArray} {maxL : Nat} {ret : Option FieldType}
    (hown : s.vm.findClass own = some m.cls) (w1 : (Jvm.Cond.methodLink own index y).before a0 Z = true) (wd : (Jvm.Cond.declares y).before a0 Z = true) (wsel : (Jvm.Cond.selects C y y).before a0 Z = true) (w2 : (Jvm.Cond.instanceMethod y).before a0 Z = true) (w3 : (Jvm.Cond.initialized y.cls).before a0 Z = true) (w4 : (Jvm.Cond.code y bytes maxL ret).before a0 Z = true)
    (hy : y.cls ≠ "java/lang/invoke/MethodHandle" ∧ y.cls ≠ "java/lang/invoke/VarHandle") {rm : Room} {as' : Array Value} {Q' : Option Value → Heap → List Loc → Prop} (hM : Meets l Z y bytes maxL ret [] rm as' h Q' rm.cells rm.slots)
    (W : Nat) (hf : rm.frames + 1 ≤ R.frames) (hl : W + (maxL + 11) + rm.locals ≤ R.locals) (eT : T.heap = h) (a : Addr) (E : Exa Z h a C) {g : JFrame} (hg : g.method = m) (hsize : g.locals.size = c.maxLocals) (argsL rest : List Value)
    (hlen : ∀ sig, parseMethodDescriptor y.desc = some sig → argsL.length = sig.parameters.length) (hstack : g.stack = argsL.reverse ++ .ref a :: rest) (hW : 2 * g.monitorRoom + (rest.map fun v => v.category).sum ≤ W) (hdg : decode c.code g.pc = .ok (.invokevirtual index, 3))
    (ha : (.ref a :: argsL).toArray = as') (hc : cells + rm.cells ≤ R.cells) (hs : slots + rm.slots ≤ R.slots)
    (k : ∀ v T' L, Stand p l e R s m args below meth c T' (locs ++ L) (cells + rm.cells) (slots + rm.slots) → Q' v T'.heap L → Ends p e below s cs ss Q (T'.setTop { g with pc := g.pc + 3, stack := v.toList ++ rest })) : Ends p e below s cs ss Q (T.setTop g) := by
  obtain ⟨cq, kq, q1, q2, q3⟩ := isOf (T := T) hZ eT E
  obtain ⟨v, _, ⟨T', L', k', n'⟩, -, X', ⟨Lc, hQ, rfl, rfl, rfl⟩, st⟩ := X.virtualBack hx (y := y) (z := y) hown (mvT hZ w1) (mvT hZ wd) (notFace_of_selects (args := #[]) (mvT hZ wsel)) (mvT hZ wsel) (mvT hZ w2) hy (backOf (W := W) hM hZ w4 w3 hf hl) q1 q3 hg hsize (Steps.refl _) (argsL := argsL) (rest := rest) hlen hstack hW hdg (fun _ _ => ⟨ha, eT, hc, hs⟩)
  exact (k v T' Lc X' hQ).step (fun _ q => st.trans q)
/-! ### arrays of small numbers: what each place holds, as a function -/
def Ar (Z : State) (h : Heap) (a : Addr) (ty : FieldType) (n : Nat) (f : Nat → Int32) : Prop := ∃ cl : Cell, Arr Z h a cl ty ∧ cl.slots.size = n ∧ n < 2 ^ 31 ∧ ∀ i, i < n → cl.slots[i]? = some (.int (f i))
def upd (f : Nat → Int32) (j : Nat) (v : Int32) : Nat → Int32 := fun i => if i = j then v else f i
def inb (j : Int32) (n : Nat) : Prop := ¬ (j < 0 ∨ n ≤ j.toNatClampNeg)
variable {a b : Addr} {ty : FieldType} {n sl : Nat} {f : Nat → Int32} {v : Value} {wsA : List Addr}
theorem Ar.lt (A : Ar Z h a ty n f) : a < h.size := by obtain ⟨cl, A1, -⟩ := A; exact A1.lt
theorem Ar.ext (A : Ar Z h a ty n f) (E : Ext h h') : Ar Z h' a ty n f := by obtain ⟨cl, A1, r⟩ := A; exact ⟨cl, A1.ext E, r⟩
theorem Ar.other (A : Ar Z h b ty n f) (W : Wr h h' a sl v) (q : b ≠ a) : Ar Z h' b ty n f := by obtain ⟨cl, A1, r⟩ := A; exact ⟨cl, A1.other W q, r⟩
theorem Ar.keep (A : Ar Z h a ty n f) (K : Keep h h' wsA) (q : a ∉ wsA) : Ar Z h' a ty n f := by obtain ⟨cl, A1, r⟩ := A; exact ⟨cl, ⟨K.2.1 a cl A1.1 q, A1.2⟩, r⟩
theorem Ar.small (A : Ar Z h a ty n f) : n < 2 ^ 31 := by obtain ⟨cl, A1, -, r, -⟩ := A; exact r
theorem Ar.set {j : Int32} {x : Int32} (A : Ar Z h a ty n f) (W : Wr h h' a j.toNatClampNeg (.int x)) : Ar Z h' a ty n (upd f j.toNatClampNeg x) := by
  obtain ⟨cl, A1, r1, r2, r3⟩ := A
  refine ⟨_, A1.same W, by rw [sz_set]; exact r1, r2, fun i hi => ?_⟩
  by_cases q : i = j.toNatClampNeg
  · subst q; simp [Cell.setSlot, upd, r1, hi]
  · simp only [Cell.setSlot, upd, if_neg q]; rw [Array.getElem?_setIfInBounds_ne (fun z => q z.symm)]; exact r3 i hi
theorem Ar.new {cA : ClassId} {k : Int32} (A : Arr Z h a (newA cA ty k) ty) (q : ¬ k < 0) (hd : defaultValue ty = .int 0) : Ar Z h a ty k.toNatClampNeg (fun _ => 0) :=
  ⟨_, A, sz_new _ _ _, (back32 q).2, fun i hi => by simp [newA, hi, hd]⟩
theorem Ends.newA (X : Stand p l e R s m args below meth c T locs cells slots) (hx : p.tables.exec = Jvm.exec) (hZ : Z.Warmed39 s.vm) {aty : ArrayType} (w : (Jvm.Cond.arrayClass (newarray.typeOf aty)).before a0 Z = true) (eT : T.heap = h) {g : JFrame} (hg : g.method = m) (hd : decode c.code g.pc = .ok (.newarray aty, 2)) {k : Int32} {rest : List Value} (hs : g.stack = .int k :: rest)
    (hdf : defaultValue (newarray.typeOf aty) = .int 0) (hn : ¬ k < 0) (cap : Nat) (hcap : k.toNatClampNeg ≤ cap) (hb : cap * 8 ≤ 536870912) (hc : cells + 1 ≤ R.cells) (hl : slots + cap ≤ R.slots)
    (kk : ∀ T' h' a, Stand p l e R s m args below meth c T' locs (cells + 1) (slots + cap) → T'.heap = h' → Ext h h' → h.size = a → Ar Z h' a (newarray.typeOf aty) k.toNatClampNeg (fun _ => 0) → Ends p e below s cs ss Q (T'.setTop { g with pc := g.pc + 2, stack := .ref a :: rest })) : Ends p e below s cs ss Q (T.setTop g) := by
  obtain ⟨T', h', cA, X', e', E, A, st⟩ := newP X hx hZ w eT hg hd hs hn hcap hb hc hl
  exact (kk T' h' h.size X' e' E rfl (Ar.new A hn hdf)).step st
theorem Ends.iaload (X : Stand p l e R s m args below meth c T locs cells slots) (hx : p.tables.exec = Jvm.exec) (hZ : Z.Warmed39 s.vm) (eT : T.heap = h) (A : Ar Z h a .int n f) {j : Int32} (hj : inb j n) {g : JFrame} (hg : g.method = m) {rest : List Value} (hs : g.stack = .int j :: .ref a :: rest) (hd : decode c.code g.pc = .ok (.iaload, 1))
    (k : Ends p e below s cs ss Q (T.setTop { g with pc := g.pc + 1, stack := .int (f j.toNatClampNeg) :: rest })) : Ends p e below s cs ss Q (T.setTop g) := by
  obtain ⟨cl, A1, r1, -, r3⟩ := A
  subst r1
  exact k.step (X.iaload hx (by rw [eT]; exact A1.1) (State.isArrayOf_alike hZ.alike A1.2.1) A1.2.2 hj (r3 _ (Nat.lt_of_not_le fun q => hj (Or.inr q))) hg hs hd)
theorem Ends.baload (X : Stand p l e R s m args below meth c T locs cells slots) (hx : p.tables.exec = Jvm.exec) (hZ : Z.Warmed39 s.vm) (eT : T.heap = h) (A : Ar Z h a .byte n f) {j : Int32} (hj : inb j n) {g : JFrame} (hg : g.method = m) {rest : List Value} (hs : g.stack = .int j :: .ref a :: rest) (hd : decode c.code g.pc = .ok (.baload, 1))
    (k : Ends p e below s cs ss Q (T.setTop { g with pc := g.pc + 1, stack := .int (f j.toNatClampNeg) :: rest })) : Ends p e below s cs ss Q (T.setTop g) := by
  obtain ⟨cl, A1, r1, -, r3⟩ := A
  subst r1
  exact k.step (X.baloadBytes hx (by rw [eT]; exact A1.1) (State.isArrayOf_alike hZ.alike A1.2.1) A1.2.2 hj (r3 _ (Nat.lt_of_not_le fun q => hj (Or.inr q))) hg hs hd)
theorem Ends.arrlen (X : Stand p l e R s m args below meth c T locs cells slots) (hx : p.tables.exec = Jvm.exec) (hZ : Z.Warmed39 s.vm) (eT : T.heap = h) (A : Ar Z h a ty n f) {g : JFrame} (hg : g.method = m) {rest : List Value} (hs : g.stack = .ref a :: rest) (hd : decode c.code g.pc = .ok (.arraylength, 1))
    (k : Ends p e below s cs ss Q (T.setTop { g with pc := g.pc + 1, stack := .int (Nat.toInt32 n) :: rest })) : Ends p e below s cs ss Q (T.setTop g) := by
  obtain ⟨cl, A1, r1, -, r3⟩ := A
  subst r1
  exact k.step (X.arraylength hx (by rw [eT]; exact A1.1) (State.isArrayOf_alike hZ.alike A1.2.1) hg hs hd)
theorem Ends.iastore (X : Stand p l e R s m args below meth c T locs cells slots) (hx : p.tables.exec = Jvm.exec) (hZ : Z.Warmed39 s.vm) (eT : T.heap = h) (A : Ar Z h a .int n f) {j x : Int32} (hj : inb j n) {n0 : Nat} (N : Fr n0 locs) (ge : n0 ≤ a) {g : JFrame} (hg : g.method = m) {rest : List Value} (hs : g.stack = .int x :: .int j :: .ref a :: rest) (hd : decode c.code g.pc = .ok (.iastore, 1))
    (k : ∀ T' h' sl, Stand p l e R s m args below meth c T' (locs ++ [⟨a, sl⟩]) cells slots → T'.heap = h' → Fr n0 (locs ++ [⟨a, sl⟩]) → Wr h h' a sl (.int x) → Ar Z h' a .int n (upd f j.toNatClampNeg x) → Ends p e below s cs ss Q (T'.setTop { g with pc := g.pc + 1, stack := rest })) : Ends p e below s cs ss Q (T.setTop g) := by
  obtain ⟨cl, A1, r1, r2, r3⟩ := A
  obtain ⟨T', h', X', e', W, st⟩ := stI X hx hZ eT A1 (by rw [r1]; exact hj) hg hs hd
  exact (k T' h' _ X' e' (Fr.snoc X' N ge) W (Ar.set ⟨cl, A1, r1, r2, r3⟩ W)).step st
theorem Ends.bastore (X : Stand p l e R s m args below meth c T locs cells slots) (hx : p.tables.exec = Jvm.exec) (hZ : Z.Warmed39 s.vm) (eT : T.heap = h) (A : Ar Z h a .byte n f) {j x : Int32} (hj : inb j n) {n0 : Nat} (N : Fr n0 locs) (ge : n0 ≤ a) {g : JFrame} (hg : g.method = m) {rest : List Value} (hs : g.stack = .int x :: .int j :: .ref a :: rest) (hd : decode c.code g.pc = .ok (.bastore, 1))
    (k : ∀ T' h' sl, Stand p l e R s m args below meth c T' (locs ++ [⟨a, sl⟩]) cells slots → T'.heap = h' → Fr n0 (locs ++ [⟨a, sl⟩]) → Wr h h' a sl (.int (nar .byte x)) → Ar Z h' a .byte n (upd f j.toNatClampNeg (nar .byte x)) → Ends p e below s cs ss Q (T'.setTop { g with pc := g.pc + 1, stack := rest })) : Ends p e below s cs ss Q (T.setTop g) := by
  obtain ⟨cl, A1, r1, r2, r3⟩ := A
  obtain ⟨T', h', X', e', W, st⟩ := stB X hx hZ eT A1 (by rw [r1]; exact hj) hg hs hd
  exact (k T' h' _ X' e' (Fr.snoc X' N ge) W (Ar.set ⟨cl, A1, r1, r2, r3⟩ W)).step st
theorem Ends.getF (X : Stand p l e R s m args below meth c T locs cells slots) (hx : p.tables.exec = Jvm.exec) (hZ : Z.Warmed39 s.vm) {own O fn d : String} {index : Nat} (hown : s.vm.findClass own = some m.cls) (w : (Jvm.Cond.fieldLink own index O fn d).before a0 Z = true) (eT : T.heap = h) (F : Fld Z h a O fn d v) {g : JFrame} (hg : g.method = m) {rest : List Value} (hs : g.stack = .ref a :: rest) (hd : decode c.code g.pc = .ok (.getfield index, 3))
    (k : ∀ T', Stand p l e R s m args below meth c T' locs cells slots → T'.heap = h → Ends p e below s cs ss Q (T'.setTop { g with pc := g.pc + 3, stack := v :: rest })) : Ends p e below s cs ss Q (T.setTop g) := by
  obtain ⟨T', X', e', st⟩ := Jvm.RoadKit.getF X hx hZ hown (host := "") (Or.inl w) Via.refl eT F hg hs hd
  exact (k T' X' e').step st
theorem Ends.putF (X : Stand p l e R s m args below meth c T locs cells slots) (hx : p.tables.exec = Jvm.exec) (hZ : Z.Warmed39 s.vm) {own O fn d : String} {index kk : Nat} {tf : FieldType} {old : Value} (hown : s.vm.findClass own = some m.cls) (w : (Jvm.Cond.fieldLink own index O fn d).before a0 Z = true) (eT : T.heap = h) (F : Fld Z h a O fn d old) (E : Exa Z h a O) (L : (Jvm.Cond.lays O O fn d).before a0 Z = true ∨ ((Jvm.Cond.laysFinal O O fn d).before a0 Z = true ∧ own = O ∧ meth.name = "<init>")) (wi : (Jvm.Cond.instantiable O kk).before a0 Z = true)
    (hty : parseFieldDescriptor d = some tf) (hn : narrow tf v = v) (hf : fits tf v = true) {n0 : Nat} (N : Fr n0 locs) (ge : n0 ≤ a) {g : JFrame} (hg : g.method = m) {rest : List Value} (hs : g.stack = v :: .ref a :: rest) (hd : decode c.code g.pc = .ok (.putfield index, 3))
    (k : ∀ T' h', Stand p l e R s m args below meth c T' (locs ++ [⟨a, Jvm.RoadKit.slotOf Z O fn d⟩]) cells slots → T'.heap = h' → Fr n0 (locs ++ [⟨a, Jvm.RoadKit.slotOf Z O fn d⟩]) → Wr h h' a (Jvm.RoadKit.slotOf Z O fn d) v → Ends p e below s cs ss Q (T'.setTop { g with pc := g.pc + 3, stack := rest })) : Ends p e below s cs ss Q (T.setTop g) := by
  obtain ⟨T', h', X', e', W, st⟩ := Jvm.RoadKit.putF X hx hZ hown (host := "") (Or.inl w) Via.refl eT F E L wi hty hn hf hg hs hd
  exact (k T' h' X' e' (Fr.snoc X' N ge) W).step st
theorem Ends.newO (X : Stand p l e R s m args below meth c T locs cells slots) (hx : p.tables.exec = Jvm.exec) (hZ : Z.Warmed39 s.vm) {own C : String} {index k : Nat} (hown : s.vm.findClass own = some m.cls) (w : (Jvm.Cond.classLink own index C).before a0 Z = true) (wi : (Jvm.Cond.instantiable C k).before a0 Z = true) (wz : (Jvm.Cond.initialized C).before a0 Z = true) (eT : T.heap = h)
    {g : JFrame} (hg : g.method = m) (hd : decode c.code g.pc = .ok (.new index, 3)) (hc : cells + 1 ≤ R.cells) (hl : slots + k ≤ R.slots)
    (kk : ∀ T' h' a, Stand p l e R s m args below meth c T' locs (cells + 1) (slots + k) → T'.heap = h' → Ext h h' → h.size = a → Exa Z h' a C → (∀ {O nm d : String} {ty : FieldType}, Laid Z a0 C O nm d → parseFieldDescriptor d = some ty → Fld Z h' a O nm d (defaultValue ty)) → Ends p e below s cs ss Q (T'.setTop { g with pc := g.pc + 3, stack := .ref a :: g.stack })) : Ends p e below s cs ss Q (T.setTop g) := by
  obtain ⟨T', h', X', e', E, A, D, -, st⟩ := Jvm.RoadKit.newO X hx hZ hown w wi wz eT hg hd hc hl
  exact (kk T' h' _ X' e' E rfl A D).step st
theorem Ends.initO (X : Stand p l e R s m args below meth c T locs cells slots) (hx : p.tables.exec = Jvm.exec) (hZ : Z.Warmed39 s.vm) {own : String} {idx : Nat} (hown : s.vm.findClass own = some m.cls) (w1 : (Jvm.Cond.methodLink own idx Lib.objectInit).before a0 Z = true) (w2 : (Jvm.Cond.instanceMethod Lib.objectInit).before a0 Z = true)
    (w3 : (Jvm.Cond.code Lib.objectInit ⟨#[0xb1]⟩ 1 none).before a0 Z = true) (eT : T.heap = h) {g : JFrame} (hg : g.method = m) (hsize : g.locals.size = c.maxLocals) {rest : List Value} (hs : g.stack = .ref a :: rest) (hd : decode c.code g.pc = .ok (.invokespecial idx, 3))
    (hf : 1 ≤ R.frames) (W : Nat) (hW : 2 * g.monitorRoom + (rest.map fun v => v.category).sum ≤ W) (hl : W + 12 ≤ R.locals)
    (k : ∀ T', Stand p l e R s m args below meth c T' locs cells slots → T'.heap = h → Ends p e below s cs ss Q (T'.setTop { g with pc := g.pc + 3, stack := rest })) : Ends p e below s cs ss Q (T.setTop g) := by
  obtain ⟨T', X', e', st⟩ := Jvm.RoadKit.initO X hx hZ hown w1 w2 w3 eT hg hsize hs hd hf hW hl
  exact (k T' X' e').step st
def OneS (o : Slot) : Prop := o = .unset ∨ ∃ w, o = .val w ∧ w.category = 1
theorem storeL {ls : Array Slot} {i : Nat} {x : Int64} {o o' : Slot} (h1 : ls[i]? = some o) (h2 : ls[i + 1]? = some o') (p1 : OneS o) (p2 : OneS o') : storeLocals ls i (.long x) = some ((ls.setIfInBounds i (.val (.long x))).setIfInBounds (i + 1) .second) := by
  have l1 : i < ls.size := (Array.getElem?_eq_some_iff.mp h1).1
  have l2 : i + 1 < ls.size := (Array.getElem?_eq_some_iff.mp h2).1
  have e2 : (ls.setIfInBounds i (.val (.long x)))[i + 1]? = some o' := by rw [Array.getElem?_setIfInBounds_ne (by omega)]; exact h2
  have q : storeSelf ls i (.long x) = some ((ls.setIfInBounds i (.val (.long x))).setIfInBounds (i + 1) .second) := by
    have cat : (Value.long x).category = 2 := rfl
    simp only [storeSelf, setAt, if_pos l1, cat, if_true, Option.bind_eq_bind, Option.bind_some, e2]
    rcases p2 with rfl | ⟨w, rfl, hw⟩
    · simp [l2]
    · simp [l2, hw]
  simp only [storeLocals, h1, Option.bind_eq_bind, Option.bind_some]
  rcases p1 with rfl | ⟨w, rfl, hw⟩
  · exact q
  · simp only [hw]; exact q
end OwnFrame
-- body 3
def F3_10 (t0 : Int32) : Int32 := t0
def F3_5 (x0 : Int32) : Int32 := (F3_10 x0)
def F3_9 (x1 : Int32) : Int32 := (F3_10 x1)
def F3 (p0 : Int32) (p1 : Int32) : Int32 := if p0 < p1 then (F3_9 p1) else (F3_5 p0)
-- body 1
def F1 (p1 : Int32) (o0_size : Int32) : Nat × (Nat → Int32) := (((F3 p1 (16 : Int32))).toNatClampNeg, (fun _ => 0))
def O1 (p1 : Int32) (o0_size : Int32) : Prop := (¬ (F3 p1 (16 : Int32)) < 0) ∧ (((F3 p1 (16 : Int32))).toNatClampNeg ≤ 16) ∧ True
-- body 4
def F4 (o0_size : Int32) (n_o0_bytes : Nat) (f_o0_bytes : Nat → Int32) : Unit := ()
-- body 5
def F5_7 (x0 : Int64) (x4 : Int32) : Int32 := (nar .byte (((((XT.ushrL x0 ((8 : Int32) * x4))).toInt32)).toInt8.toInt32))
def F5_17 (x2 : Int64) (x4 : Int32) : Int32 := (nar .byte (((((XT.ushrL x2 ((8 : Int32) * (x4 - (8 : Int32))))).toInt32)).toInt8.toInt32))
def F5 (p0 : Int64) (p1 : Int64) (p2 : Int32) : Int32 := if p2 < (8 : Int32) then (F5_7 p0 p2) else (F5_17 p1 p2)
-- body 6
def F6_34 (K : Nat) (o0_size : Int32) (n_o0_bytes : Nat) (cf_o0_bytes : Nat → Int32) : (Nat → Int32) := cf_o0_bytes
def F6_10 (K : Nat) (rec : Int32 → Nat → (Nat → Int32) → Int32 → Int64 → Int32 → Int32 → (Nat → Int32)) (o0_size : Int32) (n_o0_bytes : Nat) (cf_o0_bytes : Nat → Int32) (x1 : Int32) (x2 : Int64) (x4 : Int32) (x5 : Int32) : (Nat → Int32) := (rec o0_size n_o0_bytes (upd cf_o0_bytes ((x1 + x5)).toNatClampNeg (nar .byte (((((XT.ushrL x2 ((8 : Int32) * x5))).toInt32)).toInt8.toInt32))) x1 x2 x4 (x5 + (1 : Int32)))
def O6_10 (K : Nat) (rec : Int32 → Nat → (Nat → Int32) → Int32 → Int64 → Int32 → Int32 → Prop) (o0_size : Int32) (n_o0_bytes : Nat) (cf_o0_bytes : Nat → Int32) (x1 : Int32) (x2 : Int64) (x4 : Int32) (x5 : Int32) : Prop := (inb (x1 + x5) n_o0_bytes) ∧ (rec o0_size n_o0_bytes (upd cf_o0_bytes ((x1 + x5)).toNatClampNeg (nar .byte (((((XT.ushrL x2 ((8 : Int32) * x5))).toInt32)).toInt8.toInt32))) x1 x2 x4 (x5 + (1 : Int32)))
def F6_3 (K : Nat) : Nat → Int32 → Nat → (Nat → Int32) → Int32 → Int64 → Int32 → Int32 → (Nat → Int32)
  | 0, _, _, _, _, _, _, _ => default
  | j + 1, o0_size, n_o0_bytes, cf_o0_bytes, x1, x2, x4, x5 => if x5 < x4 then (F6_10 K (F6_3 K j) o0_size n_o0_bytes cf_o0_bytes x1 x2 x4 x5) else (F6_34 K o0_size n_o0_bytes cf_o0_bytes)
def O6_3 (K : Nat) : Nat → Int32 → Nat → (Nat → Int32) → Int32 → Int64 → Int32 → Int32 → Prop
  | 0, _, _, _, _, _, _, _ => False
  | j + 1, o0_size, n_o0_bytes, cf_o0_bytes, x1, x2, x4, x5 => (x5 < x4 → (O6_10 K (O6_3 K j) o0_size n_o0_bytes cf_o0_bytes x1 x2 x4 x5)) ∧ (¬ x5 < x4 → True)
def F6 (K : Nat) (p1 : Int32) (p2 : Int64) (p3 : Int32) (o0_size : Int32) (n_o0_bytes : Nat) (f_o0_bytes : Nat → Int32) : (Nat → Int32) := (F6_3 K K o0_size n_o0_bytes f_o0_bytes p1 p2 p3 (0 : Int32))
def O6 (K : Nat) (p1 : Int32) (p2 : Int64) (p3 : Int32) (o0_size : Int32) (n_o0_bytes : Nat) (f_o0_bytes : Nat → Int32) : Prop := (O6_3 K K o0_size n_o0_bytes f_o0_bytes p1 p2 p3 (0 : Int32))
-- body 7
def F7 (o0_size : Int32) (n_o0_bytes : Nat) (f_o0_bytes : Nat → Int32) : Int32 := o0_size
-- body 8
def F8_54 (n_o0 : Nat) (f_o0 : Nat → Int32) (t0 : Int32) : Int32 := (nar .boolean t0)
def F8_49 (n_o0 : Nat) (f_o0 : Nat → Int32) : Int32 := (F8_54 n_o0 f_o0 (1 : Int32))
def F8_53 (n_o0 : Nat) (f_o0 : Nat → Int32) : Int32 := (F8_54 n_o0 f_o0 (0 : Int32))
def F8_41 (n_o0 : Nat) (f_o0 : Nat → Int32) (x1 : Int32) (x11 : Int32) : Int32 := if (f_o0 (x1).toNatClampNeg) = x11 then (F8_49 n_o0 f_o0) else (F8_53 n_o0 f_o0)
def O8_41 (n_o0 : Nat) (f_o0 : Nat → Int32) (x1 : Int32) (x11 : Int32) : Prop := (inb x1 n_o0) ∧ ((f_o0 (x1).toNatClampNeg) = x11 → True) ∧ (¬ (f_o0 (x1).toNatClampNeg) = x11 → True)
def F8_28 (n_o0 : Nat) (f_o0 : Nat → Int32) (x1 : Int32) (x11 : Int32) : Int32 := (F8_41 n_o0 f_o0 x1 x11)
def O8_28 (n_o0 : Nat) (f_o0 : Nat → Int32) (x1 : Int32) (x11 : Int32) : Prop := (O8_41 n_o0 f_o0 x1 x11)
def F8_17 (n_o0 : Nat) (f_o0 : Nat → Int32) (x1 : Int32) (x3 : Int64) (x10 : Int32) : Int32 := (F8_28 n_o0 f_o0 x1 (((((XT.ushrL x3 ((8 : Int32) * x10))).toInt32)).toInt8.toInt32))
def O8_17 (n_o0 : Nat) (f_o0 : Nat → Int32) (x1 : Int32) (x3 : Int64) (x10 : Int32) : Prop := (O8_28 n_o0 f_o0 x1 (((((XT.ushrL x3 ((8 : Int32) * x10))).toInt32)).toInt8.toInt32))
def F8_31 (n_o0 : Nat) (f_o0 : Nat → Int32) (x1 : Int32) (x6 : Int64) (x8 : Int64) : Int32 := (F8_41 n_o0 f_o0 x1 (F5 x6 x8 x1))
def O8_31 (n_o0 : Nat) (f_o0 : Nat → Int32) (x1 : Int32) (x6 : Int64) (x8 : Int64) : Prop := (O8_41 n_o0 f_o0 x1 (F5 x6 x8 x1))
def F8_10 (n_o0 : Nat) (f_o0 : Nat → Int32) (x1 : Int32) (x3 : Int64) (x5 : Int32) (x6 : Int64) (x8 : Int64) (x10 : Int32) : Int32 := if x10 < x5 then (F8_17 n_o0 f_o0 x1 x3 x10) else (F8_31 n_o0 f_o0 x1 x6 x8)
def O8_10 (n_o0 : Nat) (f_o0 : Nat → Int32) (x1 : Int32) (x3 : Int64) (x5 : Int32) (x6 : Int64) (x8 : Int64) (x10 : Int32) : Prop := (x10 < x5 → (O8_17 n_o0 f_o0 x1 x3 x10)) ∧ (¬ x10 < x5 → (O8_31 n_o0 f_o0 x1 x6 x8))
def F8_5 (n_o0 : Nat) (f_o0 : Nat → Int32) (x1 : Int32) (x3 : Int64) (x5 : Int32) (x6 : Int64) (x8 : Int64) (x10 : Int32) : Int32 := if x10 < 0 then (F8_31 n_o0 f_o0 x1 x6 x8) else (F8_10 n_o0 f_o0 x1 x3 x5 x6 x8 x10)
def O8_5 (n_o0 : Nat) (f_o0 : Nat → Int32) (x1 : Int32) (x3 : Int64) (x5 : Int32) (x6 : Int64) (x8 : Int64) (x10 : Int32) : Prop := (x10 < 0 → (O8_31 n_o0 f_o0 x1 x6 x8)) ∧ (¬ x10 < 0 → (O8_10 n_o0 f_o0 x1 x3 x5 x6 x8 x10))
def F8 (p1 : Int32) (p2 : Int32) (p3 : Int64) (p4 : Int32) (p5 : Int64) (p6 : Int64) (n_o0 : Nat) (f_o0 : Nat → Int32) : Int32 := (F8_5 n_o0 f_o0 p1 p3 p4 p5 p6 (p1 - p2))
def O8 (p1 : Int32) (p2 : Int32) (p3 : Int64) (p4 : Int32) (p5 : Int64) (p6 : Int64) (n_o0 : Nat) (f_o0 : Nat → Int32) : Prop := (O8_5 n_o0 f_o0 p1 p3 p4 p5 p6 (p1 - p2))
-- body 0
def F0_44 (K : Nat)  : Int32 := (nar .boolean (0 : Int32))
def F0_290 (K : Nat)  : Int32 := (nar .boolean (0 : Int32))
def F0_595 (K : Nat) (t0 : Int32) : Int32 := (nar .boolean t0)
def F0_590 (K : Nat)  : Int32 := (F0_595 K (1 : Int32))
def F0_594 (K : Nat)  : Int32 := (F0_595 K (0 : Int32))
def F0_571 (K : Nat) (cn_q11_24 : Nat) (cf_q11_24 : Nat → Int32) (x1 : Int64) (x4 : Int64) (x6 : Int64) (x8 : Int32) (x9 : Int32) : Int32 := if (F8 (15 : Int32) x8 x1 x9 x4 x6 cn_q11_24 cf_q11_24) = 0 then (F0_594 K) else (F0_590 K)
def O0_571 (K : Nat) (cn_q11_24 : Nat) (cf_q11_24 : Nat → Int32) (x1 : Int64) (x4 : Int64) (x6 : Int64) (x8 : Int32) (x9 : Int32) : Prop := (O8 (15 : Int32) x8 x1 x9 x4 x6 cn_q11_24 cf_q11_24) ∧ ((F8 (15 : Int32) x8 x1 x9 x4 x6 cn_q11_24 cf_q11_24) = 0 → True) ∧ (¬ (F8 (15 : Int32) x8 x1 x9 x4 x6 cn_q11_24 cf_q11_24) = 0 → True)
def F0_552 (K : Nat) (cn_q11_24 : Nat) (cf_q11_24 : Nat → Int32) (x1 : Int64) (x4 : Int64) (x6 : Int64) (x8 : Int32) (x9 : Int32) : Int32 := if (F8 (14 : Int32) x8 x1 x9 x4 x6 cn_q11_24 cf_q11_24) = 0 then (F0_594 K) else (F0_571 K cn_q11_24 cf_q11_24 x1 x4 x6 x8 x9)
def O0_552 (K : Nat) (cn_q11_24 : Nat) (cf_q11_24 : Nat → Int32) (x1 : Int64) (x4 : Int64) (x6 : Int64) (x8 : Int32) (x9 : Int32) : Prop := (O8 (14 : Int32) x8 x1 x9 x4 x6 cn_q11_24 cf_q11_24) ∧ ((F8 (14 : Int32) x8 x1 x9 x4 x6 cn_q11_24 cf_q11_24) = 0 → True) ∧ (¬ (F8 (14 : Int32) x8 x1 x9 x4 x6 cn_q11_24 cf_q11_24) = 0 → (O0_571 K cn_q11_24 cf_q11_24 x1 x4 x6 x8 x9))
def F0_533 (K : Nat) (cn_q11_24 : Nat) (cf_q11_24 : Nat → Int32) (x1 : Int64) (x4 : Int64) (x6 : Int64) (x8 : Int32) (x9 : Int32) : Int32 := if (F8 (13 : Int32) x8 x1 x9 x4 x6 cn_q11_24 cf_q11_24) = 0 then (F0_594 K) else (F0_552 K cn_q11_24 cf_q11_24 x1 x4 x6 x8 x9)
def O0_533 (K : Nat) (cn_q11_24 : Nat) (cf_q11_24 : Nat → Int32) (x1 : Int64) (x4 : Int64) (x6 : Int64) (x8 : Int32) (x9 : Int32) : Prop := (O8 (13 : Int32) x8 x1 x9 x4 x6 cn_q11_24 cf_q11_24) ∧ ((F8 (13 : Int32) x8 x1 x9 x4 x6 cn_q11_24 cf_q11_24) = 0 → True) ∧ (¬ (F8 (13 : Int32) x8 x1 x9 x4 x6 cn_q11_24 cf_q11_24) = 0 → (O0_552 K cn_q11_24 cf_q11_24 x1 x4 x6 x8 x9))
def F0_514 (K : Nat) (cn_q11_24 : Nat) (cf_q11_24 : Nat → Int32) (x1 : Int64) (x4 : Int64) (x6 : Int64) (x8 : Int32) (x9 : Int32) : Int32 := if (F8 (12 : Int32) x8 x1 x9 x4 x6 cn_q11_24 cf_q11_24) = 0 then (F0_594 K) else (F0_533 K cn_q11_24 cf_q11_24 x1 x4 x6 x8 x9)
def O0_514 (K : Nat) (cn_q11_24 : Nat) (cf_q11_24 : Nat → Int32) (x1 : Int64) (x4 : Int64) (x6 : Int64) (x8 : Int32) (x9 : Int32) : Prop := (O8 (12 : Int32) x8 x1 x9 x4 x6 cn_q11_24 cf_q11_24) ∧ ((F8 (12 : Int32) x8 x1 x9 x4 x6 cn_q11_24 cf_q11_24) = 0 → True) ∧ (¬ (F8 (12 : Int32) x8 x1 x9 x4 x6 cn_q11_24 cf_q11_24) = 0 → (O0_533 K cn_q11_24 cf_q11_24 x1 x4 x6 x8 x9))
def F0_495 (K : Nat) (cn_q11_24 : Nat) (cf_q11_24 : Nat → Int32) (x1 : Int64) (x4 : Int64) (x6 : Int64) (x8 : Int32) (x9 : Int32) : Int32 := if (F8 (11 : Int32) x8 x1 x9 x4 x6 cn_q11_24 cf_q11_24) = 0 then (F0_594 K) else (F0_514 K cn_q11_24 cf_q11_24 x1 x4 x6 x8 x9)
def O0_495 (K : Nat) (cn_q11_24 : Nat) (cf_q11_24 : Nat → Int32) (x1 : Int64) (x4 : Int64) (x6 : Int64) (x8 : Int32) (x9 : Int32) : Prop := (O8 (11 : Int32) x8 x1 x9 x4 x6 cn_q11_24 cf_q11_24) ∧ ((F8 (11 : Int32) x8 x1 x9 x4 x6 cn_q11_24 cf_q11_24) = 0 → True) ∧ (¬ (F8 (11 : Int32) x8 x1 x9 x4 x6 cn_q11_24 cf_q11_24) = 0 → (O0_514 K cn_q11_24 cf_q11_24 x1 x4 x6 x8 x9))
def F0_476 (K : Nat) (cn_q11_24 : Nat) (cf_q11_24 : Nat → Int32) (x1 : Int64) (x4 : Int64) (x6 : Int64) (x8 : Int32) (x9 : Int32) : Int32 := if (F8 (10 : Int32) x8 x1 x9 x4 x6 cn_q11_24 cf_q11_24) = 0 then (F0_594 K) else (F0_495 K cn_q11_24 cf_q11_24 x1 x4 x6 x8 x9)
def O0_476 (K : Nat) (cn_q11_24 : Nat) (cf_q11_24 : Nat → Int32) (x1 : Int64) (x4 : Int64) (x6 : Int64) (x8 : Int32) (x9 : Int32) : Prop := (O8 (10 : Int32) x8 x1 x9 x4 x6 cn_q11_24 cf_q11_24) ∧ ((F8 (10 : Int32) x8 x1 x9 x4 x6 cn_q11_24 cf_q11_24) = 0 → True) ∧ (¬ (F8 (10 : Int32) x8 x1 x9 x4 x6 cn_q11_24 cf_q11_24) = 0 → (O0_495 K cn_q11_24 cf_q11_24 x1 x4 x6 x8 x9))
def F0_457 (K : Nat) (cn_q11_24 : Nat) (cf_q11_24 : Nat → Int32) (x1 : Int64) (x4 : Int64) (x6 : Int64) (x8 : Int32) (x9 : Int32) : Int32 := if (F8 (9 : Int32) x8 x1 x9 x4 x6 cn_q11_24 cf_q11_24) = 0 then (F0_594 K) else (F0_476 K cn_q11_24 cf_q11_24 x1 x4 x6 x8 x9)
def O0_457 (K : Nat) (cn_q11_24 : Nat) (cf_q11_24 : Nat → Int32) (x1 : Int64) (x4 : Int64) (x6 : Int64) (x8 : Int32) (x9 : Int32) : Prop := (O8 (9 : Int32) x8 x1 x9 x4 x6 cn_q11_24 cf_q11_24) ∧ ((F8 (9 : Int32) x8 x1 x9 x4 x6 cn_q11_24 cf_q11_24) = 0 → True) ∧ (¬ (F8 (9 : Int32) x8 x1 x9 x4 x6 cn_q11_24 cf_q11_24) = 0 → (O0_476 K cn_q11_24 cf_q11_24 x1 x4 x6 x8 x9))
def F0_438 (K : Nat) (cn_q11_24 : Nat) (cf_q11_24 : Nat → Int32) (x1 : Int64) (x4 : Int64) (x6 : Int64) (x8 : Int32) (x9 : Int32) : Int32 := if (F8 (8 : Int32) x8 x1 x9 x4 x6 cn_q11_24 cf_q11_24) = 0 then (F0_594 K) else (F0_457 K cn_q11_24 cf_q11_24 x1 x4 x6 x8 x9)
def O0_438 (K : Nat) (cn_q11_24 : Nat) (cf_q11_24 : Nat → Int32) (x1 : Int64) (x4 : Int64) (x6 : Int64) (x8 : Int32) (x9 : Int32) : Prop := (O8 (8 : Int32) x8 x1 x9 x4 x6 cn_q11_24 cf_q11_24) ∧ ((F8 (8 : Int32) x8 x1 x9 x4 x6 cn_q11_24 cf_q11_24) = 0 → True) ∧ (¬ (F8 (8 : Int32) x8 x1 x9 x4 x6 cn_q11_24 cf_q11_24) = 0 → (O0_457 K cn_q11_24 cf_q11_24 x1 x4 x6 x8 x9))
def F0_419 (K : Nat) (cn_q11_24 : Nat) (cf_q11_24 : Nat → Int32) (x1 : Int64) (x4 : Int64) (x6 : Int64) (x8 : Int32) (x9 : Int32) : Int32 := if (F8 (7 : Int32) x8 x1 x9 x4 x6 cn_q11_24 cf_q11_24) = 0 then (F0_594 K) else (F0_438 K cn_q11_24 cf_q11_24 x1 x4 x6 x8 x9)
def O0_419 (K : Nat) (cn_q11_24 : Nat) (cf_q11_24 : Nat → Int32) (x1 : Int64) (x4 : Int64) (x6 : Int64) (x8 : Int32) (x9 : Int32) : Prop := (O8 (7 : Int32) x8 x1 x9 x4 x6 cn_q11_24 cf_q11_24) ∧ ((F8 (7 : Int32) x8 x1 x9 x4 x6 cn_q11_24 cf_q11_24) = 0 → True) ∧ (¬ (F8 (7 : Int32) x8 x1 x9 x4 x6 cn_q11_24 cf_q11_24) = 0 → (O0_438 K cn_q11_24 cf_q11_24 x1 x4 x6 x8 x9))
def F0_400 (K : Nat) (cn_q11_24 : Nat) (cf_q11_24 : Nat → Int32) (x1 : Int64) (x4 : Int64) (x6 : Int64) (x8 : Int32) (x9 : Int32) : Int32 := if (F8 (6 : Int32) x8 x1 x9 x4 x6 cn_q11_24 cf_q11_24) = 0 then (F0_594 K) else (F0_419 K cn_q11_24 cf_q11_24 x1 x4 x6 x8 x9)
def O0_400 (K : Nat) (cn_q11_24 : Nat) (cf_q11_24 : Nat → Int32) (x1 : Int64) (x4 : Int64) (x6 : Int64) (x8 : Int32) (x9 : Int32) : Prop := (O8 (6 : Int32) x8 x1 x9 x4 x6 cn_q11_24 cf_q11_24) ∧ ((F8 (6 : Int32) x8 x1 x9 x4 x6 cn_q11_24 cf_q11_24) = 0 → True) ∧ (¬ (F8 (6 : Int32) x8 x1 x9 x4 x6 cn_q11_24 cf_q11_24) = 0 → (O0_419 K cn_q11_24 cf_q11_24 x1 x4 x6 x8 x9))
def F0_382 (K : Nat) (cn_q11_24 : Nat) (cf_q11_24 : Nat → Int32) (x1 : Int64) (x4 : Int64) (x6 : Int64) (x8 : Int32) (x9 : Int32) : Int32 := if (F8 (5 : Int32) x8 x1 x9 x4 x6 cn_q11_24 cf_q11_24) = 0 then (F0_594 K) else (F0_400 K cn_q11_24 cf_q11_24 x1 x4 x6 x8 x9)
def O0_382 (K : Nat) (cn_q11_24 : Nat) (cf_q11_24 : Nat → Int32) (x1 : Int64) (x4 : Int64) (x6 : Int64) (x8 : Int32) (x9 : Int32) : Prop := (O8 (5 : Int32) x8 x1 x9 x4 x6 cn_q11_24 cf_q11_24) ∧ ((F8 (5 : Int32) x8 x1 x9 x4 x6 cn_q11_24 cf_q11_24) = 0 → True) ∧ (¬ (F8 (5 : Int32) x8 x1 x9 x4 x6 cn_q11_24 cf_q11_24) = 0 → (O0_400 K cn_q11_24 cf_q11_24 x1 x4 x6 x8 x9))
def F0_364 (K : Nat) (cn_q11_24 : Nat) (cf_q11_24 : Nat → Int32) (x1 : Int64) (x4 : Int64) (x6 : Int64) (x8 : Int32) (x9 : Int32) : Int32 := if (F8 (4 : Int32) x8 x1 x9 x4 x6 cn_q11_24 cf_q11_24) = 0 then (F0_594 K) else (F0_382 K cn_q11_24 cf_q11_24 x1 x4 x6 x8 x9)
def O0_364 (K : Nat) (cn_q11_24 : Nat) (cf_q11_24 : Nat → Int32) (x1 : Int64) (x4 : Int64) (x6 : Int64) (x8 : Int32) (x9 : Int32) : Prop := (O8 (4 : Int32) x8 x1 x9 x4 x6 cn_q11_24 cf_q11_24) ∧ ((F8 (4 : Int32) x8 x1 x9 x4 x6 cn_q11_24 cf_q11_24) = 0 → True) ∧ (¬ (F8 (4 : Int32) x8 x1 x9 x4 x6 cn_q11_24 cf_q11_24) = 0 → (O0_382 K cn_q11_24 cf_q11_24 x1 x4 x6 x8 x9))
def F0_346 (K : Nat) (cn_q11_24 : Nat) (cf_q11_24 : Nat → Int32) (x1 : Int64) (x4 : Int64) (x6 : Int64) (x8 : Int32) (x9 : Int32) : Int32 := if (F8 (3 : Int32) x8 x1 x9 x4 x6 cn_q11_24 cf_q11_24) = 0 then (F0_594 K) else (F0_364 K cn_q11_24 cf_q11_24 x1 x4 x6 x8 x9)
def O0_346 (K : Nat) (cn_q11_24 : Nat) (cf_q11_24 : Nat → Int32) (x1 : Int64) (x4 : Int64) (x6 : Int64) (x8 : Int32) (x9 : Int32) : Prop := (O8 (3 : Int32) x8 x1 x9 x4 x6 cn_q11_24 cf_q11_24) ∧ ((F8 (3 : Int32) x8 x1 x9 x4 x6 cn_q11_24 cf_q11_24) = 0 → True) ∧ (¬ (F8 (3 : Int32) x8 x1 x9 x4 x6 cn_q11_24 cf_q11_24) = 0 → (O0_364 K cn_q11_24 cf_q11_24 x1 x4 x6 x8 x9))
def F0_328 (K : Nat) (cn_q11_24 : Nat) (cf_q11_24 : Nat → Int32) (x1 : Int64) (x4 : Int64) (x6 : Int64) (x8 : Int32) (x9 : Int32) : Int32 := if (F8 (2 : Int32) x8 x1 x9 x4 x6 cn_q11_24 cf_q11_24) = 0 then (F0_594 K) else (F0_346 K cn_q11_24 cf_q11_24 x1 x4 x6 x8 x9)
def O0_328 (K : Nat) (cn_q11_24 : Nat) (cf_q11_24 : Nat → Int32) (x1 : Int64) (x4 : Int64) (x6 : Int64) (x8 : Int32) (x9 : Int32) : Prop := (O8 (2 : Int32) x8 x1 x9 x4 x6 cn_q11_24 cf_q11_24) ∧ ((F8 (2 : Int32) x8 x1 x9 x4 x6 cn_q11_24 cf_q11_24) = 0 → True) ∧ (¬ (F8 (2 : Int32) x8 x1 x9 x4 x6 cn_q11_24 cf_q11_24) = 0 → (O0_346 K cn_q11_24 cf_q11_24 x1 x4 x6 x8 x9))
def F0_310 (K : Nat) (cn_q11_24 : Nat) (cf_q11_24 : Nat → Int32) (x1 : Int64) (x4 : Int64) (x6 : Int64) (x8 : Int32) (x9 : Int32) : Int32 := if (F8 (1 : Int32) x8 x1 x9 x4 x6 cn_q11_24 cf_q11_24) = 0 then (F0_594 K) else (F0_328 K cn_q11_24 cf_q11_24 x1 x4 x6 x8 x9)
def O0_310 (K : Nat) (cn_q11_24 : Nat) (cf_q11_24 : Nat → Int32) (x1 : Int64) (x4 : Int64) (x6 : Int64) (x8 : Int32) (x9 : Int32) : Prop := (O8 (1 : Int32) x8 x1 x9 x4 x6 cn_q11_24 cf_q11_24) ∧ ((F8 (1 : Int32) x8 x1 x9 x4 x6 cn_q11_24 cf_q11_24) = 0 → True) ∧ (¬ (F8 (1 : Int32) x8 x1 x9 x4 x6 cn_q11_24 cf_q11_24) = 0 → (O0_328 K cn_q11_24 cf_q11_24 x1 x4 x6 x8 x9))
def F0_292 (K : Nat) (cn_q11_24 : Nat) (cf_q11_24 : Nat → Int32) (x1 : Int64) (x4 : Int64) (x6 : Int64) (x8 : Int32) (x9 : Int32) : Int32 := if (F8 (0 : Int32) x8 x1 x9 x4 x6 cn_q11_24 cf_q11_24) = 0 then (F0_594 K) else (F0_310 K cn_q11_24 cf_q11_24 x1 x4 x6 x8 x9)
def O0_292 (K : Nat) (cn_q11_24 : Nat) (cf_q11_24 : Nat → Int32) (x1 : Int64) (x4 : Int64) (x6 : Int64) (x8 : Int32) (x9 : Int32) : Prop := (O8 (0 : Int32) x8 x1 x9 x4 x6 cn_q11_24 cf_q11_24) ∧ ((F8 (0 : Int32) x8 x1 x9 x4 x6 cn_q11_24 cf_q11_24) = 0 → True) ∧ (¬ (F8 (0 : Int32) x8 x1 x9 x4 x6 cn_q11_24 cf_q11_24) = 0 → (O0_310 K cn_q11_24 cf_q11_24 x1 x4 x6 x8 x9))
def F0_282 (K : Nat) (cq18_size : Int32) (cn_q11_24 : Nat) (cf_q11_24 : Nat → Int32) (x1 : Int64) (x4 : Int64) (x6 : Int64) (x8 : Int32) (x9 : Int32) : Int32 := if (F7 cq18_size cn_q11_24 cf_q11_24) = 0 then (F0_292 K cn_q11_24 cf_q11_24 x1 x4 x6 x8 x9) else (F0_290 K)
def O0_282 (K : Nat) (cq18_size : Int32) (cn_q11_24 : Nat) (cf_q11_24 : Nat → Int32) (x1 : Int64) (x4 : Int64) (x6 : Int64) (x8 : Int32) (x9 : Int32) : Prop := ((F7 cq18_size cn_q11_24 cf_q11_24) = 0 → (O0_292 K cn_q11_24 cf_q11_24 x1 x4 x6 x8 x9)) ∧ (¬ (F7 cq18_size cn_q11_24 cf_q11_24) = 0 → True)
def F0_46 (K : Nat) (cq18_size : Int32) (cn_q11_24 : Nat) (cf_q11_24 : Nat → Int32) (x1 : Int64) (x4 : Int64) (x6 : Int64) (x8 : Int32) (x9 : Int32) : Int32 := (F0_282 K cq18_size cn_q11_24 (F6 K x8 x1 x9 cq18_size cn_q11_24 (upd (upd (upd (upd (upd (upd (upd (upd (upd (upd (upd (upd (upd (upd (upd (upd cf_q11_24 0 (nar .byte (F5 x4 x6 (0 : Int32)))) 1 (nar .byte (F5 x4 x6 (1 : Int32)))) 2 (nar .byte (F5 x4 x6 (2 : Int32)))) 3 (nar .byte (F5 x4 x6 (3 : Int32)))) 4 (nar .byte (F5 x4 x6 (4 : Int32)))) 5 (nar .byte (F5 x4 x6 (5 : Int32)))) 6 (nar .byte (F5 x4 x6 (6 : Int32)))) 7 (nar .byte (F5 x4 x6 (7 : Int32)))) 8 (nar .byte (F5 x4 x6 (8 : Int32)))) 9 (nar .byte (F5 x4 x6 (9 : Int32)))) 10 (nar .byte (F5 x4 x6 (10 : Int32)))) 11 (nar .byte (F5 x4 x6 (11 : Int32)))) 12 (nar .byte (F5 x4 x6 (12 : Int32)))) 13 (nar .byte (F5 x4 x6 (13 : Int32)))) 14 (nar .byte (F5 x4 x6 (14 : Int32)))) 15 (nar .byte (F5 x4 x6 (15 : Int32))))) x1 x4 x6 x8 x9)
def O0_46 (K : Nat) (cq18_size : Int32) (cn_q11_24 : Nat) (cf_q11_24 : Nat → Int32) (x1 : Int64) (x4 : Int64) (x6 : Int64) (x8 : Int32) (x9 : Int32) : Prop := (inb (0 : Int32) cn_q11_24) ∧ (inb (1 : Int32) cn_q11_24) ∧ (inb (2 : Int32) cn_q11_24) ∧ (inb (3 : Int32) cn_q11_24) ∧ (inb (4 : Int32) cn_q11_24) ∧ (inb (5 : Int32) cn_q11_24) ∧ (inb (6 : Int32) cn_q11_24) ∧ (inb (7 : Int32) cn_q11_24) ∧ (inb (8 : Int32) cn_q11_24) ∧ (inb (9 : Int32) cn_q11_24) ∧ (inb (10 : Int32) cn_q11_24) ∧ (inb (11 : Int32) cn_q11_24) ∧ (inb (12 : Int32) cn_q11_24) ∧ (inb (13 : Int32) cn_q11_24) ∧ (inb (14 : Int32) cn_q11_24) ∧ (inb (15 : Int32) cn_q11_24) ∧ (O6 K x8 x1 x9 cq18_size cn_q11_24 (upd (upd (upd (upd (upd (upd (upd (upd (upd (upd (upd (upd (upd (upd (upd (upd cf_q11_24 0 (nar .byte (F5 x4 x6 (0 : Int32)))) 1 (nar .byte (F5 x4 x6 (1 : Int32)))) 2 (nar .byte (F5 x4 x6 (2 : Int32)))) 3 (nar .byte (F5 x4 x6 (3 : Int32)))) 4 (nar .byte (F5 x4 x6 (4 : Int32)))) 5 (nar .byte (F5 x4 x6 (5 : Int32)))) 6 (nar .byte (F5 x4 x6 (6 : Int32)))) 7 (nar .byte (F5 x4 x6 (7 : Int32)))) 8 (nar .byte (F5 x4 x6 (8 : Int32)))) 9 (nar .byte (F5 x4 x6 (9 : Int32)))) 10 (nar .byte (F5 x4 x6 (10 : Int32)))) 11 (nar .byte (F5 x4 x6 (11 : Int32)))) 12 (nar .byte (F5 x4 x6 (12 : Int32)))) 13 (nar .byte (F5 x4 x6 (13 : Int32)))) 14 (nar .byte (F5 x4 x6 (14 : Int32)))) 15 (nar .byte (F5 x4 x6 (15 : Int32))))) ∧ (O0_282 K cq18_size cn_q11_24 (F6 K x8 x1 x9 cq18_size cn_q11_24 (upd (upd (upd (upd (upd (upd (upd (upd (upd (upd (upd (upd (upd (upd (upd (upd cf_q11_24 0 (nar .byte (F5 x4 x6 (0 : Int32)))) 1 (nar .byte (F5 x4 x6 (1 : Int32)))) 2 (nar .byte (F5 x4 x6 (2 : Int32)))) 3 (nar .byte (F5 x4 x6 (3 : Int32)))) 4 (nar .byte (F5 x4 x6 (4 : Int32)))) 5 (nar .byte (F5 x4 x6 (5 : Int32)))) 6 (nar .byte (F5 x4 x6 (6 : Int32)))) 7 (nar .byte (F5 x4 x6 (7 : Int32)))) 8 (nar .byte (F5 x4 x6 (8 : Int32)))) 9 (nar .byte (F5 x4 x6 (9 : Int32)))) 10 (nar .byte (F5 x4 x6 (10 : Int32)))) 11 (nar .byte (F5 x4 x6 (11 : Int32)))) 12 (nar .byte (F5 x4 x6 (12 : Int32)))) 13 (nar .byte (F5 x4 x6 (13 : Int32)))) 14 (nar .byte (F5 x4 x6 (14 : Int32)))) 15 (nar .byte (F5 x4 x6 (15 : Int32))))) x1 x4 x6 x8 x9)
def F0_18 (K : Nat) (x1 : Int64) (x4 : Int64) (x6 : Int64) (x8 : Int32) (x9 : Int32) : Int32 := if (Nat.toInt32 (F1 (16 : Int32) (0 : Int32)).1) = (16 : Int32) then (F0_46 K (0 : Int32) (F1 (16 : Int32) (0 : Int32)).1 (F1 (16 : Int32) (0 : Int32)).2 x1 x4 x6 x8 x9) else (F0_44 K)
def O0_18 (K : Nat) (x1 : Int64) (x4 : Int64) (x6 : Int64) (x8 : Int32) (x9 : Int32) : Prop := (O1 (16 : Int32) (0 : Int32)) ∧ ((Nat.toInt32 (F1 (16 : Int32) (0 : Int32)).1) = (16 : Int32) → (O0_46 K (0 : Int32) (F1 (16 : Int32) (0 : Int32)).1 (F1 (16 : Int32) (0 : Int32)).2 x1 x4 x6 x8 x9)) ∧ (¬ (Nat.toInt32 (F1 (16 : Int32) (0 : Int32)).1) = (16 : Int32) → True)
def F0_9 (K : Nat) (x1 : Int64) (x3 : Int32) (x4 : Int64) (x6 : Int64) (x8 : Int32) : Int32 := (F0_18 K x1 x4 x6 x8 ((x3 &&& (2147483647 : Int32)) % (9 : Int32)))
def O0_9 (K : Nat) (x1 : Int64) (x3 : Int32) (x4 : Int64) (x6 : Int64) (x8 : Int32) : Prop := (O0_18 K x1 x4 x6 x8 ((x3 &&& (2147483647 : Int32)) % (9 : Int32)))
def F0 (K : Nat) (p0 : Int32) (p1 : Int64) (p2 : Int32) (p3 : Int64) (p4 : Int64) : Int32 := (F0_9 K p1 p2 p3 p4 ((p0 &&& (2147483647 : Int32)) % (9 : Int32)))
def O0 (K : Nat) (p0 : Int32) (p1 : Int64) (p2 : Int32) (p3 : Int64) (p4 : Int64) : Prop := (O0_9 K p1 p2 p3 p4 ((p0 &&& (2147483647 : Int32)) % (9 : Int32)))
theorem pd_0 : parseMethodDescriptor "(II)I" = some ⟨[.int, .int], (some .int)⟩ := by decide +kernel
theorem pd_1 : parseMethodDescriptor "(JJI)B" = some ⟨[.long, .long, .int], (some .byte)⟩ := by decide +kernel
theorem pd_2 : parseMethodDescriptor "(I)V" = some ⟨[.int], none⟩ := by decide +kernel
theorem pd_3 : parseMethodDescriptor "()[B" = some ⟨[], (some (.array .byte))⟩ := by decide +kernel
theorem pd_4 : parseMethodDescriptor "(IJI)V" = some ⟨[.int, .long, .int], none⟩ := by decide +kernel
theorem pd_5 : parseMethodDescriptor "()I" = some ⟨[], (some .int)⟩ := by decide +kernel
theorem pd_6 : parseMethodDescriptor "([BIIJIJJ)Z" = some ⟨[(.array .byte), .int, .int, .long, .int, .long, .long], (some .boolean)⟩ := by decide +kernel
theorem d3_0 : decode jdk_29_method_65_code 0 = .ok (.iload_n 0, 1) := by decide +kernel
theorem d3_1 : decode jdk_29_method_65_code 1 = .ok (.iload_n 1, 1) := by decide +kernel
theorem d3_2 : decode jdk_29_method_65_code 2 = .ok (.if_icmp .lt 7, 3) := by decide +kernel
theorem d3_5 : decode jdk_29_method_65_code 5 = .ok (.iload_n 0, 1) := by decide +kernel
theorem d3_6 : decode jdk_29_method_65_code 6 = .ok (.goto 4, 3) := by decide +kernel
theorem d3_9 : decode jdk_29_method_65_code 9 = .ok (.iload_n 1, 1) := by decide +kernel
theorem d3_10 : decode jdk_29_method_65_code 10 = .ok (.ireturn, 1) := by decide +kernel
theorem pn_3 : plainFor (⟨"java/lang/Math", "max", "(II)I"⟩ : MethodName) = true := by first | exact plainFor_of_name (by first | (simp [plainName, overriddenIn]; done) | decide +kernel) | decide +kernel
theorem ef_3 (m : MethodId) (y0 : Int32) (y1 : Int32) : entryFrame m #[(.int y0), (.int y1)] 2 = mkF m 0 #[.val (.int y0), .val (.int y1)] [] := by first | (simp [entryFrame, mkF, argsToLocals, Value.category]; done) | rfl
def Q3 (Z : State)   (h0 : Heap) (n0 : Nat) (ans : Int32) (v : Option Value) (h : Heap) (L : List Loc) : Prop := v = some (.int ans) ∧ Fr n0 L ∧ h = h0
set_option maxRecDepth 65536 in
set_option maxHeartbeats 40000000 in
theorem rm3 (l : Launch) (Z : State) (a0 : Array Value) (hw : ∀ d ∈ tables_1, d.before a0 Z = true) (p0 : Int32) (p1 : Int32)  (h0 : Heap) (n0 : Nat) (Z0 : n0 ≤ h0.size)  :
    Meets l Z (⟨"java/lang/Math", "max", "(II)I"⟩ : MethodName) jdk_29_method_65_code 2 (some .int) [] ({ frames := 0, cells := 0, slots := 0, locals := 0 } : Room) #[(.int p0), (.int p1)] h0 (Q3 Z  h0 n0 (F3 p0 p1)) 0 0 := by
  refine Meets.of pn_3 ?_
  intro p e s m below meth c s₁ hx hby hml hZ hown hnm hret hlk X0 e0
  have hml : c.maxLocals = 2 := hml
  have hown : s.vm.findClass "java/lang/Math" = some m.cls := hown
  have N0 := Fr.nil n0
  have b10 : ∀ (T : State) (L : List Loc) (X : Stand p l e ({ frames := 0, cells := 0, slots := 0, locals := 0 } : Room) s m #[(.int p0), (.int p1)] below meth c T L 0 0) (eT : T.heap = h0) (N : Fr n0 L) (t0 : Int32) (d0 : Slot) (od0 : OneS d0) (d1 : Slot) (od1 : OneS d1), Ends p e below s 0 0 (Q3 Z  h0 n0 (F3_10 t0)) (T.setTop (mkF m 10 #[d0, d1] [(.int t0)])) := by
    intro T L X eT N t0 d0 od0 d1 od1
    exact Ends.ret X (v := some (.int t0)) (fun q => by rw [hret] at q; cases q) hlk (fun fs hr => retI X hx hret (hb hby d3_10) hr) (by decide) (by decide) ⟨rfl, N, eT⟩
  have b5 : ∀ (T : State) (L : List Loc) (X : Stand p l e ({ frames := 0, cells := 0, slots := 0, locals := 0 } : Room) s m #[(.int p0), (.int p1)] below meth c T L 0 0) (eT : T.heap = h0) (N : Fr n0 L) (x0 : Int32) (d1 : Slot) (od1 : OneS d1), Ends p e below s 0 0 (Q3 Z  h0 n0 (F3_5 x0)) (T.setTop (mkF m 5 #[.val (.int x0), d1] [])) := by
    intro T L X eT N x0 d1 od1
    refine Ends.step (u' := (T.setTop (mkF m 6 #[.val (.int x0), d1] [(.int x0)]))) ?_ (fun _ k => XS.iloadN X.here hx rfl (hb hby d3_5) rfl k)
    refine Ends.step (u' := (T.setTop (mkF m 10 #[.val (.int x0), d1] [(.int x0)]))) ?_ (fun _ k => XS.goto X.here hx rfl (pc0 := 6) (pc' := 10) rfl (hb hby d3_6) (by decide) (by decide) k)
    exact b10 T _ X eT N x0 (.val (.int x0)) (Or.inr ⟨_, rfl, rfl⟩) (d1) od1
  have b9 : ∀ (T : State) (L : List Loc) (X : Stand p l e ({ frames := 0, cells := 0, slots := 0, locals := 0 } : Room) s m #[(.int p0), (.int p1)] below meth c T L 0 0) (eT : T.heap = h0) (N : Fr n0 L) (x1 : Int32) (d0 : Slot) (od0 : OneS d0), Ends p e below s 0 0 (Q3 Z  h0 n0 (F3_9 x1)) (T.setTop (mkF m 9 #[d0, .val (.int x1)] [])) := by
    intro T L X eT N x1 d0 od0
    refine Ends.step (u' := (T.setTop (mkF m 10 #[d0, .val (.int x1)] [(.int x1)]))) ?_ (fun _ k => XS.iloadN X.here hx rfl (hb hby d3_9) rfl k)
    exact b10 T _ X eT N x1 (d0) od0 (.val (.int x1)) (Or.inr ⟨_, rfl, rfl⟩)
  refine Ends.step (u' := (s₁.setTop (mkF m 0 #[.val (.int p0), .val (.int p1)] []))) ?_ (fun _ k => castTop (ef_3 m p0 p1) k)
  refine Ends.step (u' := (s₁.setTop (mkF m 1 #[.val (.int p0), .val (.int p1)] [(.int p0)]))) ?_ (fun _ k => XS.iloadN X0.here hx rfl (hb hby d3_0) rfl k)
  refine Ends.step (u' := (s₁.setTop (mkF m 2 #[.val (.int p0), .val (.int p1)] [(.int p1), (.int p0)]))) ?_ (fun _ k => XS.iloadN X0.here hx rfl (hb hby d3_1) rfl k)
  by_cases hc2 : p0 < p1
  · refine Eq.mp (congrArg (fun z => Ends p e below s 0 0 (Q3 Z  h0 n0 z) (s₁.setTop (mkF m 2 #[.val (.int p0), .val (.int p1)] [(.int p1), (.int p0)]))) (show (F3 p0 p1) = (F3_9 p1) from (if_pos hc2)).symm) ?_
    refine Ends.step (u' := (s₁.setTop (mkF m 9 #[.val (.int p0), .val (.int p1)] []))) ?_ (fun _ k => XS.icmpYes X0.here hx rfl (pc0 := 2) (pc' := 9) rfl (hb hby d3_2) rfl (XT.ii_lt_t hc2) (by decide) (by decide) k)
    exact b9 s₁ _ X0 e0 N0 p1 (.val (.int p0)) (Or.inr ⟨_, rfl, rfl⟩)
  · refine Eq.mp (congrArg (fun z => Ends p e below s 0 0 (Q3 Z  h0 n0 z) (s₁.setTop (mkF m 2 #[.val (.int p0), .val (.int p1)] [(.int p1), (.int p0)]))) (show (F3 p0 p1) = (F3_5 p0) from (if_neg hc2)).symm) ?_
    refine Ends.step (u' := (s₁.setTop (mkF m 5 #[.val (.int p0), .val (.int p1)] []))) ?_ (fun _ k => XS.icmpNo X0.here hx rfl (hb hby d3_2) rfl (XT.ii_lt_f hc2) k)
    exact b5 s₁ _ X0 e0 N0 p0 (.val (.int p1)) (Or.inr ⟨_, rfl, rfl⟩)
theorem d1_0 : decode prog_116_method_1_code 0 = .ok (.aload_n 0, 1) := by decide +kernel
theorem d1_1 : decode prog_116_method_1_code 1 = .ok (.invokespecial 1, 3) := by decide +kernel
theorem d1_4 : decode prog_116_method_1_code 4 = .ok (.aload_n 0, 1) := by decide +kernel
theorem d1_5 : decode prog_116_method_1_code 5 = .ok (.iload_n 1, 1) := by decide +kernel
theorem d1_6 : decode prog_116_method_1_code 6 = .ok (.bipush 16, 2) := by decide +kernel
theorem d1_8 : decode prog_116_method_1_code 8 = .ok (.invokestatic 7, 3) := by decide +kernel
theorem d1_11 : decode prog_116_method_1_code 11 = .ok (.newarray .byte, 2) := by decide +kernel
theorem d1_13 : decode prog_116_method_1_code 13 = .ok (.putfield 13, 3) := by decide +kernel
theorem d1_16 : decode prog_116_method_1_code 16 = .ok (.return_, 1) := by decide +kernel
theorem pn_1 : plainFor (⟨"lakewright/zstd/Sink", "<init>", "(I)V"⟩ : MethodName) = true := by first | exact plainFor_of_name (by first | (simp [plainName, overriddenIn]; done) | decide +kernel) | decide +kernel
theorem ef_1 (m : MethodId) (y0 : Addr) (y1 : Int32) : entryFrame m #[(.ref y0), (.int y1)] 2 = mkF m 0 #[.val (.ref y0), .val (.int y1)] [] := by first | (simp [entryFrame, mkF, argsToLocals, Value.category]; done) | rfl
def Q1 (Z : State) (a_o0 : Addr) (o0_size : Int32) (h0 : Heap) (n0 : Nat) (ans : Nat × (Nat → Int32)) (v : Option Value) (h : Heap) (L : List Loc) : Prop := ∃ r_q11 : Addr, v = none ∧ Fr n0 L ∧ Keep h0 h [a_o0] ∧ Fld Z h a_o0 "lakewright/zstd/Sink" "bytes" "[B" (.ref r_q11) ∧ Fld Z h a_o0 "lakewright/zstd/Sink" "size" "I" (.int o0_size) ∧ h0.size ≤ r_q11 ∧ Ar Z h r_q11 .byte ans.1 ans.2
set_option maxRecDepth 65536 in
set_option maxHeartbeats 40000000 in
theorem rm1 (l : Launch) (Z : State) (a0 : Array Value) (hw : ∀ d ∈ tables_1, d.before a0 Z = true) (p1 : Int32) (o0_size : Int32) (a_o0 : Addr) (h0 : Heap) (n0 : Nat) (Z0 : n0 ≤ h0.size) (E_o0 : Exa Z h0 a_o0 "lakewright/zstd/Sink") (F_o0_bytes : Fld Z h0 a_o0 "lakewright/zstd/Sink" "bytes" "[B" .null) (F_o0_size : Fld Z h0 a_o0 "lakewright/zstd/Sink" "size" "I" (.int o0_size)) (g_o0 : n0 ≤ a_o0) (ok : O1 p1 o0_size) :
    Meets l Z (⟨"lakewright/zstd/Sink", "<init>", "(I)V"⟩ : MethodName) prog_116_method_1_code 2 none [] ({ frames := 1, cells := 1, slots := 16, locals := 14 } : Room) #[(.ref a_o0), (.int p1)] h0 (Q1 Z a_o0 o0_size h0 n0 (F1 p1 o0_size)) 1 16 := by
  refine Meets.of pn_1 ?_
  intro p e s m below meth c s₁ hx hby hml hZ hown hnm hret hlk X0 e0
  have hml : c.maxLocals = 2 := hml
  have hown : s.vm.findClass "lakewright/zstd/Sink" = some m.cls := hown
  have N0 := Fr.nil n0
  have K0 := Keep.refl h0 [a_o0]
  refine Ends.step (u' := (s₁.setTop (mkF m 0 #[.val (.ref a_o0), .val (.int p1)] []))) ?_ (fun _ k => castTop (ef_1 m a_o0 p1) k)
  obtain ⟨o1, o2, ok⟩ := ok
  refine Ends.step (u' := (s₁.setTop (mkF m 1 #[.val (.ref a_o0), .val (.int p1)] [(.ref a_o0)]))) ?_ (fun _ k => XS.aloadN X0.here hx rfl (hb hby d1_0) rfl rfl k)
  refine Ends.initO X0 hx hZ hown (hw _ (List.mem_of_getElem? (i := 7) rfl)) (hw _ (List.mem_of_getElem? (i := 8) rfl)) (hw _ (List.mem_of_getElem? (i := 9) rfl)) e0 (g := (mkF m 1 #[.val (.ref a_o0), .val (.int p1)] [(.ref a_o0)])) rfl (by rw [hml]; rfl) rfl (hb hby d1_1) (by decide) 0 (by show 2 * 0 + _ ≤ _; exact Nat.le_of_eq rfl) (by decide) (fun T1 X1 e1 => ?_)
  show Ends p e below s _ _ _ (T1.setTop (mkF m 4 #[.val (.ref a_o0), .val (.int p1)] []))
  refine Ends.step (u' := (T1.setTop (mkF m 5 #[.val (.ref a_o0), .val (.int p1)] [(.ref a_o0)]))) ?_ (fun _ k => XS.aloadN X1.here hx rfl (hb hby d1_4) rfl rfl k)
  refine Ends.step (u' := (T1.setTop (mkF m 6 #[.val (.ref a_o0), .val (.int p1)] [(.int p1), (.ref a_o0)]))) ?_ (fun _ k => XS.iloadN X1.here hx rfl (hb hby d1_5) rfl k)
  refine Ends.step (u' := (T1.setTop (mkF m 8 #[.val (.ref a_o0), .val (.int p1)] [(.int (16 : Int32)), (.int p1), (.ref a_o0)]))) ?_ (fun _ k => XT.bipushV X1.here hx rfl (16 : Int32) (hb hby d1_6) rfl k)
  refine Ends.callS X1 hx hZ hown (hw _ (List.mem_of_getElem? (i := 10) rfl)) (hw _ (List.mem_of_getElem? (i := 11) rfl)) (hw _ (List.mem_of_getElem? (i := 12) rfl)) (hw _ (List.mem_of_getElem? (i := 13) rfl)) (by decide) (rm3 l Z a0 hw p1 (16 : Int32) h0 n0 Z0) 1 (by decide) (by decide) e1  (g := (mkF m 8 #[.val (.ref a_o0), .val (.int p1)] [(.int (16 : Int32)), (.int p1), (.ref a_o0)])) rfl (by rw [hml]; rfl)  [(.int p1), (.int (16 : Int32))] [(.ref a_o0)] (lenOf pd_0 rfl) rfl (by show 2 * 0 + _ ≤ _; exact Nat.le_of_eq rfl) (hb hby d1_8) rfl (by decide) (by decide) (fun v2 T2 L2 X2 hQ2 => ?_)
  obtain ⟨rfl, Nq2, e2⟩ := hQ2
  have N2 := Fr.app N0 Nq2
  show Ends p e below s _ _ _ (T2.setTop (mkF m 11 #[.val (.ref a_o0), .val (.int p1)] [(.int (F3 p1 (16 : Int32))), (.ref a_o0)]))
  refine Ends.newA X2 hx hZ (hw _ (List.mem_of_getElem? (i := 14) rfl)) e2 (g := (mkF m 11 #[.val (.ref a_o0), .val (.int p1)] [(.int (F3 p1 (16 : Int32))), (.ref a_o0)])) rfl (hb hby d1_11) rfl rfl o1 16 o2 (by decide) (by decide) (by decide) (fun T3 h3 a3 X3 e3 E3 q3 A3 => ?_)
  have ne4 : a_o0 ≠ a3 := q3 ▸ Nat.ne_of_lt E_o0.lt
  have E5 := E_o0.ext E3
  have Fd6 := F_o0_bytes.ext E3
  have Fd7 := F_o0_size.ext E3
  have g8 : n0 ≤ a3 := q3 ▸ Z0
  have fr9 : h0.size ≤ a3 := q3 ▸ K0.1
  have K10 := K0.ext E3
  have Z11 := Nat.le_trans Z0 E3.1
  show Ends p e below s _ _ _ (T3.setTop (mkF m 13 #[.val (.ref a_o0), .val (.int p1)] [(.ref a3), (.ref a_o0)]))
  refine Ends.putF X3 hx hZ hown (hw _ (List.mem_of_getElem? (i := 15) rfl)) e3 Fd6 E5 (Or.inl (hw _ (List.mem_of_getElem? (i := 16) rfl))) (hw _ (List.mem_of_getElem? (i := 2) rfl)) (tf := (.array .byte)) (by decide) rfl rfl N2 g_o0 (g := (mkF m 13 #[.val (.ref a_o0), .val (.int p1)] [(.ref a3), (.ref a_o0)])) rfl rfl (hb hby d1_13) (fun T12 h12 X12 e12 N12 W12 => ?_)
  have Fd13 := Fd6.same W12
  have Fd14 := Fd7.other W12 (Or.inr (slot_ne (a0 := a0) (Or.inl (hw _ (List.mem_of_getElem? (i := 37) rfl))) (Or.inl (hw _ (List.mem_of_getElem? (i := 16) rfl))) (by decide) (t := .int) (t' := (.array .byte)) (by decide) (by decide)))
  have E15 := E5.wr W12
  show Ends p e below s _ _ _ (T12.setTop (mkF m 16 #[.val (.ref a_o0), .val (.int p1)] []))
  have A16 := A3.other W12 ne4.symm
  have Z17 : n0 ≤ h12.size := W12.size.symm ▸ Z11
  have K18 := K10.wr W12 (Or.inl (List.mem_of_getElem? (i := 0) rfl))
  exact Ends.ret X12 (v := none) (fun _ => rfl) hlk (fun fs hr => X12.returnOut hx hret (hb hby d1_16) hr) (by decide) (by decide) (by rw [e12]; exact ⟨a3, rfl, N12, K18, Fd13, Fd14, fr9, A16⟩)
theorem d4_0 : decode prog_116_method_2_code 0 = .ok (.aload_n 0, 1) := by decide +kernel
theorem d4_1 : decode prog_116_method_2_code 1 = .ok (.getfield 13, 3) := by decide +kernel
theorem d4_4 : decode prog_116_method_2_code 4 = .ok (.areturn, 1) := by decide +kernel
theorem pn_4 : plainFor (⟨"lakewright/zstd/Sink", "bytes", "()[B"⟩ : MethodName) = true := by first | exact plainFor_of_name (by first | (simp [plainName, overriddenIn]; done) | decide +kernel) | decide +kernel
theorem ef_4 (m : MethodId) (y0 : Addr) : entryFrame m #[(.ref y0)] 1 = mkF m 0 #[.val (.ref y0)] [] := by first | (simp [entryFrame, mkF, argsToLocals, Value.category]; done) | rfl
def Q4 (Z : State) (a_o0 : Addr) (a_o0_bytes : Addr) (o0_size : Int32) (n_o0_bytes : Nat) (f_o0_bytes : Nat → Int32) (h0 : Heap) (n0 : Nat) (ans : Unit) (v : Option Value) (h : Heap) (L : List Loc) : Prop := v = some (.ref a_o0_bytes) ∧ Fr n0 L ∧ h = h0
set_option maxRecDepth 65536 in
set_option maxHeartbeats 40000000 in
theorem rm4 (l : Launch) (Z : State) (a0 : Array Value) (hw : ∀ d ∈ tables_1, d.before a0 Z = true) (o0_size : Int32) (n_o0_bytes : Nat) (f_o0_bytes : Nat → Int32) (a_o0 : Addr) (a_o0_bytes : Addr) (h0 : Heap) (n0 : Nat) (Z0 : n0 ≤ h0.size) (E_o0 : Exa Z h0 a_o0 "lakewright/zstd/Sink") (F_o0_bytes : Fld Z h0 a_o0 "lakewright/zstd/Sink" "bytes" "[B" (.ref a_o0_bytes)) (F_o0_size : Fld Z h0 a_o0 "lakewright/zstd/Sink" "size" "I" (.int o0_size)) (A_o0_bytes : Ar Z h0 a_o0_bytes .byte n_o0_bytes f_o0_bytes) :
    Meets l Z (⟨"lakewright/zstd/Sink", "bytes", "()[B"⟩ : MethodName) prog_116_method_2_code 1 (some (.array .byte)) [] ({ frames := 0, cells := 0, slots := 0, locals := 0 } : Room) #[(.ref a_o0)] h0 (Q4 Z a_o0 a_o0_bytes o0_size n_o0_bytes f_o0_bytes h0 n0 (F4 o0_size n_o0_bytes f_o0_bytes)) 0 0 := by
  refine Meets.of pn_4 ?_
  intro p e s m below meth c s₁ hx hby hml hZ hown hnm hret hlk X0 e0
  have hml : c.maxLocals = 1 := hml
  have hown : s.vm.findClass "lakewright/zstd/Sink" = some m.cls := hown
  have N0 := Fr.nil n0
  refine Ends.step (u' := (s₁.setTop (mkF m 0 #[.val (.ref a_o0)] []))) ?_ (fun _ k => castTop (ef_4 m a_o0) k)
  refine Ends.step (u' := (s₁.setTop (mkF m 1 #[.val (.ref a_o0)] [(.ref a_o0)]))) ?_ (fun _ k => XS.aloadN X0.here hx rfl (hb hby d4_0) rfl rfl k)
  refine Ends.getF X0 hx hZ hown (hw _ (List.mem_of_getElem? (i := 15) rfl)) e0 F_o0_bytes (g := (mkF m 1 #[.val (.ref a_o0)] [(.ref a_o0)])) rfl rfl (hb hby d4_1) (fun T1 X1 e1 => ?_)
  show Ends p e below s _ _ _ (T1.setTop (mkF m 4 #[.val (.ref a_o0)] [(.ref a_o0_bytes)]))
  exact Ends.ret X1 (v := some (.ref a_o0_bytes)) (fun q => by rw [hret] at q; cases q) hlk (fun fs hr => X1.areturnOut hx rfl hret rfl (hb hby d4_4) hr) (by decide) (by decide) ⟨rfl, N0, e1⟩
theorem d5_0 : decode method_2_code 0 = .ok (.iload 4, 2) := by decide +kernel
theorem d5_2 : decode method_2_code 2 = .ok (.bipush 8, 2) := by decide +kernel
theorem d5_4 : decode method_2_code 4 = .ok (.if_icmp .ge 13, 3) := by decide +kernel
theorem d5_7 : decode method_2_code 7 = .ok (.lload_n 0, 1) := by decide +kernel
theorem d5_8 : decode method_2_code 8 = .ok (.bipush 8, 2) := by decide +kernel
theorem d5_10 : decode method_2_code 10 = .ok (.iload 4, 2) := by decide +kernel
theorem d5_12 : decode method_2_code 12 = .ok (.imul, 1) := by decide +kernel
theorem d5_13 : decode method_2_code 13 = .ok (.lushr, 1) := by decide +kernel
theorem d5_14 : decode method_2_code 14 = .ok (.l2i, 1) := by decide +kernel
theorem d5_15 : decode method_2_code 15 = .ok (.i2b, 1) := by decide +kernel
theorem d5_16 : decode method_2_code 16 = .ok (.ireturn, 1) := by decide +kernel
theorem d5_17 : decode method_2_code 17 = .ok (.lload_n 2, 1) := by decide +kernel
theorem d5_18 : decode method_2_code 18 = .ok (.bipush 8, 2) := by decide +kernel
theorem d5_20 : decode method_2_code 20 = .ok (.iload 4, 2) := by decide +kernel
theorem d5_22 : decode method_2_code 22 = .ok (.bipush 8, 2) := by decide +kernel
theorem d5_24 : decode method_2_code 24 = .ok (.isub, 1) := by decide +kernel
theorem d5_25 : decode method_2_code 25 = .ok (.imul, 1) := by decide +kernel
theorem d5_26 : decode method_2_code 26 = .ok (.lushr, 1) := by decide +kernel
theorem d5_27 : decode method_2_code 27 = .ok (.l2i, 1) := by decide +kernel
theorem d5_28 : decode method_2_code 28 = .ok (.i2b, 1) := by decide +kernel
theorem d5_29 : decode method_2_code 29 = .ok (.ireturn, 1) := by decide +kernel
theorem pn_5 : plainFor (⟨"lakewright/zstd/SinkPutNumberPinLaw", "orig", "(JJI)B"⟩ : MethodName) = true := by first | exact plainFor_of_name (by first | (simp [plainName, overriddenIn]; done) | decide +kernel) | decide +kernel
theorem ef_5 (m : MethodId) (y0 : Int64) (y1 : Int64) (y2 : Int32) : entryFrame m #[(.long y0), (.long y1), (.int y2)] 5 = mkF m 0 #[.val (.long y0), .second, .val (.long y1), .second, .val (.int y2)] [] := by first | (simp [entryFrame, mkF, argsToLocals, Value.category]; done) | rfl
def Q5 (Z : State)   (h0 : Heap) (n0 : Nat) (ans : Int32) (v : Option Value) (h : Heap) (L : List Loc) : Prop := v = some (.int ans) ∧ Fr n0 L ∧ h = h0
set_option maxRecDepth 65536 in
set_option maxHeartbeats 40000000 in
theorem rm5 (l : Launch) (Z : State) (a0 : Array Value) (hw : ∀ d ∈ tables_1, d.before a0 Z = true) (p0 : Int64) (p1 : Int64) (p2 : Int32)  (h0 : Heap) (n0 : Nat) (Z0 : n0 ≤ h0.size)  :
    Meets l Z (⟨"lakewright/zstd/SinkPutNumberPinLaw", "orig", "(JJI)B"⟩ : MethodName) method_2_code 5 (some .byte) [] ({ frames := 0, cells := 0, slots := 0, locals := 0 } : Room) #[(.long p0), (.long p1), (.int p2)] h0 (Q5 Z  h0 n0 (F5 p0 p1 p2)) 0 0 := by
  refine Meets.of pn_5 ?_
  intro p e s m below meth c s₁ hx hby hml hZ hown hnm hret hlk X0 e0
  have hml : c.maxLocals = 5 := hml
  have hown : s.vm.findClass "lakewright/zstd/SinkPutNumberPinLaw" = some m.cls := hown
  have N0 := Fr.nil n0
  have b7 : ∀ (T : State) (L : List Loc) (X : Stand p l e ({ frames := 0, cells := 0, slots := 0, locals := 0 } : Room) s m #[(.long p0), (.long p1), (.int p2)] below meth c T L 0 0) (eT : T.heap = h0) (N : Fr n0 L) (x0 : Int64) (x4 : Int32) (z2 : Int64), Ends p e below s 0 0 (Q5 Z  h0 n0 (F5_7 x0 x4)) (T.setTop (mkF m 7 #[.val (.long x0), .second, .val (.long z2), .second, .val (.int x4)] [])) := by
    intro T L X eT N x0 x4 z2
    refine Ends.step (u' := (T.setTop (mkF m 8 #[.val (.long x0), .second, .val (.long z2), .second, .val (.int x4)] [(.long x0)]))) ?_ (fun _ k => XT.lloadN X.here hx rfl (hb hby d5_7) rfl k)
    refine Ends.step (u' := (T.setTop (mkF m 10 #[.val (.long x0), .second, .val (.long z2), .second, .val (.int x4)] [(.int (8 : Int32)), (.long x0)]))) ?_ (fun _ k => XT.bipushV X.here hx rfl (8 : Int32) (hb hby d5_8) rfl k)
    refine Ends.step (u' := (T.setTop (mkF m 12 #[.val (.long x0), .second, .val (.long z2), .second, .val (.int x4)] [(.int x4), (.int (8 : Int32)), (.long x0)]))) ?_ (fun _ k => XS.iload X.here hx rfl (hb hby d5_10) rfl k)
    refine Ends.step (u' := (T.setTop (mkF m 13 #[.val (.long x0), .second, .val (.long z2), .second, .val (.int x4)] [(.int ((8 : Int32) * x4)), (.long x0)]))) ?_ (fun _ k => XS.imul X.here hx rfl (hb hby d5_12) rfl k)
    refine Ends.step (u' := (T.setTop (mkF m 14 #[.val (.long x0), .second, .val (.long z2), .second, .val (.int x4)] [(.long (XT.ushrL x0 ((8 : Int32) * x4)))]))) ?_ (fun _ k => XT.lushr X.here hx rfl (hb hby d5_13) rfl k)
    refine Ends.step (u' := (T.setTop (mkF m 15 #[.val (.long x0), .second, .val (.long z2), .second, .val (.int x4)] [(.int (((XT.ushrL x0 ((8 : Int32) * x4))).toInt32))]))) ?_ (fun _ k => XT.l2i X.here hx rfl (hb hby d5_14) rfl k)
    refine Ends.step (u' := (T.setTop (mkF m 16 #[.val (.long x0), .second, .val (.long z2), .second, .val (.int x4)] [(.int (((((XT.ushrL x0 ((8 : Int32) * x4))).toInt32)).toInt8.toInt32))]))) ?_ (fun _ k => XT.i2b X.here hx rfl (hb hby d5_15) rfl k)
    exact Ends.ret X (v := some (.int (nar .byte (((((XT.ushrL x0 ((8 : Int32) * x4))).toInt32)).toInt8.toInt32)))) (fun q => by rw [hret] at q; cases q) hlk (fun fs hr => retN X hx (t := .byte) hret (by simp) (hb hby d5_16) hr) (by decide) (by decide) ⟨rfl, N, eT⟩
  have b17 : ∀ (T : State) (L : List Loc) (X : Stand p l e ({ frames := 0, cells := 0, slots := 0, locals := 0 } : Room) s m #[(.long p0), (.long p1), (.int p2)] below meth c T L 0 0) (eT : T.heap = h0) (N : Fr n0 L) (x2 : Int64) (x4 : Int32) (z0 : Int64), Ends p e below s 0 0 (Q5 Z  h0 n0 (F5_17 x2 x4)) (T.setTop (mkF m 17 #[.val (.long z0), .second, .val (.long x2), .second, .val (.int x4)] [])) := by
    intro T L X eT N x2 x4 z0
    refine Ends.step (u' := (T.setTop (mkF m 18 #[.val (.long z0), .second, .val (.long x2), .second, .val (.int x4)] [(.long x2)]))) ?_ (fun _ k => XT.lloadN X.here hx rfl (hb hby d5_17) rfl k)
    refine Ends.step (u' := (T.setTop (mkF m 20 #[.val (.long z0), .second, .val (.long x2), .second, .val (.int x4)] [(.int (8 : Int32)), (.long x2)]))) ?_ (fun _ k => XT.bipushV X.here hx rfl (8 : Int32) (hb hby d5_18) rfl k)
    refine Ends.step (u' := (T.setTop (mkF m 22 #[.val (.long z0), .second, .val (.long x2), .second, .val (.int x4)] [(.int x4), (.int (8 : Int32)), (.long x2)]))) ?_ (fun _ k => XS.iload X.here hx rfl (hb hby d5_20) rfl k)
    refine Ends.step (u' := (T.setTop (mkF m 24 #[.val (.long z0), .second, .val (.long x2), .second, .val (.int x4)] [(.int (8 : Int32)), (.int x4), (.int (8 : Int32)), (.long x2)]))) ?_ (fun _ k => XT.bipushV X.here hx rfl (8 : Int32) (hb hby d5_22) rfl k)
    refine Ends.step (u' := (T.setTop (mkF m 25 #[.val (.long z0), .second, .val (.long x2), .second, .val (.int x4)] [(.int (x4 - (8 : Int32))), (.int (8 : Int32)), (.long x2)]))) ?_ (fun _ k => XS.isub X.here hx rfl (hb hby d5_24) rfl k)
    refine Ends.step (u' := (T.setTop (mkF m 26 #[.val (.long z0), .second, .val (.long x2), .second, .val (.int x4)] [(.int ((8 : Int32) * (x4 - (8 : Int32)))), (.long x2)]))) ?_ (fun _ k => XS.imul X.here hx rfl (hb hby d5_25) rfl k)
    refine Ends.step (u' := (T.setTop (mkF m 27 #[.val (.long z0), .second, .val (.long x2), .second, .val (.int x4)] [(.long (XT.ushrL x2 ((8 : Int32) * (x4 - (8 : Int32)))))]))) ?_ (fun _ k => XT.lushr X.here hx rfl (hb hby d5_26) rfl k)
    refine Ends.step (u' := (T.setTop (mkF m 28 #[.val (.long z0), .second, .val (.long x2), .second, .val (.int x4)] [(.int (((XT.ushrL x2 ((8 : Int32) * (x4 - (8 : Int32))))).toInt32))]))) ?_ (fun _ k => XT.l2i X.here hx rfl (hb hby d5_27) rfl k)
    refine Ends.step (u' := (T.setTop (mkF m 29 #[.val (.long z0), .second, .val (.long x2), .second, .val (.int x4)] [(.int (((((XT.ushrL x2 ((8 : Int32) * (x4 - (8 : Int32))))).toInt32)).toInt8.toInt32))]))) ?_ (fun _ k => XT.i2b X.here hx rfl (hb hby d5_28) rfl k)
    exact Ends.ret X (v := some (.int (nar .byte (((((XT.ushrL x2 ((8 : Int32) * (x4 - (8 : Int32))))).toInt32)).toInt8.toInt32)))) (fun q => by rw [hret] at q; cases q) hlk (fun fs hr => retN X hx (t := .byte) hret (by simp) (hb hby d5_29) hr) (by decide) (by decide) ⟨rfl, N, eT⟩
  refine Ends.step (u' := (s₁.setTop (mkF m 0 #[.val (.long p0), .second, .val (.long p1), .second, .val (.int p2)] []))) ?_ (fun _ k => castTop (ef_5 m p0 p1 p2) k)
  refine Ends.step (u' := (s₁.setTop (mkF m 2 #[.val (.long p0), .second, .val (.long p1), .second, .val (.int p2)] [(.int p2)]))) ?_ (fun _ k => XS.iload X0.here hx rfl (hb hby d5_0) rfl k)
  refine Ends.step (u' := (s₁.setTop (mkF m 4 #[.val (.long p0), .second, .val (.long p1), .second, .val (.int p2)] [(.int (8 : Int32)), (.int p2)]))) ?_ (fun _ k => XT.bipushV X0.here hx rfl (8 : Int32) (hb hby d5_2) rfl k)
  by_cases hc4 : p2 < (8 : Int32)
  · refine Eq.mp (congrArg (fun z => Ends p e below s 0 0 (Q5 Z  h0 n0 z) (s₁.setTop (mkF m 4 #[.val (.long p0), .second, .val (.long p1), .second, .val (.int p2)] [(.int (8 : Int32)), (.int p2)]))) (show (F5 p0 p1 p2) = (F5_7 p0 p2) from (if_pos hc4)).symm) ?_
    refine Ends.step (u' := (s₁.setTop (mkF m 7 #[.val (.long p0), .second, .val (.long p1), .second, .val (.int p2)] []))) ?_ (fun _ k => XS.icmpNo X0.here hx rfl (hb hby d5_4) rfl (XT.ii_ge_f hc4) k)
    exact b7 s₁ _ X0 e0 N0 p0 p2 p1
  · refine Eq.mp (congrArg (fun z => Ends p e below s 0 0 (Q5 Z  h0 n0 z) (s₁.setTop (mkF m 4 #[.val (.long p0), .second, .val (.long p1), .second, .val (.int p2)] [(.int (8 : Int32)), (.int p2)]))) (show (F5 p0 p1 p2) = (F5_17 p1 p2) from (if_neg hc4)).symm) ?_
    refine Ends.step (u' := (s₁.setTop (mkF m 17 #[.val (.long p0), .second, .val (.long p1), .second, .val (.int p2)] []))) ?_ (fun _ k => XS.icmpYes X0.here hx rfl (pc0 := 4) (pc' := 17) rfl (hb hby d5_4) rfl (XT.ii_ge_t hc4) (by decide) (by decide) k)
    exact b17 s₁ _ X0 e0 N0 p1 p2 p0
theorem d6_0 : decode prog_116_method_10_code 0 = .ok (.iconst 0, 1) := by decide +kernel
theorem d6_1 : decode prog_116_method_10_code 1 = .ok (.istore 5, 2) := by decide +kernel
theorem d6_3 : decode prog_116_method_10_code 3 = .ok (.iload 5, 2) := by decide +kernel
theorem d6_5 : decode prog_116_method_10_code 5 = .ok (.iload 4, 2) := by decide +kernel
theorem d6_7 : decode prog_116_method_10_code 7 = .ok (.if_icmp .ge 27, 3) := by decide +kernel
theorem d6_10 : decode prog_116_method_10_code 10 = .ok (.aload_n 0, 1) := by decide +kernel
theorem d6_11 : decode prog_116_method_10_code 11 = .ok (.getfield 13, 3) := by decide +kernel
theorem d6_14 : decode prog_116_method_10_code 14 = .ok (.iload_n 1, 1) := by decide +kernel
theorem d6_15 : decode prog_116_method_10_code 15 = .ok (.iload 5, 2) := by decide +kernel
theorem d6_17 : decode prog_116_method_10_code 17 = .ok (.iadd, 1) := by decide +kernel
theorem d6_18 : decode prog_116_method_10_code 18 = .ok (.lload_n 2, 1) := by decide +kernel
theorem d6_19 : decode prog_116_method_10_code 19 = .ok (.bipush 8, 2) := by decide +kernel
theorem d6_21 : decode prog_116_method_10_code 21 = .ok (.iload 5, 2) := by decide +kernel
theorem d6_23 : decode prog_116_method_10_code 23 = .ok (.imul, 1) := by decide +kernel
theorem d6_24 : decode prog_116_method_10_code 24 = .ok (.lushr, 1) := by decide +kernel
theorem d6_25 : decode prog_116_method_10_code 25 = .ok (.l2i, 1) := by decide +kernel
theorem d6_26 : decode prog_116_method_10_code 26 = .ok (.i2b, 1) := by decide +kernel
theorem d6_27 : decode prog_116_method_10_code 27 = .ok (.bastore, 1) := by decide +kernel
theorem d6_28 : decode prog_116_method_10_code 28 = .ok (.iinc 5 1, 3) := by decide +kernel
theorem d6_31 : decode prog_116_method_10_code 31 = .ok (.goto (-28), 3) := by decide +kernel
theorem d6_34 : decode prog_116_method_10_code 34 = .ok (.return_, 1) := by decide +kernel
theorem pn_6 : plainFor (⟨"lakewright/zstd/Sink", "putNumber", "(IJI)V"⟩ : MethodName) = true := by first | exact plainFor_of_name (by first | (simp [plainName, overriddenIn]; done) | decide +kernel) | decide +kernel
theorem ef_6 (m : MethodId) (y0 : Addr) (y1 : Int32) (y2 : Int64) (y3 : Int32) : entryFrame m #[(.ref y0), (.int y1), (.long y2), (.int y3)] 6 = mkF m 0 #[.val (.ref y0), .val (.int y1), .val (.long y2), .second, .val (.int y3), .unset] [] := by first | (simp [entryFrame, mkF, argsToLocals, Value.category]; done) | rfl
def Q6 (Z : State) (a_o0 : Addr) (a_o0_bytes : Addr) (o0_size : Int32) (n_o0_bytes : Nat) (f_o0_bytes : Nat → Int32) (h0 : Heap) (n0 : Nat) (ans : (Nat → Int32)) (v : Option Value) (h : Heap) (L : List Loc) : Prop := v = none ∧ Fr n0 L ∧ Keep h0 h [a_o0_bytes] ∧ Ar Z h a_o0_bytes .byte n_o0_bytes ans
set_option maxRecDepth 65536 in
set_option maxHeartbeats 40000000 in
theorem rm6 (l : Launch) (Z : State) (a0 : Array Value) (hw : ∀ d ∈ tables_1, d.before a0 Z = true) (K : Nat) (p1 : Int32) (p2 : Int64) (p3 : Int32) (o0_size : Int32) (n_o0_bytes : Nat) (f_o0_bytes : Nat → Int32) (a_o0 : Addr) (a_o0_bytes : Addr) (h0 : Heap) (n0 : Nat) (Z0 : n0 ≤ h0.size) (E_o0 : Exa Z h0 a_o0 "lakewright/zstd/Sink") (F_o0_bytes : Fld Z h0 a_o0 "lakewright/zstd/Sink" "bytes" "[B" (.ref a_o0_bytes)) (F_o0_size : Fld Z h0 a_o0 "lakewright/zstd/Sink" "size" "I" (.int o0_size)) (A_o0_bytes : Ar Z h0 a_o0_bytes .byte n_o0_bytes f_o0_bytes) (ne_o0_o0_bytes : a_o0 ≠ a_o0_bytes) (g_o0_bytes : n0 ≤ a_o0_bytes) (ok : O6 K p1 p2 p3 o0_size n_o0_bytes f_o0_bytes) :
    Meets l Z (⟨"lakewright/zstd/Sink", "putNumber", "(IJI)V"⟩ : MethodName) prog_116_method_10_code 6 none [] ({ frames := 0, cells := 0, slots := 0, locals := 0 } : Room) #[(.ref a_o0), (.int p1), (.long p2), (.int p3)] h0 (Q6 Z a_o0 a_o0_bytes o0_size n_o0_bytes f_o0_bytes h0 n0 (F6 K p1 p2 p3 o0_size n_o0_bytes f_o0_bytes)) 0 0 := by
  refine Meets.of pn_6 ?_
  intro p e s m below meth c s₁ hx hby hml hZ hown hnm hret hlk X0 e0
  have hml : c.maxLocals = 6 := hml
  have hown : s.vm.findClass "lakewright/zstd/Sink" = some m.cls := hown
  have N0 := Fr.nil n0
  have K0 := Keep.refl h0 [a_o0_bytes]
  have b34 : ∀ (T : State) (L : List Loc) (h : Heap) (X : Stand p l e ({ frames := 0, cells := 0, slots := 0, locals := 0 } : Room) s m #[(.ref a_o0), (.int p1), (.long p2), (.int p3)] below meth c T L 0 0) (eT : T.heap = h) (N : Fr n0 L) (Zs : n0 ≤ h.size) (Kp : Keep h0 h [a_o0_bytes]) (cf_o0_bytes : Nat → Int32) (d0 : Slot) (od0 : OneS d0) (d1 : Slot) (od1 : OneS d1) (z2 : Int64) (d4 : Slot) (od4 : OneS d4) (d5 : Slot) (od5 : OneS d5) (E_o0 : Exa Z h a_o0 "lakewright/zstd/Sink") (F_o0_bytes : Fld Z h a_o0 "lakewright/zstd/Sink" "bytes" "[B" (.ref a_o0_bytes)) (F_o0_size : Fld Z h a_o0 "lakewright/zstd/Sink" "size" "I" (.int o0_size)) (A_o0_bytes : Ar Z h a_o0_bytes .byte n_o0_bytes cf_o0_bytes), Ends p e below s 0 0 (Q6 Z a_o0 a_o0_bytes o0_size n_o0_bytes f_o0_bytes h0 n0 (F6_34 K o0_size n_o0_bytes cf_o0_bytes)) (T.setTop (mkF m 34 #[d0, d1, .val (.long z2), .second, d4, d5] [])) := by
    intro T L h X eT N Zs Kp cf_o0_bytes d0 od0 d1 od1 z2 d4 od4 d5 od5 E_o0 F_o0_bytes F_o0_size A_o0_bytes
    exact Ends.ret X (v := none) (fun _ => rfl) hlk (fun fs hr => X.returnOut hx hret (hb hby d6_34) hr) (by decide) (by decide) (by rw [eT]; exact ⟨rfl, N, Kp, A_o0_bytes⟩)
  have b3 : ∀ (j : Nat) (T : State) (L : List Loc) (h : Heap) (X : Stand p l e ({ frames := 0, cells := 0, slots := 0, locals := 0 } : Room) s m #[(.ref a_o0), (.int p1), (.long p2), (.int p3)] below meth c T L 0 0) (eT : T.heap = h) (N : Fr n0 L) (Zs : n0 ≤ h.size) (Kp : Keep h0 h [a_o0_bytes]) (cf_o0_bytes : Nat → Int32) (x1 : Int32) (x2 : Int64) (x4 : Int32) (x5 : Int32) (E_o0 : Exa Z h a_o0 "lakewright/zstd/Sink") (F_o0_bytes : Fld Z h a_o0 "lakewright/zstd/Sink" "bytes" "[B" (.ref a_o0_bytes)) (F_o0_size : Fld Z h a_o0 "lakewright/zstd/Sink" "size" "I" (.int o0_size)) (A_o0_bytes : Ar Z h a_o0_bytes .byte n_o0_bytes cf_o0_bytes) (ok : (O6_3 K j o0_size n_o0_bytes cf_o0_bytes x1 x2 x4 x5)), Ends p e below s 0 0 (Q6 Z a_o0 a_o0_bytes o0_size n_o0_bytes f_o0_bytes h0 n0 (F6_3 K j o0_size n_o0_bytes cf_o0_bytes x1 x2 x4 x5)) (T.setTop (mkF m 3 #[.val (.ref a_o0), .val (.int x1), .val (.long x2), .second, .val (.int x4), .val (.int x5)] [])) := by
    intro j
    induction j with
    | zero => intro T L h X eT N Zs Kp cf_o0_bytes x1 x2 x4 x5 E_o0 F_o0_bytes F_o0_size A_o0_bytes ok; exact ok.elim
    | succ j ih =>
      have b10 : ∀ (T : State) (L : List Loc) (h : Heap) (X : Stand p l e ({ frames := 0, cells := 0, slots := 0, locals := 0 } : Room) s m #[(.ref a_o0), (.int p1), (.long p2), (.int p3)] below meth c T L 0 0) (eT : T.heap = h) (N : Fr n0 L) (Zs : n0 ≤ h.size) (Kp : Keep h0 h [a_o0_bytes]) (cf_o0_bytes : Nat → Int32) (x1 : Int32) (x2 : Int64) (x4 : Int32) (x5 : Int32) (E_o0 : Exa Z h a_o0 "lakewright/zstd/Sink") (F_o0_bytes : Fld Z h a_o0 "lakewright/zstd/Sink" "bytes" "[B" (.ref a_o0_bytes)) (F_o0_size : Fld Z h a_o0 "lakewright/zstd/Sink" "size" "I" (.int o0_size)) (A_o0_bytes : Ar Z h a_o0_bytes .byte n_o0_bytes cf_o0_bytes) (ok : (O6_10 K (O6_3 K j) o0_size n_o0_bytes cf_o0_bytes x1 x2 x4 x5)), Ends p e below s 0 0 (Q6 Z a_o0 a_o0_bytes o0_size n_o0_bytes f_o0_bytes h0 n0 (F6_10 K (F6_3 K j) o0_size n_o0_bytes cf_o0_bytes x1 x2 x4 x5)) (T.setTop (mkF m 10 #[.val (.ref a_o0), .val (.int x1), .val (.long x2), .second, .val (.int x4), .val (.int x5)] [])) := by
        intro T L h X eT N Zs Kp cf_o0_bytes x1 x2 x4 x5 E_o0 F_o0_bytes F_o0_size A_o0_bytes ok
        obtain ⟨o1, ok⟩ := ok
        refine Ends.step (u' := (T.setTop (mkF m 11 #[.val (.ref a_o0), .val (.int x1), .val (.long x2), .second, .val (.int x4), .val (.int x5)] [(.ref a_o0)]))) ?_ (fun _ k => XS.aloadN X.here hx rfl (hb hby d6_10) rfl rfl k)
        refine Ends.getF X hx hZ hown (hw _ (List.mem_of_getElem? (i := 15) rfl)) eT F_o0_bytes (g := (mkF m 11 #[.val (.ref a_o0), .val (.int x1), .val (.long x2), .second, .val (.int x4), .val (.int x5)] [(.ref a_o0)])) rfl rfl (hb hby d6_11) (fun T1 X1 e1 => ?_)
        show Ends p e below s _ _ _ (T1.setTop (mkF m 14 #[.val (.ref a_o0), .val (.int x1), .val (.long x2), .second, .val (.int x4), .val (.int x5)] [(.ref a_o0_bytes)]))
        refine Ends.step (u' := (T1.setTop (mkF m 15 #[.val (.ref a_o0), .val (.int x1), .val (.long x2), .second, .val (.int x4), .val (.int x5)] [(.int x1), (.ref a_o0_bytes)]))) ?_ (fun _ k => XS.iloadN X1.here hx rfl (hb hby d6_14) rfl k)
        refine Ends.step (u' := (T1.setTop (mkF m 17 #[.val (.ref a_o0), .val (.int x1), .val (.long x2), .second, .val (.int x4), .val (.int x5)] [(.int x5), (.int x1), (.ref a_o0_bytes)]))) ?_ (fun _ k => XS.iload X1.here hx rfl (hb hby d6_15) rfl k)
        refine Ends.step (u' := (T1.setTop (mkF m 18 #[.val (.ref a_o0), .val (.int x1), .val (.long x2), .second, .val (.int x4), .val (.int x5)] [(.int (x1 + x5)), (.ref a_o0_bytes)]))) ?_ (fun _ k => XS.iadd X1.here hx rfl (hb hby d6_17) rfl k)
        refine Ends.step (u' := (T1.setTop (mkF m 19 #[.val (.ref a_o0), .val (.int x1), .val (.long x2), .second, .val (.int x4), .val (.int x5)] [(.long x2), (.int (x1 + x5)), (.ref a_o0_bytes)]))) ?_ (fun _ k => XT.lloadN X1.here hx rfl (hb hby d6_18) rfl k)
        refine Ends.step (u' := (T1.setTop (mkF m 21 #[.val (.ref a_o0), .val (.int x1), .val (.long x2), .second, .val (.int x4), .val (.int x5)] [(.int (8 : Int32)), (.long x2), (.int (x1 + x5)), (.ref a_o0_bytes)]))) ?_ (fun _ k => XT.bipushV X1.here hx rfl (8 : Int32) (hb hby d6_19) rfl k)
        refine Ends.step (u' := (T1.setTop (mkF m 23 #[.val (.ref a_o0), .val (.int x1), .val (.long x2), .second, .val (.int x4), .val (.int x5)] [(.int x5), (.int (8 : Int32)), (.long x2), (.int (x1 + x5)), (.ref a_o0_bytes)]))) ?_ (fun _ k => XS.iload X1.here hx rfl (hb hby d6_21) rfl k)
        refine Ends.step (u' := (T1.setTop (mkF m 24 #[.val (.ref a_o0), .val (.int x1), .val (.long x2), .second, .val (.int x4), .val (.int x5)] [(.int ((8 : Int32) * x5)), (.long x2), (.int (x1 + x5)), (.ref a_o0_bytes)]))) ?_ (fun _ k => XS.imul X1.here hx rfl (hb hby d6_23) rfl k)
        refine Ends.step (u' := (T1.setTop (mkF m 25 #[.val (.ref a_o0), .val (.int x1), .val (.long x2), .second, .val (.int x4), .val (.int x5)] [(.long (XT.ushrL x2 ((8 : Int32) * x5))), (.int (x1 + x5)), (.ref a_o0_bytes)]))) ?_ (fun _ k => XT.lushr X1.here hx rfl (hb hby d6_24) rfl k)
        refine Ends.step (u' := (T1.setTop (mkF m 26 #[.val (.ref a_o0), .val (.int x1), .val (.long x2), .second, .val (.int x4), .val (.int x5)] [(.int (((XT.ushrL x2 ((8 : Int32) * x5))).toInt32)), (.int (x1 + x5)), (.ref a_o0_bytes)]))) ?_ (fun _ k => XT.l2i X1.here hx rfl (hb hby d6_25) rfl k)
        refine Ends.step (u' := (T1.setTop (mkF m 27 #[.val (.ref a_o0), .val (.int x1), .val (.long x2), .second, .val (.int x4), .val (.int x5)] [(.int (((((XT.ushrL x2 ((8 : Int32) * x5))).toInt32)).toInt8.toInt32)), (.int (x1 + x5)), (.ref a_o0_bytes)]))) ?_ (fun _ k => XT.i2b X1.here hx rfl (hb hby d6_26) rfl k)
        refine Ends.bastore X1 hx hZ e1 A_o0_bytes o1 N g_o0_bytes (g := (mkF m 27 #[.val (.ref a_o0), .val (.int x1), .val (.long x2), .second, .val (.int x4), .val (.int x5)] [(.int (((((XT.ushrL x2 ((8 : Int32) * x5))).toInt32)).toInt8.toInt32)), (.int (x1 + x5)), (.ref a_o0_bytes)])) rfl rfl (hb hby d6_27) (fun T2 h2 sl2 X2 e2 N2 W2 A2 => ?_)
        show Ends p e below s _ _ _ (T2.setTop (mkF m 28 #[.val (.ref a_o0), .val (.int x1), .val (.long x2), .second, .val (.int x4), .val (.int x5)] []))
        have E3 := E_o0.wr W2
        have Fd4 := F_o0_bytes.other W2 (Or.inl ne_o0_o0_bytes)
        have Fd5 := F_o0_size.other W2 (Or.inl ne_o0_o0_bytes)
        have Z6 : n0 ≤ h2.size := W2.size.symm ▸ Zs
        have K7 := Kp.wr W2 (Or.inl (List.mem_of_getElem? (i := 0) rfl))
        refine Ends.step (u' := (T2.setTop (mkF m 31 #[.val (.ref a_o0), .val (.int x1), .val (.long x2), .second, .val (.int x4), .val (.int (x5 + (1 : Int32)))] []))) ?_ (fun _ k => XT.iincV X2.here hx rfl (1 : Int32) (hb hby d6_28) rfl rfl (l' := #[.val (.ref a_o0), .val (.int x1), .val (.long x2), .second, .val (.int x4), .val (.int (x5 + (1 : Int32)))]) rfl k)
        refine Ends.step (u' := (T2.setTop (mkF m 3 #[.val (.ref a_o0), .val (.int x1), .val (.long x2), .second, .val (.int x4), .val (.int (x5 + (1 : Int32)))] []))) ?_ (fun _ k => XS.goto X2.here hx rfl (pc0 := 31) (pc' := 3) rfl (hb hby d6_31) (by decide) (by decide) k)
        exact ih T2 _ _ X2 e2 N2 Z6 K7 (upd cf_o0_bytes ((x1 + x5)).toNatClampNeg (nar .byte (((((XT.ushrL x2 ((8 : Int32) * x5))).toInt32)).toInt8.toInt32))) x1 x2 x4 (x5 + (1 : Int32)) E3 Fd4 Fd5 A2 ok
      intro T L h X eT N Zs Kp cf_o0_bytes x1 x2 x4 x5 E_o0 F_o0_bytes F_o0_size A_o0_bytes ok
      obtain ⟨okt, okf⟩ := ok
      refine Ends.step (u' := (T.setTop (mkF m 5 #[.val (.ref a_o0), .val (.int x1), .val (.long x2), .second, .val (.int x4), .val (.int x5)] [(.int x5)]))) ?_ (fun _ k => XS.iload X.here hx rfl (hb hby d6_3) rfl k)
      refine Ends.step (u' := (T.setTop (mkF m 7 #[.val (.ref a_o0), .val (.int x1), .val (.long x2), .second, .val (.int x4), .val (.int x5)] [(.int x4), (.int x5)]))) ?_ (fun _ k => XS.iload X.here hx rfl (hb hby d6_5) rfl k)
      by_cases hc7 : x5 < x4
      · refine Eq.mp (congrArg (fun z => Ends p e below s 0 0 (Q6 Z a_o0 a_o0_bytes o0_size n_o0_bytes f_o0_bytes h0 n0 z) (T.setTop (mkF m 7 #[.val (.ref a_o0), .val (.int x1), .val (.long x2), .second, .val (.int x4), .val (.int x5)] [(.int x4), (.int x5)]))) (show (F6_3 K (j + 1) o0_size n_o0_bytes cf_o0_bytes x1 x2 x4 x5) = (F6_10 K (F6_3 K j) o0_size n_o0_bytes cf_o0_bytes x1 x2 x4 x5) from (if_pos hc7)).symm) ?_
        refine Ends.step (u' := (T.setTop (mkF m 10 #[.val (.ref a_o0), .val (.int x1), .val (.long x2), .second, .val (.int x4), .val (.int x5)] []))) ?_ (fun _ k => XS.icmpNo X.here hx rfl (hb hby d6_7) rfl (XT.ii_ge_f hc7) k)
        exact b10 T _ _ X eT N Zs Kp cf_o0_bytes x1 x2 x4 x5 E_o0 F_o0_bytes F_o0_size A_o0_bytes (okt hc7)
      · refine Eq.mp (congrArg (fun z => Ends p e below s 0 0 (Q6 Z a_o0 a_o0_bytes o0_size n_o0_bytes f_o0_bytes h0 n0 z) (T.setTop (mkF m 7 #[.val (.ref a_o0), .val (.int x1), .val (.long x2), .second, .val (.int x4), .val (.int x5)] [(.int x4), (.int x5)]))) (show (F6_3 K (j + 1) o0_size n_o0_bytes cf_o0_bytes x1 x2 x4 x5) = (F6_34 K o0_size n_o0_bytes cf_o0_bytes) from (if_neg hc7)).symm) ?_
        refine Ends.step (u' := (T.setTop (mkF m 34 #[.val (.ref a_o0), .val (.int x1), .val (.long x2), .second, .val (.int x4), .val (.int x5)] []))) ?_ (fun _ k => XS.icmpYes X.here hx rfl (pc0 := 7) (pc' := 34) rfl (hb hby d6_7) rfl (XT.ii_ge_t hc7) (by decide) (by decide) k)
        exact b34 T _ _ X eT N Zs Kp cf_o0_bytes (.val (.ref a_o0)) (Or.inr ⟨_, rfl, rfl⟩) (.val (.int x1)) (Or.inr ⟨_, rfl, rfl⟩) x2 (.val (.int x4)) (Or.inr ⟨_, rfl, rfl⟩) (.val (.int x5)) (Or.inr ⟨_, rfl, rfl⟩) E_o0 F_o0_bytes F_o0_size A_o0_bytes
  refine Ends.step (u' := (s₁.setTop (mkF m 0 #[.val (.ref a_o0), .val (.int p1), .val (.long p2), .second, .val (.int p3), .unset] []))) ?_ (fun _ k => castTop (ef_6 m a_o0 p1 p2 p3) k)
  refine Ends.step (u' := (s₁.setTop (mkF m 1 #[.val (.ref a_o0), .val (.int p1), .val (.long p2), .second, .val (.int p3), .unset] [(.int (0 : Int32))]))) ?_ (fun _ k => XT.iconstV X0.here hx rfl (0 : Int32) (hb hby d6_0) rfl k)
  refine Ends.step (u' := (s₁.setTop (mkF m 3 #[.val (.ref a_o0), .val (.int p1), .val (.long p2), .second, .val (.int p3), .val (.int (0 : Int32))] []))) ?_ (fun _ k => XS.istore X0.here hx rfl (hb hby d6_1) rfl (l' := #[.val (.ref a_o0), .val (.int p1), .val (.long p2), .second, .val (.int p3), .val (.int (0 : Int32))]) rfl k)
  exact b3 K s₁ _ _ X0 e0 N0 Z0 K0 f_o0_bytes p1 p2 p3 (0 : Int32) E_o0 F_o0_bytes F_o0_size A_o0_bytes ok
theorem d7_0 : decode prog_116_method_3_code 0 = .ok (.aload_n 0, 1) := by decide +kernel
theorem d7_1 : decode prog_116_method_3_code 1 = .ok (.getfield 19, 3) := by decide +kernel
theorem d7_4 : decode prog_116_method_3_code 4 = .ok (.ireturn, 1) := by decide +kernel
theorem pn_7 : plainFor (⟨"lakewright/zstd/Sink", "size", "()I"⟩ : MethodName) = true := by first | exact plainFor_of_name (by first | (simp [plainName, overriddenIn]; done) | decide +kernel) | decide +kernel
theorem ef_7 (m : MethodId) (y0 : Addr) : entryFrame m #[(.ref y0)] 1 = mkF m 0 #[.val (.ref y0)] [] := by first | (simp [entryFrame, mkF, argsToLocals, Value.category]; done) | rfl
def Q7 (Z : State) (a_o0 : Addr) (a_o0_bytes : Addr) (o0_size : Int32) (n_o0_bytes : Nat) (f_o0_bytes : Nat → Int32) (h0 : Heap) (n0 : Nat) (ans : Int32) (v : Option Value) (h : Heap) (L : List Loc) : Prop := v = some (.int ans) ∧ Fr n0 L ∧ h = h0
set_option maxRecDepth 65536 in
set_option maxHeartbeats 40000000 in
theorem rm7 (l : Launch) (Z : State) (a0 : Array Value) (hw : ∀ d ∈ tables_1, d.before a0 Z = true) (o0_size : Int32) (n_o0_bytes : Nat) (f_o0_bytes : Nat → Int32) (a_o0 : Addr) (a_o0_bytes : Addr) (h0 : Heap) (n0 : Nat) (Z0 : n0 ≤ h0.size) (E_o0 : Exa Z h0 a_o0 "lakewright/zstd/Sink") (F_o0_bytes : Fld Z h0 a_o0 "lakewright/zstd/Sink" "bytes" "[B" (.ref a_o0_bytes)) (F_o0_size : Fld Z h0 a_o0 "lakewright/zstd/Sink" "size" "I" (.int o0_size)) (A_o0_bytes : Ar Z h0 a_o0_bytes .byte n_o0_bytes f_o0_bytes) :
    Meets l Z (⟨"lakewright/zstd/Sink", "size", "()I"⟩ : MethodName) prog_116_method_3_code 1 (some .int) [] ({ frames := 0, cells := 0, slots := 0, locals := 0 } : Room) #[(.ref a_o0)] h0 (Q7 Z a_o0 a_o0_bytes o0_size n_o0_bytes f_o0_bytes h0 n0 (F7 o0_size n_o0_bytes f_o0_bytes)) 0 0 := by
  refine Meets.of pn_7 ?_
  intro p e s m below meth c s₁ hx hby hml hZ hown hnm hret hlk X0 e0
  have hml : c.maxLocals = 1 := hml
  have hown : s.vm.findClass "lakewright/zstd/Sink" = some m.cls := hown
  have N0 := Fr.nil n0
  refine Ends.step (u' := (s₁.setTop (mkF m 0 #[.val (.ref a_o0)] []))) ?_ (fun _ k => castTop (ef_7 m a_o0) k)
  refine Ends.step (u' := (s₁.setTop (mkF m 1 #[.val (.ref a_o0)] [(.ref a_o0)]))) ?_ (fun _ k => XS.aloadN X0.here hx rfl (hb hby d7_0) rfl rfl k)
  refine Ends.getF X0 hx hZ hown (hw _ (List.mem_of_getElem? (i := 36) rfl)) e0 F_o0_size (g := (mkF m 1 #[.val (.ref a_o0)] [(.ref a_o0)])) rfl rfl (hb hby d7_1) (fun T1 X1 e1 => ?_)
  show Ends p e below s _ _ _ (T1.setTop (mkF m 4 #[.val (.ref a_o0)] [(.int o0_size)]))
  exact Ends.ret X1 (v := some (.int o0_size)) (fun q => by rw [hret] at q; cases q) hlk (fun fs hr => retI X1 hx hret (hb hby d7_4) hr) (by decide) (by decide) ⟨rfl, N0, e1⟩
theorem d8_0 : decode method_3_code 0 = .ok (.iload_n 1, 1) := by decide +kernel
theorem d8_1 : decode method_3_code 1 = .ok (.iload_n 2, 1) := by decide +kernel
theorem d8_2 : decode method_3_code 2 = .ok (.isub, 1) := by decide +kernel
theorem d8_3 : decode method_3_code 3 = .ok (.istore 10, 2) := by decide +kernel
theorem d8_5 : decode method_3_code 5 = .ok (.iload 10, 2) := by decide +kernel
theorem d8_7 : decode method_3_code 7 = .ok (.ifCond .lt 24, 3) := by decide +kernel
theorem d8_10 : decode method_3_code 10 = .ok (.iload 10, 2) := by decide +kernel
theorem d8_12 : decode method_3_code 12 = .ok (.iload 5, 2) := by decide +kernel
theorem d8_14 : decode method_3_code 14 = .ok (.if_icmp .ge 17, 3) := by decide +kernel
theorem d8_17 : decode method_3_code 17 = .ok (.lload_n 3, 1) := by decide +kernel
theorem d8_18 : decode method_3_code 18 = .ok (.bipush 8, 2) := by decide +kernel
theorem d8_20 : decode method_3_code 20 = .ok (.iload 10, 2) := by decide +kernel
theorem d8_22 : decode method_3_code 22 = .ok (.imul, 1) := by decide +kernel
theorem d8_23 : decode method_3_code 23 = .ok (.lushr, 1) := by decide +kernel
theorem d8_24 : decode method_3_code 24 = .ok (.l2i, 1) := by decide +kernel
theorem d8_25 : decode method_3_code 25 = .ok (.i2b, 1) := by decide +kernel
theorem d8_26 : decode method_3_code 26 = .ok (.istore 11, 2) := by decide +kernel
theorem d8_28 : decode method_3_code 28 = .ok (.goto 13, 3) := by decide +kernel
theorem d8_31 : decode method_3_code 31 = .ok (.lload 6, 2) := by decide +kernel
theorem d8_33 : decode method_3_code 33 = .ok (.lload 8, 2) := by decide +kernel
theorem d8_35 : decode method_3_code 35 = .ok (.iload_n 1, 1) := by decide +kernel
theorem d8_36 : decode method_3_code 36 = .ok (.invokestatic 7, 3) := by decide +kernel
theorem d8_39 : decode method_3_code 39 = .ok (.istore 11, 2) := by decide +kernel
theorem d8_41 : decode method_3_code 41 = .ok (.aload_n 0, 1) := by decide +kernel
theorem d8_42 : decode method_3_code 42 = .ok (.iload_n 1, 1) := by decide +kernel
theorem d8_43 : decode method_3_code 43 = .ok (.baload, 1) := by decide +kernel
theorem d8_44 : decode method_3_code 44 = .ok (.iload 11, 2) := by decide +kernel
theorem d8_46 : decode method_3_code 46 = .ok (.if_icmp .ne 7, 3) := by decide +kernel
theorem d8_49 : decode method_3_code 49 = .ok (.iconst 1, 1) := by decide +kernel
theorem d8_50 : decode method_3_code 50 = .ok (.goto 4, 3) := by decide +kernel
theorem d8_53 : decode method_3_code 53 = .ok (.iconst 0, 1) := by decide +kernel
theorem d8_54 : decode method_3_code 54 = .ok (.ireturn, 1) := by decide +kernel
theorem pn_8 : plainFor (⟨"lakewright/zstd/SinkPutNumberPinLaw", "ok", "([BIIJIJJ)Z"⟩ : MethodName) = true := by first | exact plainFor_of_name (by first | (simp [plainName, overriddenIn]; done) | decide +kernel) | decide +kernel
theorem ef_8 (m : MethodId) (y0 : Addr) (y1 : Int32) (y2 : Int32) (y3 : Int64) (y4 : Int32) (y5 : Int64) (y6 : Int64) : entryFrame m #[(.ref y0), (.int y1), (.int y2), (.long y3), (.int y4), (.long y5), (.long y6)] 12 = mkF m 0 #[.val (.ref y0), .val (.int y1), .val (.int y2), .val (.long y3), .second, .val (.int y4), .val (.long y5), .second, .val (.long y6), .second, .unset, .unset] [] := by first | (simp [entryFrame, mkF, argsToLocals, Value.category]; done) | rfl
def Q8 (Z : State) (a_o0 : Addr) (n_o0 : Nat) (f_o0 : Nat → Int32) (h0 : Heap) (n0 : Nat) (ans : Int32) (v : Option Value) (h : Heap) (L : List Loc) : Prop := v = some (.int ans) ∧ Fr n0 L ∧ h = h0
set_option maxRecDepth 65536 in
set_option maxHeartbeats 40000000 in
theorem rm8 (l : Launch) (Z : State) (a0 : Array Value) (hw : ∀ d ∈ tables_1, d.before a0 Z = true) (p1 : Int32) (p2 : Int32) (p3 : Int64) (p4 : Int32) (p5 : Int64) (p6 : Int64) (n_o0 : Nat) (f_o0 : Nat → Int32) (a_o0 : Addr) (h0 : Heap) (n0 : Nat) (Z0 : n0 ≤ h0.size) (A_o0 : Ar Z h0 a_o0 .byte n_o0 f_o0) (ok : O8 p1 p2 p3 p4 p5 p6 n_o0 f_o0) :
    Meets l Z (⟨"lakewright/zstd/SinkPutNumberPinLaw", "ok", "([BIIJIJJ)Z"⟩ : MethodName) method_3_code 12 (some .boolean) [] ({ frames := 1, cells := 0, slots := 0, locals := 16 } : Room) #[(.ref a_o0), (.int p1), (.int p2), (.long p3), (.int p4), (.long p5), (.long p6)] h0 (Q8 Z a_o0 n_o0 f_o0 h0 n0 (F8 p1 p2 p3 p4 p5 p6 n_o0 f_o0)) 0 0 := by
  refine Meets.of pn_8 ?_
  intro p e s m below meth c s₁ hx hby hml hZ hown hnm hret hlk X0 e0
  have hml : c.maxLocals = 12 := hml
  have hown : s.vm.findClass "lakewright/zstd/SinkPutNumberPinLaw" = some m.cls := hown
  have N0 := Fr.nil n0
  have b54 : ∀ (T : State) (L : List Loc) (X : Stand p l e ({ frames := 1, cells := 0, slots := 0, locals := 16 } : Room) s m #[(.ref a_o0), (.int p1), (.int p2), (.long p3), (.int p4), (.long p5), (.long p6)] below meth c T L 0 0) (eT : T.heap = h0) (N : Fr n0 L) (t0 : Int32) (d0 : Slot) (od0 : OneS d0) (d1 : Slot) (od1 : OneS d1) (d2 : Slot) (od2 : OneS d2) (z3 : Int64) (d5 : Slot) (od5 : OneS d5) (z6 : Int64) (z8 : Int64) (d10 : Slot) (od10 : OneS d10) (d11 : Slot) (od11 : OneS d11), Ends p e below s 0 0 (Q8 Z a_o0 n_o0 f_o0 h0 n0 (F8_54 n_o0 f_o0 t0)) (T.setTop (mkF m 54 #[d0, d1, d2, .val (.long z3), .second, d5, .val (.long z6), .second, .val (.long z8), .second, d10, d11] [(.int t0)])) := by
    intro T L X eT N t0 d0 od0 d1 od1 d2 od2 z3 d5 od5 z6 z8 d10 od10 d11 od11
    exact Ends.ret X (v := some (.int (nar .boolean t0))) (fun q => by rw [hret] at q; cases q) hlk (fun fs hr => retN X hx (t := .boolean) hret (by simp) (hb hby d8_54) hr) (by decide) (by decide) ⟨rfl, N, eT⟩
  have b49 : ∀ (T : State) (L : List Loc) (X : Stand p l e ({ frames := 1, cells := 0, slots := 0, locals := 16 } : Room) s m #[(.ref a_o0), (.int p1), (.int p2), (.long p3), (.int p4), (.long p5), (.long p6)] below meth c T L 0 0) (eT : T.heap = h0) (N : Fr n0 L) (d0 : Slot) (od0 : OneS d0) (d1 : Slot) (od1 : OneS d1) (d2 : Slot) (od2 : OneS d2) (z3 : Int64) (d5 : Slot) (od5 : OneS d5) (z6 : Int64) (z8 : Int64) (d10 : Slot) (od10 : OneS d10) (d11 : Slot) (od11 : OneS d11), Ends p e below s 0 0 (Q8 Z a_o0 n_o0 f_o0 h0 n0 (F8_49 n_o0 f_o0)) (T.setTop (mkF m 49 #[d0, d1, d2, .val (.long z3), .second, d5, .val (.long z6), .second, .val (.long z8), .second, d10, d11] [])) := by
    intro T L X eT N d0 od0 d1 od1 d2 od2 z3 d5 od5 z6 z8 d10 od10 d11 od11
    refine Ends.step (u' := (T.setTop (mkF m 50 #[d0, d1, d2, .val (.long z3), .second, d5, .val (.long z6), .second, .val (.long z8), .second, d10, d11] [(.int (1 : Int32))]))) ?_ (fun _ k => XT.iconstV X.here hx rfl (1 : Int32) (hb hby d8_49) rfl k)
    refine Ends.step (u' := (T.setTop (mkF m 54 #[d0, d1, d2, .val (.long z3), .second, d5, .val (.long z6), .second, .val (.long z8), .second, d10, d11] [(.int (1 : Int32))]))) ?_ (fun _ k => XS.goto X.here hx rfl (pc0 := 50) (pc' := 54) rfl (hb hby d8_50) (by decide) (by decide) k)
    exact b54 T _ X eT N (1 : Int32) (d0) od0 (d1) od1 (d2) od2 z3 (d5) od5 z6 z8 (d10) od10 (d11) od11
  have b53 : ∀ (T : State) (L : List Loc) (X : Stand p l e ({ frames := 1, cells := 0, slots := 0, locals := 16 } : Room) s m #[(.ref a_o0), (.int p1), (.int p2), (.long p3), (.int p4), (.long p5), (.long p6)] below meth c T L 0 0) (eT : T.heap = h0) (N : Fr n0 L) (d0 : Slot) (od0 : OneS d0) (d1 : Slot) (od1 : OneS d1) (d2 : Slot) (od2 : OneS d2) (z3 : Int64) (d5 : Slot) (od5 : OneS d5) (z6 : Int64) (z8 : Int64) (d10 : Slot) (od10 : OneS d10) (d11 : Slot) (od11 : OneS d11), Ends p e below s 0 0 (Q8 Z a_o0 n_o0 f_o0 h0 n0 (F8_53 n_o0 f_o0)) (T.setTop (mkF m 53 #[d0, d1, d2, .val (.long z3), .second, d5, .val (.long z6), .second, .val (.long z8), .second, d10, d11] [])) := by
    intro T L X eT N d0 od0 d1 od1 d2 od2 z3 d5 od5 z6 z8 d10 od10 d11 od11
    refine Ends.step (u' := (T.setTop (mkF m 54 #[d0, d1, d2, .val (.long z3), .second, d5, .val (.long z6), .second, .val (.long z8), .second, d10, d11] [(.int (0 : Int32))]))) ?_ (fun _ k => XT.iconstV X.here hx rfl (0 : Int32) (hb hby d8_53) rfl k)
    exact b54 T _ X eT N (0 : Int32) (d0) od0 (d1) od1 (d2) od2 z3 (d5) od5 z6 z8 (d10) od10 (d11) od11
  have b41 : ∀ (T : State) (L : List Loc) (X : Stand p l e ({ frames := 1, cells := 0, slots := 0, locals := 16 } : Room) s m #[(.ref a_o0), (.int p1), (.int p2), (.long p3), (.int p4), (.long p5), (.long p6)] below meth c T L 0 0) (eT : T.heap = h0) (N : Fr n0 L) (x1 : Int32) (x11 : Int32) (d2 : Slot) (od2 : OneS d2) (z3 : Int64) (d5 : Slot) (od5 : OneS d5) (z6 : Int64) (z8 : Int64) (d10 : Slot) (od10 : OneS d10) (ok : (O8_41 n_o0 f_o0 x1 x11)), Ends p e below s 0 0 (Q8 Z a_o0 n_o0 f_o0 h0 n0 (F8_41 n_o0 f_o0 x1 x11)) (T.setTop (mkF m 41 #[.val (.ref a_o0), .val (.int x1), d2, .val (.long z3), .second, d5, .val (.long z6), .second, .val (.long z8), .second, d10, .val (.int x11)] [])) := by
    intro T L X eT N x1 x11 d2 od2 z3 d5 od5 z6 z8 d10 od10 ok
    obtain ⟨o1, okt, okf⟩ := ok
    refine Ends.step (u' := (T.setTop (mkF m 42 #[.val (.ref a_o0), .val (.int x1), d2, .val (.long z3), .second, d5, .val (.long z6), .second, .val (.long z8), .second, d10, .val (.int x11)] [(.ref a_o0)]))) ?_ (fun _ k => XS.aloadN X.here hx rfl (hb hby d8_41) rfl rfl k)
    refine Ends.step (u' := (T.setTop (mkF m 43 #[.val (.ref a_o0), .val (.int x1), d2, .val (.long z3), .second, d5, .val (.long z6), .second, .val (.long z8), .second, d10, .val (.int x11)] [(.int x1), (.ref a_o0)]))) ?_ (fun _ k => XS.iloadN X.here hx rfl (hb hby d8_42) rfl k)
    refine Ends.baload X hx hZ eT A_o0 o1 (g := (mkF m 43 #[.val (.ref a_o0), .val (.int x1), d2, .val (.long z3), .second, d5, .val (.long z6), .second, .val (.long z8), .second, d10, .val (.int x11)] [(.int x1), (.ref a_o0)])) rfl rfl (hb hby d8_43) ?_
    show Ends p e below s _ _ _ (T.setTop (mkF m 44 #[.val (.ref a_o0), .val (.int x1), d2, .val (.long z3), .second, d5, .val (.long z6), .second, .val (.long z8), .second, d10, .val (.int x11)] [(.int (f_o0 (x1).toNatClampNeg))]))
    refine Ends.step (u' := (T.setTop (mkF m 46 #[.val (.ref a_o0), .val (.int x1), d2, .val (.long z3), .second, d5, .val (.long z6), .second, .val (.long z8), .second, d10, .val (.int x11)] [(.int x11), (.int (f_o0 (x1).toNatClampNeg))]))) ?_ (fun _ k => XS.iload X.here hx rfl (hb hby d8_44) rfl k)
    by_cases hc46 : (f_o0 (x1).toNatClampNeg) = x11
    · refine Eq.mp (congrArg (fun z => Ends p e below s 0 0 (Q8 Z a_o0 n_o0 f_o0 h0 n0 z) (T.setTop (mkF m 46 #[.val (.ref a_o0), .val (.int x1), d2, .val (.long z3), .second, d5, .val (.long z6), .second, .val (.long z8), .second, d10, .val (.int x11)] [(.int x11), (.int (f_o0 (x1).toNatClampNeg))]))) (show (F8_41 n_o0 f_o0 x1 x11) = (F8_49 n_o0 f_o0) from (if_pos hc46)).symm) ?_
      refine Ends.step (u' := (T.setTop (mkF m 49 #[.val (.ref a_o0), .val (.int x1), d2, .val (.long z3), .second, d5, .val (.long z6), .second, .val (.long z8), .second, d10, .val (.int x11)] []))) ?_ (fun _ k => XS.icmpNo X.here hx rfl (hb hby d8_46) rfl (XT.ii_ne_f hc46) k)
      exact b49 T _ X eT N (.val (.ref a_o0)) (Or.inr ⟨_, rfl, rfl⟩) (.val (.int x1)) (Or.inr ⟨_, rfl, rfl⟩) (d2) od2 z3 (d5) od5 z6 z8 (d10) od10 (.val (.int x11)) (Or.inr ⟨_, rfl, rfl⟩)
    · refine Eq.mp (congrArg (fun z => Ends p e below s 0 0 (Q8 Z a_o0 n_o0 f_o0 h0 n0 z) (T.setTop (mkF m 46 #[.val (.ref a_o0), .val (.int x1), d2, .val (.long z3), .second, d5, .val (.long z6), .second, .val (.long z8), .second, d10, .val (.int x11)] [(.int x11), (.int (f_o0 (x1).toNatClampNeg))]))) (show (F8_41 n_o0 f_o0 x1 x11) = (F8_53 n_o0 f_o0) from (if_neg hc46)).symm) ?_
      refine Ends.step (u' := (T.setTop (mkF m 53 #[.val (.ref a_o0), .val (.int x1), d2, .val (.long z3), .second, d5, .val (.long z6), .second, .val (.long z8), .second, d10, .val (.int x11)] []))) ?_ (fun _ k => XS.icmpYes X.here hx rfl (pc0 := 46) (pc' := 53) rfl (hb hby d8_46) rfl (XT.ii_ne_t hc46) (by decide) (by decide) k)
      exact b53 T _ X eT N (.val (.ref a_o0)) (Or.inr ⟨_, rfl, rfl⟩) (.val (.int x1)) (Or.inr ⟨_, rfl, rfl⟩) (d2) od2 z3 (d5) od5 z6 z8 (d10) od10 (.val (.int x11)) (Or.inr ⟨_, rfl, rfl⟩)
  have b28 : ∀ (T : State) (L : List Loc) (X : Stand p l e ({ frames := 1, cells := 0, slots := 0, locals := 16 } : Room) s m #[(.ref a_o0), (.int p1), (.int p2), (.long p3), (.int p4), (.long p5), (.long p6)] below meth c T L 0 0) (eT : T.heap = h0) (N : Fr n0 L) (x1 : Int32) (x11 : Int32) (d2 : Slot) (od2 : OneS d2) (z3 : Int64) (d5 : Slot) (od5 : OneS d5) (z6 : Int64) (z8 : Int64) (d10 : Slot) (od10 : OneS d10) (ok : (O8_28 n_o0 f_o0 x1 x11)), Ends p e below s 0 0 (Q8 Z a_o0 n_o0 f_o0 h0 n0 (F8_28 n_o0 f_o0 x1 x11)) (T.setTop (mkF m 28 #[.val (.ref a_o0), .val (.int x1), d2, .val (.long z3), .second, d5, .val (.long z6), .second, .val (.long z8), .second, d10, .val (.int x11)] [])) := by
    intro T L X eT N x1 x11 d2 od2 z3 d5 od5 z6 z8 d10 od10 ok
    refine Ends.step (u' := (T.setTop (mkF m 41 #[.val (.ref a_o0), .val (.int x1), d2, .val (.long z3), .second, d5, .val (.long z6), .second, .val (.long z8), .second, d10, .val (.int x11)] []))) ?_ (fun _ k => XS.goto X.here hx rfl (pc0 := 28) (pc' := 41) rfl (hb hby d8_28) (by decide) (by decide) k)
    exact b41 T _ X eT N x1 x11 (d2) od2 z3 (d5) od5 z6 z8 (d10) od10 ok
  have b17 : ∀ (T : State) (L : List Loc) (X : Stand p l e ({ frames := 1, cells := 0, slots := 0, locals := 16 } : Room) s m #[(.ref a_o0), (.int p1), (.int p2), (.long p3), (.int p4), (.long p5), (.long p6)] below meth c T L 0 0) (eT : T.heap = h0) (N : Fr n0 L) (x1 : Int32) (x3 : Int64) (x10 : Int32) (d2 : Slot) (od2 : OneS d2) (d5 : Slot) (od5 : OneS d5) (z6 : Int64) (z8 : Int64) (ok : (O8_17 n_o0 f_o0 x1 x3 x10)), Ends p e below s 0 0 (Q8 Z a_o0 n_o0 f_o0 h0 n0 (F8_17 n_o0 f_o0 x1 x3 x10)) (T.setTop (mkF m 17 #[.val (.ref a_o0), .val (.int x1), d2, .val (.long x3), .second, d5, .val (.long z6), .second, .val (.long z8), .second, .val (.int x10), .unset] [])) := by
    intro T L X eT N x1 x3 x10 d2 od2 d5 od5 z6 z8 ok
    refine Ends.step (u' := (T.setTop (mkF m 18 #[.val (.ref a_o0), .val (.int x1), d2, .val (.long x3), .second, d5, .val (.long z6), .second, .val (.long z8), .second, .val (.int x10), .unset] [(.long x3)]))) ?_ (fun _ k => XT.lloadN X.here hx rfl (hb hby d8_17) rfl k)
    refine Ends.step (u' := (T.setTop (mkF m 20 #[.val (.ref a_o0), .val (.int x1), d2, .val (.long x3), .second, d5, .val (.long z6), .second, .val (.long z8), .second, .val (.int x10), .unset] [(.int (8 : Int32)), (.long x3)]))) ?_ (fun _ k => XT.bipushV X.here hx rfl (8 : Int32) (hb hby d8_18) rfl k)
    refine Ends.step (u' := (T.setTop (mkF m 22 #[.val (.ref a_o0), .val (.int x1), d2, .val (.long x3), .second, d5, .val (.long z6), .second, .val (.long z8), .second, .val (.int x10), .unset] [(.int x10), (.int (8 : Int32)), (.long x3)]))) ?_ (fun _ k => XS.iload X.here hx rfl (hb hby d8_20) rfl k)
    refine Ends.step (u' := (T.setTop (mkF m 23 #[.val (.ref a_o0), .val (.int x1), d2, .val (.long x3), .second, d5, .val (.long z6), .second, .val (.long z8), .second, .val (.int x10), .unset] [(.int ((8 : Int32) * x10)), (.long x3)]))) ?_ (fun _ k => XS.imul X.here hx rfl (hb hby d8_22) rfl k)
    refine Ends.step (u' := (T.setTop (mkF m 24 #[.val (.ref a_o0), .val (.int x1), d2, .val (.long x3), .second, d5, .val (.long z6), .second, .val (.long z8), .second, .val (.int x10), .unset] [(.long (XT.ushrL x3 ((8 : Int32) * x10)))]))) ?_ (fun _ k => XT.lushr X.here hx rfl (hb hby d8_23) rfl k)
    refine Ends.step (u' := (T.setTop (mkF m 25 #[.val (.ref a_o0), .val (.int x1), d2, .val (.long x3), .second, d5, .val (.long z6), .second, .val (.long z8), .second, .val (.int x10), .unset] [(.int (((XT.ushrL x3 ((8 : Int32) * x10))).toInt32))]))) ?_ (fun _ k => XT.l2i X.here hx rfl (hb hby d8_24) rfl k)
    refine Ends.step (u' := (T.setTop (mkF m 26 #[.val (.ref a_o0), .val (.int x1), d2, .val (.long x3), .second, d5, .val (.long z6), .second, .val (.long z8), .second, .val (.int x10), .unset] [(.int (((((XT.ushrL x3 ((8 : Int32) * x10))).toInt32)).toInt8.toInt32))]))) ?_ (fun _ k => XT.i2b X.here hx rfl (hb hby d8_25) rfl k)
    refine Ends.step (u' := (T.setTop (mkF m 28 #[.val (.ref a_o0), .val (.int x1), d2, .val (.long x3), .second, d5, .val (.long z6), .second, .val (.long z8), .second, .val (.int x10), .val (.int (((((XT.ushrL x3 ((8 : Int32) * x10))).toInt32)).toInt8.toInt32))] []))) ?_ (fun _ k => XS.istore X.here hx rfl (hb hby d8_26) rfl (l' := #[.val (.ref a_o0), .val (.int x1), d2, .val (.long x3), .second, d5, .val (.long z6), .second, .val (.long z8), .second, .val (.int x10), .val (.int (((((XT.ushrL x3 ((8 : Int32) * x10))).toInt32)).toInt8.toInt32))]) rfl k)
    exact b28 T _ X eT N x1 (((((XT.ushrL x3 ((8 : Int32) * x10))).toInt32)).toInt8.toInt32) (d2) od2 x3 (d5) od5 z6 z8 (.val (.int x10)) (Or.inr ⟨_, rfl, rfl⟩) ok
  have b31 : ∀ (T : State) (L : List Loc) (X : Stand p l e ({ frames := 1, cells := 0, slots := 0, locals := 16 } : Room) s m #[(.ref a_o0), (.int p1), (.int p2), (.long p3), (.int p4), (.long p5), (.long p6)] below meth c T L 0 0) (eT : T.heap = h0) (N : Fr n0 L) (x1 : Int32) (x6 : Int64) (x8 : Int64) (d2 : Slot) (od2 : OneS d2) (z3 : Int64) (d5 : Slot) (od5 : OneS d5) (d10 : Slot) (od10 : OneS d10) (ok : (O8_31 n_o0 f_o0 x1 x6 x8)), Ends p e below s 0 0 (Q8 Z a_o0 n_o0 f_o0 h0 n0 (F8_31 n_o0 f_o0 x1 x6 x8)) (T.setTop (mkF m 31 #[.val (.ref a_o0), .val (.int x1), d2, .val (.long z3), .second, d5, .val (.long x6), .second, .val (.long x8), .second, d10, .unset] [])) := by
    intro T L X eT N x1 x6 x8 d2 od2 z3 d5 od5 d10 od10 ok
    refine Ends.step (u' := (T.setTop (mkF m 33 #[.val (.ref a_o0), .val (.int x1), d2, .val (.long z3), .second, d5, .val (.long x6), .second, .val (.long x8), .second, d10, .unset] [(.long x6)]))) ?_ (fun _ k => XT.lload X.here hx rfl (hb hby d8_31) rfl k)
    refine Ends.step (u' := (T.setTop (mkF m 35 #[.val (.ref a_o0), .val (.int x1), d2, .val (.long z3), .second, d5, .val (.long x6), .second, .val (.long x8), .second, d10, .unset] [(.long x8), (.long x6)]))) ?_ (fun _ k => XT.lload X.here hx rfl (hb hby d8_33) rfl k)
    refine Ends.step (u' := (T.setTop (mkF m 36 #[.val (.ref a_o0), .val (.int x1), d2, .val (.long z3), .second, d5, .val (.long x6), .second, .val (.long x8), .second, d10, .unset] [(.int x1), (.long x8), (.long x6)]))) ?_ (fun _ k => XS.iloadN X.here hx rfl (hb hby d8_35) rfl k)
    refine Ends.callS X hx hZ hown (hw _ (List.mem_of_getElem? (i := 22) rfl)) (hw _ (List.mem_of_getElem? (i := 23) rfl)) (hw _ (List.mem_of_getElem? (i := 24) rfl)) (hw _ (List.mem_of_getElem? (i := 25) rfl)) (by decide) (rm5 l Z a0 hw x6 x8 x1 h0 n0 Z0) 0 (by decide) (by decide) eT  (g := (mkF m 36 #[.val (.ref a_o0), .val (.int x1), d2, .val (.long z3), .second, d5, .val (.long x6), .second, .val (.long x8), .second, d10, .unset] [(.int x1), (.long x8), (.long x6)])) rfl (by rw [hml]; rfl)  [(.long x6), (.long x8), (.int x1)] [] (lenOf pd_1 rfl) rfl (by show 2 * 0 + _ ≤ _; exact Nat.le_of_eq rfl) (hb hby d8_36) rfl (by decide) (by decide) (fun v1 T1 L1 X1 hQ1 => ?_)
    obtain ⟨rfl, Nq1, e1⟩ := hQ1
    have N1 := Fr.app N Nq1
    show Ends p e below s _ _ _ (T1.setTop (mkF m 39 #[.val (.ref a_o0), .val (.int x1), d2, .val (.long z3), .second, d5, .val (.long x6), .second, .val (.long x8), .second, d10, .unset] [(.int (F5 x6 x8 x1))]))
    refine Ends.step (u' := (T1.setTop (mkF m 41 #[.val (.ref a_o0), .val (.int x1), d2, .val (.long z3), .second, d5, .val (.long x6), .second, .val (.long x8), .second, d10, .val (.int (F5 x6 x8 x1))] []))) ?_ (fun _ k => XS.istore X1.here hx rfl (hb hby d8_39) rfl (l' := #[.val (.ref a_o0), .val (.int x1), d2, .val (.long z3), .second, d5, .val (.long x6), .second, .val (.long x8), .second, d10, .val (.int (F5 x6 x8 x1))]) rfl k)
    exact b41 T1 _ X1 e1 N1 x1 (F5 x6 x8 x1) (d2) od2 z3 (d5) od5 x6 x8 (d10) od10 ok
  have b10 : ∀ (T : State) (L : List Loc) (X : Stand p l e ({ frames := 1, cells := 0, slots := 0, locals := 16 } : Room) s m #[(.ref a_o0), (.int p1), (.int p2), (.long p3), (.int p4), (.long p5), (.long p6)] below meth c T L 0 0) (eT : T.heap = h0) (N : Fr n0 L) (x1 : Int32) (x3 : Int64) (x5 : Int32) (x6 : Int64) (x8 : Int64) (x10 : Int32) (d2 : Slot) (od2 : OneS d2) (ok : (O8_10 n_o0 f_o0 x1 x3 x5 x6 x8 x10)), Ends p e below s 0 0 (Q8 Z a_o0 n_o0 f_o0 h0 n0 (F8_10 n_o0 f_o0 x1 x3 x5 x6 x8 x10)) (T.setTop (mkF m 10 #[.val (.ref a_o0), .val (.int x1), d2, .val (.long x3), .second, .val (.int x5), .val (.long x6), .second, .val (.long x8), .second, .val (.int x10), .unset] [])) := by
    intro T L X eT N x1 x3 x5 x6 x8 x10 d2 od2 ok
    obtain ⟨okt, okf⟩ := ok
    refine Ends.step (u' := (T.setTop (mkF m 12 #[.val (.ref a_o0), .val (.int x1), d2, .val (.long x3), .second, .val (.int x5), .val (.long x6), .second, .val (.long x8), .second, .val (.int x10), .unset] [(.int x10)]))) ?_ (fun _ k => XS.iload X.here hx rfl (hb hby d8_10) rfl k)
    refine Ends.step (u' := (T.setTop (mkF m 14 #[.val (.ref a_o0), .val (.int x1), d2, .val (.long x3), .second, .val (.int x5), .val (.long x6), .second, .val (.long x8), .second, .val (.int x10), .unset] [(.int x5), (.int x10)]))) ?_ (fun _ k => XS.iload X.here hx rfl (hb hby d8_12) rfl k)
    by_cases hc14 : x10 < x5
    · refine Eq.mp (congrArg (fun z => Ends p e below s 0 0 (Q8 Z a_o0 n_o0 f_o0 h0 n0 z) (T.setTop (mkF m 14 #[.val (.ref a_o0), .val (.int x1), d2, .val (.long x3), .second, .val (.int x5), .val (.long x6), .second, .val (.long x8), .second, .val (.int x10), .unset] [(.int x5), (.int x10)]))) (show (F8_10 n_o0 f_o0 x1 x3 x5 x6 x8 x10) = (F8_17 n_o0 f_o0 x1 x3 x10) from (if_pos hc14)).symm) ?_
      refine Ends.step (u' := (T.setTop (mkF m 17 #[.val (.ref a_o0), .val (.int x1), d2, .val (.long x3), .second, .val (.int x5), .val (.long x6), .second, .val (.long x8), .second, .val (.int x10), .unset] []))) ?_ (fun _ k => XS.icmpNo X.here hx rfl (hb hby d8_14) rfl (XT.ii_ge_f hc14) k)
      exact b17 T _ X eT N x1 x3 x10 (d2) od2 (.val (.int x5)) (Or.inr ⟨_, rfl, rfl⟩) x6 x8 (okt hc14)
    · refine Eq.mp (congrArg (fun z => Ends p e below s 0 0 (Q8 Z a_o0 n_o0 f_o0 h0 n0 z) (T.setTop (mkF m 14 #[.val (.ref a_o0), .val (.int x1), d2, .val (.long x3), .second, .val (.int x5), .val (.long x6), .second, .val (.long x8), .second, .val (.int x10), .unset] [(.int x5), (.int x10)]))) (show (F8_10 n_o0 f_o0 x1 x3 x5 x6 x8 x10) = (F8_31 n_o0 f_o0 x1 x6 x8) from (if_neg hc14)).symm) ?_
      refine Ends.step (u' := (T.setTop (mkF m 31 #[.val (.ref a_o0), .val (.int x1), d2, .val (.long x3), .second, .val (.int x5), .val (.long x6), .second, .val (.long x8), .second, .val (.int x10), .unset] []))) ?_ (fun _ k => XS.icmpYes X.here hx rfl (pc0 := 14) (pc' := 31) rfl (hb hby d8_14) rfl (XT.ii_ge_t hc14) (by decide) (by decide) k)
      exact b31 T _ X eT N x1 x6 x8 (d2) od2 x3 (.val (.int x5)) (Or.inr ⟨_, rfl, rfl⟩) (.val (.int x10)) (Or.inr ⟨_, rfl, rfl⟩) (okf hc14)
  have b5 : ∀ (T : State) (L : List Loc) (X : Stand p l e ({ frames := 1, cells := 0, slots := 0, locals := 16 } : Room) s m #[(.ref a_o0), (.int p1), (.int p2), (.long p3), (.int p4), (.long p5), (.long p6)] below meth c T L 0 0) (eT : T.heap = h0) (N : Fr n0 L) (x1 : Int32) (x3 : Int64) (x5 : Int32) (x6 : Int64) (x8 : Int64) (x10 : Int32) (d2 : Slot) (od2 : OneS d2) (ok : (O8_5 n_o0 f_o0 x1 x3 x5 x6 x8 x10)), Ends p e below s 0 0 (Q8 Z a_o0 n_o0 f_o0 h0 n0 (F8_5 n_o0 f_o0 x1 x3 x5 x6 x8 x10)) (T.setTop (mkF m 5 #[.val (.ref a_o0), .val (.int x1), d2, .val (.long x3), .second, .val (.int x5), .val (.long x6), .second, .val (.long x8), .second, .val (.int x10), .unset] [])) := by
    intro T L X eT N x1 x3 x5 x6 x8 x10 d2 od2 ok
    obtain ⟨okt, okf⟩ := ok
    refine Ends.step (u' := (T.setTop (mkF m 7 #[.val (.ref a_o0), .val (.int x1), d2, .val (.long x3), .second, .val (.int x5), .val (.long x6), .second, .val (.long x8), .second, .val (.int x10), .unset] [(.int x10)]))) ?_ (fun _ k => XS.iload X.here hx rfl (hb hby d8_5) rfl k)
    by_cases hc7 : x10 < 0
    · refine Eq.mp (congrArg (fun z => Ends p e below s 0 0 (Q8 Z a_o0 n_o0 f_o0 h0 n0 z) (T.setTop (mkF m 7 #[.val (.ref a_o0), .val (.int x1), d2, .val (.long x3), .second, .val (.int x5), .val (.long x6), .second, .val (.long x8), .second, .val (.int x10), .unset] [(.int x10)]))) (show (F8_5 n_o0 f_o0 x1 x3 x5 x6 x8 x10) = (F8_31 n_o0 f_o0 x1 x6 x8) from (if_pos hc7)).symm) ?_
      refine Ends.step (u' := (T.setTop (mkF m 31 #[.val (.ref a_o0), .val (.int x1), d2, .val (.long x3), .second, .val (.int x5), .val (.long x6), .second, .val (.long x8), .second, .val (.int x10), .unset] []))) ?_ (fun _ k => XS.ifYes X.here hx rfl (pc0 := 7) (pc' := 31) rfl (hb hby d8_7) rfl (XT.i0_lt_t hc7) (by decide) (by decide) k)
      exact b31 T _ X eT N x1 x6 x8 (d2) od2 x3 (.val (.int x5)) (Or.inr ⟨_, rfl, rfl⟩) (.val (.int x10)) (Or.inr ⟨_, rfl, rfl⟩) (okt hc7)
    · refine Eq.mp (congrArg (fun z => Ends p e below s 0 0 (Q8 Z a_o0 n_o0 f_o0 h0 n0 z) (T.setTop (mkF m 7 #[.val (.ref a_o0), .val (.int x1), d2, .val (.long x3), .second, .val (.int x5), .val (.long x6), .second, .val (.long x8), .second, .val (.int x10), .unset] [(.int x10)]))) (show (F8_5 n_o0 f_o0 x1 x3 x5 x6 x8 x10) = (F8_10 n_o0 f_o0 x1 x3 x5 x6 x8 x10) from (if_neg hc7)).symm) ?_
      refine Ends.step (u' := (T.setTop (mkF m 10 #[.val (.ref a_o0), .val (.int x1), d2, .val (.long x3), .second, .val (.int x5), .val (.long x6), .second, .val (.long x8), .second, .val (.int x10), .unset] []))) ?_ (fun _ k => XS.ifNo X.here hx rfl (hb hby d8_7) rfl (XT.i0_lt_f hc7) k)
      exact b10 T _ X eT N x1 x3 x5 x6 x8 x10 (d2) od2 (okf hc7)
  refine Ends.step (u' := (s₁.setTop (mkF m 0 #[.val (.ref a_o0), .val (.int p1), .val (.int p2), .val (.long p3), .second, .val (.int p4), .val (.long p5), .second, .val (.long p6), .second, .unset, .unset] []))) ?_ (fun _ k => castTop (ef_8 m a_o0 p1 p2 p3 p4 p5 p6) k)
  refine Ends.step (u' := (s₁.setTop (mkF m 1 #[.val (.ref a_o0), .val (.int p1), .val (.int p2), .val (.long p3), .second, .val (.int p4), .val (.long p5), .second, .val (.long p6), .second, .unset, .unset] [(.int p1)]))) ?_ (fun _ k => XS.iloadN X0.here hx rfl (hb hby d8_0) rfl k)
  refine Ends.step (u' := (s₁.setTop (mkF m 2 #[.val (.ref a_o0), .val (.int p1), .val (.int p2), .val (.long p3), .second, .val (.int p4), .val (.long p5), .second, .val (.long p6), .second, .unset, .unset] [(.int p2), (.int p1)]))) ?_ (fun _ k => XS.iloadN X0.here hx rfl (hb hby d8_1) rfl k)
  refine Ends.step (u' := (s₁.setTop (mkF m 3 #[.val (.ref a_o0), .val (.int p1), .val (.int p2), .val (.long p3), .second, .val (.int p4), .val (.long p5), .second, .val (.long p6), .second, .unset, .unset] [(.int (p1 - p2))]))) ?_ (fun _ k => XS.isub X0.here hx rfl (hb hby d8_2) rfl k)
  refine Ends.step (u' := (s₁.setTop (mkF m 5 #[.val (.ref a_o0), .val (.int p1), .val (.int p2), .val (.long p3), .second, .val (.int p4), .val (.long p5), .second, .val (.long p6), .second, .val (.int (p1 - p2)), .unset] []))) ?_ (fun _ k => XS.istore X0.here hx rfl (hb hby d8_3) rfl (l' := #[.val (.ref a_o0), .val (.int p1), .val (.int p2), .val (.long p3), .second, .val (.int p4), .val (.long p5), .second, .val (.long p6), .second, .val (.int (p1 - p2)), .unset]) rfl k)
  exact b5 s₁ _ X0 e0 N0 p1 p3 p4 p5 p6 (p1 - p2) (.val (.int p2)) (Or.inr ⟨_, rfl, rfl⟩) ok
theorem pn_0 : plainFor x = true := by first | exact plainFor_of_name (by first | (simp [plainName, overriddenIn]; done) | decide +kernel) | decide +kernel
theorem ef_0 (m : MethodId) (y0 : Int32) (y1 : Int64) (y2 : Int32) (y3 : Int64) (y4 : Int64) : entryFrame m #[(.int y0), (.long y1), (.int y2), (.long y3), (.long y4)] maxLocals = mkF m 0 #[.val (.int y0), .val (.long y1), .second, .val (.int y2), .val (.long y3), .second, .val (.long y4), .second, .unset, .unset, .unset, .unset, .unset] [] := by first | (simp [entryFrame, mkF, argsToLocals, Value.category, maxLocals]; done) | rfl
def Q0 (Z : State)   (h0 : Heap) (n0 : Nat) (ans : Int32) (v : Option Value) (h : Heap) (L : List Loc) : Prop := v = some (.int ans) ∧ Fr n0 L
set_option maxRecDepth 65536 in
set_option maxHeartbeats 40000000 in
theorem rm0 (l : Launch) (Z : State) (a0 : Array Value) (hw : ∀ d ∈ tables_1, d.before a0 Z = true) (K : Nat) (p0 : Int32) (p1 : Int64) (p2 : Int32) (p3 : Int64) (p4 : Int64)  (h0 : Heap) (n0 : Nat) (Z0 : n0 ≤ h0.size)  (ok : O0 K p0 p1 p2 p3 p4) :
    Meets l Z x code maxLocals ret tables_1 room_1 #[(.int p0), (.long p1), (.int p2), (.long p3), (.long p4)] h0 (Q0 Z  h0 n0 (F0 K p0 p1 p2 p3 p4)) 2 18 := by
  refine Meets.of pn_0 ?_
  intro p e s m below meth c s₁ hx hby hml hZ hown hnm hret hlk X0 e0
  have hml : c.maxLocals = 13 := hml
  have hown : s.vm.findClass "lakewright/zstd/SinkPutNumberPinLaw" = some m.cls := hown
  have N0 := Fr.nil n0
  have b44 : ∀ (T : State) (L : List Loc) (h : Heap) (X : Stand p l e room_1 s m #[(.int p0), (.long p1), (.int p2), (.long p3), (.long p4)] below meth c T L 2 18) (eT : T.heap = h) (N : Fr n0 L) (Zs : n0 ≤ h.size) (d0 : Slot) (od0 : OneS d0) (z1 : Int64) (d3 : Slot) (od3 : OneS d3) (z4 : Int64) (z6 : Int64) (d8 : Slot) (od8 : OneS d8) (d9 : Slot) (od9 : OneS d9) (d10 : Slot) (od10 : OneS d10) (d11 : Slot) (od11 : OneS d11), Ends p e below s 2 18 (Q0 Z  h0 n0 (F0_44 K)) (T.setTop (mkF m 44 #[d0, .val (.long z1), .second, d3, .val (.long z4), .second, .val (.long z6), .second, d8, d9, d10, d11, .unset] [])) := by
    intro T L h X eT N Zs d0 od0 z1 d3 od3 z4 z6 d8 od8 d9 od9 d10 od10 d11 od11
    refine Ends.step (u' := (T.setTop (mkF m 45 #[d0, .val (.long z1), .second, d3, .val (.long z4), .second, .val (.long z6), .second, d8, d9, d10, d11, .unset] [(.int (0 : Int32))]))) ?_ (fun _ k => XT.iconstV X.here hx rfl (0 : Int32) (hb hby at_44) rfl k)
    exact Ends.ret X (v := some (.int (nar .boolean (0 : Int32)))) (fun q => by rw [hret] at q; cases q) hlk (fun fs hr => retN X hx (t := .boolean) hret (by simp) (hb hby at_45) hr) (by decide) (by decide) ⟨rfl, N⟩
  have b290 : ∀ (T : State) (L : List Loc) (h : Heap) (X : Stand p l e room_1 s m #[(.int p0), (.long p1), (.int p2), (.long p3), (.long p4)] below meth c T L 2 18) (eT : T.heap = h) (N : Fr n0 L) (Zs : n0 ≤ h.size) (d0 : Slot) (od0 : OneS d0) (z1 : Int64) (d3 : Slot) (od3 : OneS d3) (z4 : Int64) (z6 : Int64) (d8 : Slot) (od8 : OneS d8) (d9 : Slot) (od9 : OneS d9) (d10 : Slot) (od10 : OneS d10) (d11 : Slot) (od11 : OneS d11) (d12 : Slot) (od12 : OneS d12), Ends p e below s 2 18 (Q0 Z  h0 n0 (F0_290 K)) (T.setTop (mkF m 290 #[d0, .val (.long z1), .second, d3, .val (.long z4), .second, .val (.long z6), .second, d8, d9, d10, d11, d12] [])) := by
    intro T L h X eT N Zs d0 od0 z1 d3 od3 z4 z6 d8 od8 d9 od9 d10 od10 d11 od11 d12 od12
    refine Ends.step (u' := (T.setTop (mkF m 291 #[d0, .val (.long z1), .second, d3, .val (.long z4), .second, .val (.long z6), .second, d8, d9, d10, d11, d12] [(.int (0 : Int32))]))) ?_ (fun _ k => XT.iconstV X.here hx rfl (0 : Int32) (hb hby at_290) rfl k)
    exact Ends.ret X (v := some (.int (nar .boolean (0 : Int32)))) (fun q => by rw [hret] at q; cases q) hlk (fun fs hr => retN X hx (t := .boolean) hret (by simp) (hb hby at_291) hr) (by decide) (by decide) ⟨rfl, N⟩
  have b595 : ∀ (T : State) (L : List Loc) (h : Heap) (X : Stand p l e room_1 s m #[(.int p0), (.long p1), (.int p2), (.long p3), (.long p4)] below meth c T L 2 18) (eT : T.heap = h) (N : Fr n0 L) (Zs : n0 ≤ h.size) (t0 : Int32) (d0 : Slot) (od0 : OneS d0) (z1 : Int64) (d3 : Slot) (od3 : OneS d3) (z4 : Int64) (z6 : Int64) (d8 : Slot) (od8 : OneS d8) (d9 : Slot) (od9 : OneS d9) (d10 : Slot) (od10 : OneS d10) (d11 : Slot) (od11 : OneS d11) (d12 : Slot) (od12 : OneS d12), Ends p e below s 2 18 (Q0 Z  h0 n0 (F0_595 K t0)) (T.setTop (mkF m 595 #[d0, .val (.long z1), .second, d3, .val (.long z4), .second, .val (.long z6), .second, d8, d9, d10, d11, d12] [(.int t0)])) := by
    intro T L h X eT N Zs t0 d0 od0 z1 d3 od3 z4 z6 d8 od8 d9 od9 d10 od10 d11 od11 d12 od12
    exact Ends.ret X (v := some (.int (nar .boolean t0))) (fun q => by rw [hret] at q; cases q) hlk (fun fs hr => retN X hx (t := .boolean) hret (by simp) (hb hby at_595) hr) (by decide) (by decide) ⟨rfl, N⟩
  have b590 : ∀ (T : State) (L : List Loc) (h : Heap) (X : Stand p l e room_1 s m #[(.int p0), (.long p1), (.int p2), (.long p3), (.long p4)] below meth c T L 2 18) (eT : T.heap = h) (N : Fr n0 L) (Zs : n0 ≤ h.size) (d0 : Slot) (od0 : OneS d0) (z1 : Int64) (d3 : Slot) (od3 : OneS d3) (z4 : Int64) (z6 : Int64) (d8 : Slot) (od8 : OneS d8) (d9 : Slot) (od9 : OneS d9) (d10 : Slot) (od10 : OneS d10) (d11 : Slot) (od11 : OneS d11) (d12 : Slot) (od12 : OneS d12), Ends p e below s 2 18 (Q0 Z  h0 n0 (F0_590 K)) (T.setTop (mkF m 590 #[d0, .val (.long z1), .second, d3, .val (.long z4), .second, .val (.long z6), .second, d8, d9, d10, d11, d12] [])) := by
    intro T L h X eT N Zs d0 od0 z1 d3 od3 z4 z6 d8 od8 d9 od9 d10 od10 d11 od11 d12 od12
    refine Ends.step (u' := (T.setTop (mkF m 591 #[d0, .val (.long z1), .second, d3, .val (.long z4), .second, .val (.long z6), .second, d8, d9, d10, d11, d12] [(.int (1 : Int32))]))) ?_ (fun _ k => XT.iconstV X.here hx rfl (1 : Int32) (hb hby at_590) rfl k)
    refine Ends.step (u' := (T.setTop (mkF m 595 #[d0, .val (.long z1), .second, d3, .val (.long z4), .second, .val (.long z6), .second, d8, d9, d10, d11, d12] [(.int (1 : Int32))]))) ?_ (fun _ k => XS.goto X.here hx rfl (pc0 := 591) (pc' := 595) rfl (hb hby at_591) (by decide) (by decide) k)
    exact b595 T _ _ X eT N Zs (1 : Int32) (d0) od0 z1 (d3) od3 z4 z6 (d8) od8 (d9) od9 (d10) od10 (d11) od11 (d12) od12
  have b594 : ∀ (T : State) (L : List Loc) (h : Heap) (X : Stand p l e room_1 s m #[(.int p0), (.long p1), (.int p2), (.long p3), (.long p4)] below meth c T L 2 18) (eT : T.heap = h) (N : Fr n0 L) (Zs : n0 ≤ h.size) (d0 : Slot) (od0 : OneS d0) (z1 : Int64) (d3 : Slot) (od3 : OneS d3) (z4 : Int64) (z6 : Int64) (d8 : Slot) (od8 : OneS d8) (d9 : Slot) (od9 : OneS d9) (d10 : Slot) (od10 : OneS d10) (d11 : Slot) (od11 : OneS d11) (d12 : Slot) (od12 : OneS d12), Ends p e below s 2 18 (Q0 Z  h0 n0 (F0_594 K)) (T.setTop (mkF m 594 #[d0, .val (.long z1), .second, d3, .val (.long z4), .second, .val (.long z6), .second, d8, d9, d10, d11, d12] [])) := by
    intro T L h X eT N Zs d0 od0 z1 d3 od3 z4 z6 d8 od8 d9 od9 d10 od10 d11 od11 d12 od12
    refine Ends.step (u' := (T.setTop (mkF m 595 #[d0, .val (.long z1), .second, d3, .val (.long z4), .second, .val (.long z6), .second, d8, d9, d10, d11, d12] [(.int (0 : Int32))]))) ?_ (fun _ k => XT.iconstV X.here hx rfl (0 : Int32) (hb hby at_594) rfl k)
    exact b595 T _ _ X eT N Zs (0 : Int32) (d0) od0 z1 (d3) od3 z4 z6 (d8) od8 (d9) od9 (d10) od10 (d11) od11 (d12) od12
  have b571 : ∀ (T : State) (L : List Loc) (h : Heap) (X : Stand p l e room_1 s m #[(.int p0), (.long p1), (.int p2), (.long p3), (.long p4)] below meth c T L 2 18) (eT : T.heap = h) (N : Fr n0 L) (Zs : n0 ≤ h.size) (cn_q11_24 : Nat) (cf_q11_24 : Nat → Int32) (x1 : Int64) (x4 : Int64) (x6 : Int64) (x8 : Int32) (x9 : Int32) (d0 : Slot) (od0 : OneS d0) (d3 : Slot) (od3 : OneS d3) (d10 : Slot) (od10 : OneS d10) (d11 : Slot) (od11 : OneS d11) (a_q11_24 : Addr) (g_q11_24 : n0 ≤ a_q11_24) (A_q11_24 : Ar Z h a_q11_24 .byte cn_q11_24 cf_q11_24) (ok : (O0_571 K cn_q11_24 cf_q11_24 x1 x4 x6 x8 x9)), Ends p e below s 2 18 (Q0 Z  h0 n0 (F0_571 K cn_q11_24 cf_q11_24 x1 x4 x6 x8 x9)) (T.setTop (mkF m 571 #[d0, .val (.long x1), .second, d3, .val (.long x4), .second, .val (.long x6), .second, .val (.int x8), .val (.int x9), d10, d11, .val (.ref a_q11_24)] [])) := by
    intro T L h X eT N Zs cn_q11_24 cf_q11_24 x1 x4 x6 x8 x9 d0 od0 d3 od3 d10 od10 d11 od11 a_q11_24 g_q11_24 A_q11_24 ok
    obtain ⟨o1, okt, okf⟩ := ok
    refine Ends.step (u' := (T.setTop (mkF m 573 #[d0, .val (.long x1), .second, d3, .val (.long x4), .second, .val (.long x6), .second, .val (.int x8), .val (.int x9), d10, d11, .val (.ref a_q11_24)] [(.ref a_q11_24)]))) ?_ (fun _ k => XS.aload X.here hx rfl (hb hby at_571) rfl rfl k)
    refine Ends.step (u' := (T.setTop (mkF m 575 #[d0, .val (.long x1), .second, d3, .val (.long x4), .second, .val (.long x6), .second, .val (.int x8), .val (.int x9), d10, d11, .val (.ref a_q11_24)] [(.int (15 : Int32)), (.ref a_q11_24)]))) ?_ (fun _ k => XT.bipushV X.here hx rfl (15 : Int32) (hb hby at_573) rfl k)
    refine Ends.step (u' := (T.setTop (mkF m 577 #[d0, .val (.long x1), .second, d3, .val (.long x4), .second, .val (.long x6), .second, .val (.int x8), .val (.int x9), d10, d11, .val (.ref a_q11_24)] [(.int x8), (.int (15 : Int32)), (.ref a_q11_24)]))) ?_ (fun _ k => XS.iload X.here hx rfl (hb hby at_575) rfl k)
    refine Ends.step (u' := (T.setTop (mkF m 578 #[d0, .val (.long x1), .second, d3, .val (.long x4), .second, .val (.long x6), .second, .val (.int x8), .val (.int x9), d10, d11, .val (.ref a_q11_24)] [(.long x1), (.int x8), (.int (15 : Int32)), (.ref a_q11_24)]))) ?_ (fun _ k => XT.lloadN X.here hx rfl (hb hby at_577) rfl k)
    refine Ends.step (u' := (T.setTop (mkF m 580 #[d0, .val (.long x1), .second, d3, .val (.long x4), .second, .val (.long x6), .second, .val (.int x8), .val (.int x9), d10, d11, .val (.ref a_q11_24)] [(.int x9), (.long x1), (.int x8), (.int (15 : Int32)), (.ref a_q11_24)]))) ?_ (fun _ k => XS.iload X.here hx rfl (hb hby at_578) rfl k)
    refine Ends.step (u' := (T.setTop (mkF m 582 #[d0, .val (.long x1), .second, d3, .val (.long x4), .second, .val (.long x6), .second, .val (.int x8), .val (.int x9), d10, d11, .val (.ref a_q11_24)] [(.long x4), (.int x9), (.long x1), (.int x8), (.int (15 : Int32)), (.ref a_q11_24)]))) ?_ (fun _ k => XT.lload X.here hx rfl (hb hby at_580) rfl k)
    refine Ends.step (u' := (T.setTop (mkF m 584 #[d0, .val (.long x1), .second, d3, .val (.long x4), .second, .val (.long x6), .second, .val (.int x8), .val (.int x9), d10, d11, .val (.ref a_q11_24)] [(.long x6), (.long x4), (.int x9), (.long x1), (.int x8), (.int (15 : Int32)), (.ref a_q11_24)]))) ?_ (fun _ k => XT.lload X.here hx rfl (hb hby at_582) rfl k)
    refine Ends.callS X hx hZ hown (hw _ (List.mem_of_getElem? (i := 38) rfl)) (hw _ (List.mem_of_getElem? (i := 39) rfl)) (hw _ (List.mem_of_getElem? (i := 24) rfl)) (hw _ (List.mem_of_getElem? (i := 40) rfl)) (by decide) (rm8 l Z a0 hw (15 : Int32) x8 x1 x9 x4 x6 cn_q11_24 cf_q11_24 a_q11_24 h n0 Zs A_q11_24 o1) 0 (by decide) (by decide) eT  (g := (mkF m 584 #[d0, .val (.long x1), .second, d3, .val (.long x4), .second, .val (.long x6), .second, .val (.int x8), .val (.int x9), d10, d11, .val (.ref a_q11_24)] [(.long x6), (.long x4), (.int x9), (.long x1), (.int x8), (.int (15 : Int32)), (.ref a_q11_24)])) rfl (by rw [hml]; rfl)  [(.ref a_q11_24), (.int (15 : Int32)), (.int x8), (.long x1), (.int x9), (.long x4), (.long x6)] [] (lenOf pd_6 rfl) rfl (by show 2 * 0 + _ ≤ _; exact Nat.le_of_eq rfl) (hb hby at_584) rfl (by decide) (by decide) (fun v1 T1 L1 X1 hQ1 => ?_)
    obtain ⟨rfl, Nq1, e1⟩ := hQ1
    have N1 := Fr.app N Nq1
    show Ends p e below s _ _ _ (T1.setTop (mkF m 587 #[d0, .val (.long x1), .second, d3, .val (.long x4), .second, .val (.long x6), .second, .val (.int x8), .val (.int x9), d10, d11, .val (.ref a_q11_24)] [(.int (F8 (15 : Int32) x8 x1 x9 x4 x6 cn_q11_24 cf_q11_24))]))
    by_cases hc587 : (F8 (15 : Int32) x8 x1 x9 x4 x6 cn_q11_24 cf_q11_24) = 0
    · refine Eq.mp (congrArg (fun z => Ends p e below s 2 18 (Q0 Z  h0 n0 z) (T1.setTop (mkF m 587 #[d0, .val (.long x1), .second, d3, .val (.long x4), .second, .val (.long x6), .second, .val (.int x8), .val (.int x9), d10, d11, .val (.ref a_q11_24)] [(.int (F8 (15 : Int32) x8 x1 x9 x4 x6 cn_q11_24 cf_q11_24))]))) (show (F0_571 K cn_q11_24 cf_q11_24 x1 x4 x6 x8 x9) = (F0_594 K) from (if_pos hc587)).symm) ?_
      refine Ends.step (u' := (T1.setTop (mkF m 594 #[d0, .val (.long x1), .second, d3, .val (.long x4), .second, .val (.long x6), .second, .val (.int x8), .val (.int x9), d10, d11, .val (.ref a_q11_24)] []))) ?_ (fun _ k => XS.ifYes X1.here hx rfl (pc0 := 587) (pc' := 594) rfl (hb hby at_587) rfl (XT.i0_eq_t hc587) (by decide) (by decide) k)
      exact b594 T1 _ _ X1 e1 N1 Zs (d0) od0 x1 (d3) od3 x4 x6 (.val (.int x8)) (Or.inr ⟨_, rfl, rfl⟩) (.val (.int x9)) (Or.inr ⟨_, rfl, rfl⟩) (d10) od10 (d11) od11 (.val (.ref a_q11_24)) (Or.inr ⟨_, rfl, rfl⟩)
    · refine Eq.mp (congrArg (fun z => Ends p e below s 2 18 (Q0 Z  h0 n0 z) (T1.setTop (mkF m 587 #[d0, .val (.long x1), .second, d3, .val (.long x4), .second, .val (.long x6), .second, .val (.int x8), .val (.int x9), d10, d11, .val (.ref a_q11_24)] [(.int (F8 (15 : Int32) x8 x1 x9 x4 x6 cn_q11_24 cf_q11_24))]))) (show (F0_571 K cn_q11_24 cf_q11_24 x1 x4 x6 x8 x9) = (F0_590 K) from (if_neg hc587)).symm) ?_
      refine Ends.step (u' := (T1.setTop (mkF m 590 #[d0, .val (.long x1), .second, d3, .val (.long x4), .second, .val (.long x6), .second, .val (.int x8), .val (.int x9), d10, d11, .val (.ref a_q11_24)] []))) ?_ (fun _ k => XS.ifNo X1.here hx rfl (hb hby at_587) rfl (XT.i0_eq_f hc587) k)
      exact b590 T1 _ _ X1 e1 N1 Zs (d0) od0 x1 (d3) od3 x4 x6 (.val (.int x8)) (Or.inr ⟨_, rfl, rfl⟩) (.val (.int x9)) (Or.inr ⟨_, rfl, rfl⟩) (d10) od10 (d11) od11 (.val (.ref a_q11_24)) (Or.inr ⟨_, rfl, rfl⟩)
  have b552 : ∀ (T : State) (L : List Loc) (h : Heap) (X : Stand p l e room_1 s m #[(.int p0), (.long p1), (.int p2), (.long p3), (.long p4)] below meth c T L 2 18) (eT : T.heap = h) (N : Fr n0 L) (Zs : n0 ≤ h.size) (cn_q11_24 : Nat) (cf_q11_24 : Nat → Int32) (x1 : Int64) (x4 : Int64) (x6 : Int64) (x8 : Int32) (x9 : Int32) (d0 : Slot) (od0 : OneS d0) (d3 : Slot) (od3 : OneS d3) (d10 : Slot) (od10 : OneS d10) (d11 : Slot) (od11 : OneS d11) (a_q11_24 : Addr) (g_q11_24 : n0 ≤ a_q11_24) (A_q11_24 : Ar Z h a_q11_24 .byte cn_q11_24 cf_q11_24) (ok : (O0_552 K cn_q11_24 cf_q11_24 x1 x4 x6 x8 x9)), Ends p e below s 2 18 (Q0 Z  h0 n0 (F0_552 K cn_q11_24 cf_q11_24 x1 x4 x6 x8 x9)) (T.setTop (mkF m 552 #[d0, .val (.long x1), .second, d3, .val (.long x4), .second, .val (.long x6), .second, .val (.int x8), .val (.int x9), d10, d11, .val (.ref a_q11_24)] [])) := by
    intro T L h X eT N Zs cn_q11_24 cf_q11_24 x1 x4 x6 x8 x9 d0 od0 d3 od3 d10 od10 d11 od11 a_q11_24 g_q11_24 A_q11_24 ok
    obtain ⟨o1, okt, okf⟩ := ok
    refine Ends.step (u' := (T.setTop (mkF m 554 #[d0, .val (.long x1), .second, d3, .val (.long x4), .second, .val (.long x6), .second, .val (.int x8), .val (.int x9), d10, d11, .val (.ref a_q11_24)] [(.ref a_q11_24)]))) ?_ (fun _ k => XS.aload X.here hx rfl (hb hby at_552) rfl rfl k)
    refine Ends.step (u' := (T.setTop (mkF m 556 #[d0, .val (.long x1), .second, d3, .val (.long x4), .second, .val (.long x6), .second, .val (.int x8), .val (.int x9), d10, d11, .val (.ref a_q11_24)] [(.int (14 : Int32)), (.ref a_q11_24)]))) ?_ (fun _ k => XT.bipushV X.here hx rfl (14 : Int32) (hb hby at_554) rfl k)
    refine Ends.step (u' := (T.setTop (mkF m 558 #[d0, .val (.long x1), .second, d3, .val (.long x4), .second, .val (.long x6), .second, .val (.int x8), .val (.int x9), d10, d11, .val (.ref a_q11_24)] [(.int x8), (.int (14 : Int32)), (.ref a_q11_24)]))) ?_ (fun _ k => XS.iload X.here hx rfl (hb hby at_556) rfl k)
    refine Ends.step (u' := (T.setTop (mkF m 559 #[d0, .val (.long x1), .second, d3, .val (.long x4), .second, .val (.long x6), .second, .val (.int x8), .val (.int x9), d10, d11, .val (.ref a_q11_24)] [(.long x1), (.int x8), (.int (14 : Int32)), (.ref a_q11_24)]))) ?_ (fun _ k => XT.lloadN X.here hx rfl (hb hby at_558) rfl k)
    refine Ends.step (u' := (T.setTop (mkF m 561 #[d0, .val (.long x1), .second, d3, .val (.long x4), .second, .val (.long x6), .second, .val (.int x8), .val (.int x9), d10, d11, .val (.ref a_q11_24)] [(.int x9), (.long x1), (.int x8), (.int (14 : Int32)), (.ref a_q11_24)]))) ?_ (fun _ k => XS.iload X.here hx rfl (hb hby at_559) rfl k)
    refine Ends.step (u' := (T.setTop (mkF m 563 #[d0, .val (.long x1), .second, d3, .val (.long x4), .second, .val (.long x6), .second, .val (.int x8), .val (.int x9), d10, d11, .val (.ref a_q11_24)] [(.long x4), (.int x9), (.long x1), (.int x8), (.int (14 : Int32)), (.ref a_q11_24)]))) ?_ (fun _ k => XT.lload X.here hx rfl (hb hby at_561) rfl k)
    refine Ends.step (u' := (T.setTop (mkF m 565 #[d0, .val (.long x1), .second, d3, .val (.long x4), .second, .val (.long x6), .second, .val (.int x8), .val (.int x9), d10, d11, .val (.ref a_q11_24)] [(.long x6), (.long x4), (.int x9), (.long x1), (.int x8), (.int (14 : Int32)), (.ref a_q11_24)]))) ?_ (fun _ k => XT.lload X.here hx rfl (hb hby at_563) rfl k)
    refine Ends.callS X hx hZ hown (hw _ (List.mem_of_getElem? (i := 38) rfl)) (hw _ (List.mem_of_getElem? (i := 39) rfl)) (hw _ (List.mem_of_getElem? (i := 24) rfl)) (hw _ (List.mem_of_getElem? (i := 40) rfl)) (by decide) (rm8 l Z a0 hw (14 : Int32) x8 x1 x9 x4 x6 cn_q11_24 cf_q11_24 a_q11_24 h n0 Zs A_q11_24 o1) 0 (by decide) (by decide) eT  (g := (mkF m 565 #[d0, .val (.long x1), .second, d3, .val (.long x4), .second, .val (.long x6), .second, .val (.int x8), .val (.int x9), d10, d11, .val (.ref a_q11_24)] [(.long x6), (.long x4), (.int x9), (.long x1), (.int x8), (.int (14 : Int32)), (.ref a_q11_24)])) rfl (by rw [hml]; rfl)  [(.ref a_q11_24), (.int (14 : Int32)), (.int x8), (.long x1), (.int x9), (.long x4), (.long x6)] [] (lenOf pd_6 rfl) rfl (by show 2 * 0 + _ ≤ _; exact Nat.le_of_eq rfl) (hb hby at_565) rfl (by decide) (by decide) (fun v2 T2 L2 X2 hQ2 => ?_)
    obtain ⟨rfl, Nq2, e2⟩ := hQ2
    have N2 := Fr.app N Nq2
    show Ends p e below s _ _ _ (T2.setTop (mkF m 568 #[d0, .val (.long x1), .second, d3, .val (.long x4), .second, .val (.long x6), .second, .val (.int x8), .val (.int x9), d10, d11, .val (.ref a_q11_24)] [(.int (F8 (14 : Int32) x8 x1 x9 x4 x6 cn_q11_24 cf_q11_24))]))
    by_cases hc568 : (F8 (14 : Int32) x8 x1 x9 x4 x6 cn_q11_24 cf_q11_24) = 0
    · refine Eq.mp (congrArg (fun z => Ends p e below s 2 18 (Q0 Z  h0 n0 z) (T2.setTop (mkF m 568 #[d0, .val (.long x1), .second, d3, .val (.long x4), .second, .val (.long x6), .second, .val (.int x8), .val (.int x9), d10, d11, .val (.ref a_q11_24)] [(.int (F8 (14 : Int32) x8 x1 x9 x4 x6 cn_q11_24 cf_q11_24))]))) (show (F0_552 K cn_q11_24 cf_q11_24 x1 x4 x6 x8 x9) = (F0_594 K) from (if_pos hc568)).symm) ?_
      refine Ends.step (u' := (T2.setTop (mkF m 594 #[d0, .val (.long x1), .second, d3, .val (.long x4), .second, .val (.long x6), .second, .val (.int x8), .val (.int x9), d10, d11, .val (.ref a_q11_24)] []))) ?_ (fun _ k => XS.ifYes X2.here hx rfl (pc0 := 568) (pc' := 594) rfl (hb hby at_568) rfl (XT.i0_eq_t hc568) (by decide) (by decide) k)
      exact b594 T2 _ _ X2 e2 N2 Zs (d0) od0 x1 (d3) od3 x4 x6 (.val (.int x8)) (Or.inr ⟨_, rfl, rfl⟩) (.val (.int x9)) (Or.inr ⟨_, rfl, rfl⟩) (d10) od10 (d11) od11 (.val (.ref a_q11_24)) (Or.inr ⟨_, rfl, rfl⟩)
    · refine Eq.mp (congrArg (fun z => Ends p e below s 2 18 (Q0 Z  h0 n0 z) (T2.setTop (mkF m 568 #[d0, .val (.long x1), .second, d3, .val (.long x4), .second, .val (.long x6), .second, .val (.int x8), .val (.int x9), d10, d11, .val (.ref a_q11_24)] [(.int (F8 (14 : Int32) x8 x1 x9 x4 x6 cn_q11_24 cf_q11_24))]))) (show (F0_552 K cn_q11_24 cf_q11_24 x1 x4 x6 x8 x9) = (F0_571 K cn_q11_24 cf_q11_24 x1 x4 x6 x8 x9) from (if_neg hc568)).symm) ?_
      refine Ends.step (u' := (T2.setTop (mkF m 571 #[d0, .val (.long x1), .second, d3, .val (.long x4), .second, .val (.long x6), .second, .val (.int x8), .val (.int x9), d10, d11, .val (.ref a_q11_24)] []))) ?_ (fun _ k => XS.ifNo X2.here hx rfl (hb hby at_568) rfl (XT.i0_eq_f hc568) k)
      exact b571 T2 _ _ X2 e2 N2 Zs cn_q11_24 cf_q11_24 x1 x4 x6 x8 x9 (d0) od0 (d3) od3 (d10) od10 (d11) od11 a_q11_24 g_q11_24 A_q11_24 (okf hc568)
  have b533 : ∀ (T : State) (L : List Loc) (h : Heap) (X : Stand p l e room_1 s m #[(.int p0), (.long p1), (.int p2), (.long p3), (.long p4)] below meth c T L 2 18) (eT : T.heap = h) (N : Fr n0 L) (Zs : n0 ≤ h.size) (cn_q11_24 : Nat) (cf_q11_24 : Nat → Int32) (x1 : Int64) (x4 : Int64) (x6 : Int64) (x8 : Int32) (x9 : Int32) (d0 : Slot) (od0 : OneS d0) (d3 : Slot) (od3 : OneS d3) (d10 : Slot) (od10 : OneS d10) (d11 : Slot) (od11 : OneS d11) (a_q11_24 : Addr) (g_q11_24 : n0 ≤ a_q11_24) (A_q11_24 : Ar Z h a_q11_24 .byte cn_q11_24 cf_q11_24) (ok : (O0_533 K cn_q11_24 cf_q11_24 x1 x4 x6 x8 x9)), Ends p e below s 2 18 (Q0 Z  h0 n0 (F0_533 K cn_q11_24 cf_q11_24 x1 x4 x6 x8 x9)) (T.setTop (mkF m 533 #[d0, .val (.long x1), .second, d3, .val (.long x4), .second, .val (.long x6), .second, .val (.int x8), .val (.int x9), d10, d11, .val (.ref a_q11_24)] [])) := by
    intro T L h X eT N Zs cn_q11_24 cf_q11_24 x1 x4 x6 x8 x9 d0 od0 d3 od3 d10 od10 d11 od11 a_q11_24 g_q11_24 A_q11_24 ok
    obtain ⟨o1, okt, okf⟩ := ok
    refine Ends.step (u' := (T.setTop (mkF m 535 #[d0, .val (.long x1), .second, d3, .val (.long x4), .second, .val (.long x6), .second, .val (.int x8), .val (.int x9), d10, d11, .val (.ref a_q11_24)] [(.ref a_q11_24)]))) ?_ (fun _ k => XS.aload X.here hx rfl (hb hby at_533) rfl rfl k)
    refine Ends.step (u' := (T.setTop (mkF m 537 #[d0, .val (.long x1), .second, d3, .val (.long x4), .second, .val (.long x6), .second, .val (.int x8), .val (.int x9), d10, d11, .val (.ref a_q11_24)] [(.int (13 : Int32)), (.ref a_q11_24)]))) ?_ (fun _ k => XT.bipushV X.here hx rfl (13 : Int32) (hb hby at_535) rfl k)
    refine Ends.step (u' := (T.setTop (mkF m 539 #[d0, .val (.long x1), .second, d3, .val (.long x4), .second, .val (.long x6), .second, .val (.int x8), .val (.int x9), d10, d11, .val (.ref a_q11_24)] [(.int x8), (.int (13 : Int32)), (.ref a_q11_24)]))) ?_ (fun _ k => XS.iload X.here hx rfl (hb hby at_537) rfl k)
    refine Ends.step (u' := (T.setTop (mkF m 540 #[d0, .val (.long x1), .second, d3, .val (.long x4), .second, .val (.long x6), .second, .val (.int x8), .val (.int x9), d10, d11, .val (.ref a_q11_24)] [(.long x1), (.int x8), (.int (13 : Int32)), (.ref a_q11_24)]))) ?_ (fun _ k => XT.lloadN X.here hx rfl (hb hby at_539) rfl k)
    refine Ends.step (u' := (T.setTop (mkF m 542 #[d0, .val (.long x1), .second, d3, .val (.long x4), .second, .val (.long x6), .second, .val (.int x8), .val (.int x9), d10, d11, .val (.ref a_q11_24)] [(.int x9), (.long x1), (.int x8), (.int (13 : Int32)), (.ref a_q11_24)]))) ?_ (fun _ k => XS.iload X.here hx rfl (hb hby at_540) rfl k)
    refine Ends.step (u' := (T.setTop (mkF m 544 #[d0, .val (.long x1), .second, d3, .val (.long x4), .second, .val (.long x6), .second, .val (.int x8), .val (.int x9), d10, d11, .val (.ref a_q11_24)] [(.long x4), (.int x9), (.long x1), (.int x8), (.int (13 : Int32)), (.ref a_q11_24)]))) ?_ (fun _ k => XT.lload X.here hx rfl (hb hby at_542) rfl k)
    refine Ends.step (u' := (T.setTop (mkF m 546 #[d0, .val (.long x1), .second, d3, .val (.long x4), .second, .val (.long x6), .second, .val (.int x8), .val (.int x9), d10, d11, .val (.ref a_q11_24)] [(.long x6), (.long x4), (.int x9), (.long x1), (.int x8), (.int (13 : Int32)), (.ref a_q11_24)]))) ?_ (fun _ k => XT.lload X.here hx rfl (hb hby at_544) rfl k)
    refine Ends.callS X hx hZ hown (hw _ (List.mem_of_getElem? (i := 38) rfl)) (hw _ (List.mem_of_getElem? (i := 39) rfl)) (hw _ (List.mem_of_getElem? (i := 24) rfl)) (hw _ (List.mem_of_getElem? (i := 40) rfl)) (by decide) (rm8 l Z a0 hw (13 : Int32) x8 x1 x9 x4 x6 cn_q11_24 cf_q11_24 a_q11_24 h n0 Zs A_q11_24 o1) 0 (by decide) (by decide) eT  (g := (mkF m 546 #[d0, .val (.long x1), .second, d3, .val (.long x4), .second, .val (.long x6), .second, .val (.int x8), .val (.int x9), d10, d11, .val (.ref a_q11_24)] [(.long x6), (.long x4), (.int x9), (.long x1), (.int x8), (.int (13 : Int32)), (.ref a_q11_24)])) rfl (by rw [hml]; rfl)  [(.ref a_q11_24), (.int (13 : Int32)), (.int x8), (.long x1), (.int x9), (.long x4), (.long x6)] [] (lenOf pd_6 rfl) rfl (by show 2 * 0 + _ ≤ _; exact Nat.le_of_eq rfl) (hb hby at_546) rfl (by decide) (by decide) (fun v3 T3 L3 X3 hQ3 => ?_)
    obtain ⟨rfl, Nq3, e3⟩ := hQ3
    have N3 := Fr.app N Nq3
    show Ends p e below s _ _ _ (T3.setTop (mkF m 549 #[d0, .val (.long x1), .second, d3, .val (.long x4), .second, .val (.long x6), .second, .val (.int x8), .val (.int x9), d10, d11, .val (.ref a_q11_24)] [(.int (F8 (13 : Int32) x8 x1 x9 x4 x6 cn_q11_24 cf_q11_24))]))
    by_cases hc549 : (F8 (13 : Int32) x8 x1 x9 x4 x6 cn_q11_24 cf_q11_24) = 0
    · refine Eq.mp (congrArg (fun z => Ends p e below s 2 18 (Q0 Z  h0 n0 z) (T3.setTop (mkF m 549 #[d0, .val (.long x1), .second, d3, .val (.long x4), .second, .val (.long x6), .second, .val (.int x8), .val (.int x9), d10, d11, .val (.ref a_q11_24)] [(.int (F8 (13 : Int32) x8 x1 x9 x4 x6 cn_q11_24 cf_q11_24))]))) (show (F0_533 K cn_q11_24 cf_q11_24 x1 x4 x6 x8 x9) = (F0_594 K) from (if_pos hc549)).symm) ?_
      refine Ends.step (u' := (T3.setTop (mkF m 594 #[d0, .val (.long x1), .second, d3, .val (.long x4), .second, .val (.long x6), .second, .val (.int x8), .val (.int x9), d10, d11, .val (.ref a_q11_24)] []))) ?_ (fun _ k => XS.ifYes X3.here hx rfl (pc0 := 549) (pc' := 594) rfl (hb hby at_549) rfl (XT.i0_eq_t hc549) (by decide) (by decide) k)
      exact b594 T3 _ _ X3 e3 N3 Zs (d0) od0 x1 (d3) od3 x4 x6 (.val (.int x8)) (Or.inr ⟨_, rfl, rfl⟩) (.val (.int x9)) (Or.inr ⟨_, rfl, rfl⟩) (d10) od10 (d11) od11 (.val (.ref a_q11_24)) (Or.inr ⟨_, rfl, rfl⟩)
    · refine Eq.mp (congrArg (fun z => Ends p e below s 2 18 (Q0 Z  h0 n0 z) (T3.setTop (mkF m 549 #[d0, .val (.long x1), .second, d3, .val (.long x4), .second, .val (.long x6), .second, .val (.int x8), .val (.int x9), d10, d11, .val (.ref a_q11_24)] [(.int (F8 (13 : Int32) x8 x1 x9 x4 x6 cn_q11_24 cf_q11_24))]))) (show (F0_533 K cn_q11_24 cf_q11_24 x1 x4 x6 x8 x9) = (F0_552 K cn_q11_24 cf_q11_24 x1 x4 x6 x8 x9) from (if_neg hc549)).symm) ?_
      refine Ends.step (u' := (T3.setTop (mkF m 552 #[d0, .val (.long x1), .second, d3, .val (.long x4), .second, .val (.long x6), .second, .val (.int x8), .val (.int x9), d10, d11, .val (.ref a_q11_24)] []))) ?_ (fun _ k => XS.ifNo X3.here hx rfl (hb hby at_549) rfl (XT.i0_eq_f hc549) k)
      exact b552 T3 _ _ X3 e3 N3 Zs cn_q11_24 cf_q11_24 x1 x4 x6 x8 x9 (d0) od0 (d3) od3 (d10) od10 (d11) od11 a_q11_24 g_q11_24 A_q11_24 (okf hc549)
  have b514 : ∀ (T : State) (L : List Loc) (h : Heap) (X : Stand p l e room_1 s m #[(.int p0), (.long p1), (.int p2), (.long p3), (.long p4)] below meth c T L 2 18) (eT : T.heap = h) (N : Fr n0 L) (Zs : n0 ≤ h.size) (cn_q11_24 : Nat) (cf_q11_24 : Nat → Int32) (x1 : Int64) (x4 : Int64) (x6 : Int64) (x8 : Int32) (x9 : Int32) (d0 : Slot) (od0 : OneS d0) (d3 : Slot) (od3 : OneS d3) (d10 : Slot) (od10 : OneS d10) (d11 : Slot) (od11 : OneS d11) (a_q11_24 : Addr) (g_q11_24 : n0 ≤ a_q11_24) (A_q11_24 : Ar Z h a_q11_24 .byte cn_q11_24 cf_q11_24) (ok : (O0_514 K cn_q11_24 cf_q11_24 x1 x4 x6 x8 x9)), Ends p e below s 2 18 (Q0 Z  h0 n0 (F0_514 K cn_q11_24 cf_q11_24 x1 x4 x6 x8 x9)) (T.setTop (mkF m 514 #[d0, .val (.long x1), .second, d3, .val (.long x4), .second, .val (.long x6), .second, .val (.int x8), .val (.int x9), d10, d11, .val (.ref a_q11_24)] [])) := by
    intro T L h X eT N Zs cn_q11_24 cf_q11_24 x1 x4 x6 x8 x9 d0 od0 d3 od3 d10 od10 d11 od11 a_q11_24 g_q11_24 A_q11_24 ok
    obtain ⟨o1, okt, okf⟩ := ok
    refine Ends.step (u' := (T.setTop (mkF m 516 #[d0, .val (.long x1), .second, d3, .val (.long x4), .second, .val (.long x6), .second, .val (.int x8), .val (.int x9), d10, d11, .val (.ref a_q11_24)] [(.ref a_q11_24)]))) ?_ (fun _ k => XS.aload X.here hx rfl (hb hby at_514) rfl rfl k)
    refine Ends.step (u' := (T.setTop (mkF m 518 #[d0, .val (.long x1), .second, d3, .val (.long x4), .second, .val (.long x6), .second, .val (.int x8), .val (.int x9), d10, d11, .val (.ref a_q11_24)] [(.int (12 : Int32)), (.ref a_q11_24)]))) ?_ (fun _ k => XT.bipushV X.here hx rfl (12 : Int32) (hb hby at_516) rfl k)
    refine Ends.step (u' := (T.setTop (mkF m 520 #[d0, .val (.long x1), .second, d3, .val (.long x4), .second, .val (.long x6), .second, .val (.int x8), .val (.int x9), d10, d11, .val (.ref a_q11_24)] [(.int x8), (.int (12 : Int32)), (.ref a_q11_24)]))) ?_ (fun _ k => XS.iload X.here hx rfl (hb hby at_518) rfl k)
    refine Ends.step (u' := (T.setTop (mkF m 521 #[d0, .val (.long x1), .second, d3, .val (.long x4), .second, .val (.long x6), .second, .val (.int x8), .val (.int x9), d10, d11, .val (.ref a_q11_24)] [(.long x1), (.int x8), (.int (12 : Int32)), (.ref a_q11_24)]))) ?_ (fun _ k => XT.lloadN X.here hx rfl (hb hby at_520) rfl k)
    refine Ends.step (u' := (T.setTop (mkF m 523 #[d0, .val (.long x1), .second, d3, .val (.long x4), .second, .val (.long x6), .second, .val (.int x8), .val (.int x9), d10, d11, .val (.ref a_q11_24)] [(.int x9), (.long x1), (.int x8), (.int (12 : Int32)), (.ref a_q11_24)]))) ?_ (fun _ k => XS.iload X.here hx rfl (hb hby at_521) rfl k)
    refine Ends.step (u' := (T.setTop (mkF m 525 #[d0, .val (.long x1), .second, d3, .val (.long x4), .second, .val (.long x6), .second, .val (.int x8), .val (.int x9), d10, d11, .val (.ref a_q11_24)] [(.long x4), (.int x9), (.long x1), (.int x8), (.int (12 : Int32)), (.ref a_q11_24)]))) ?_ (fun _ k => XT.lload X.here hx rfl (hb hby at_523) rfl k)
    refine Ends.step (u' := (T.setTop (mkF m 527 #[d0, .val (.long x1), .second, d3, .val (.long x4), .second, .val (.long x6), .second, .val (.int x8), .val (.int x9), d10, d11, .val (.ref a_q11_24)] [(.long x6), (.long x4), (.int x9), (.long x1), (.int x8), (.int (12 : Int32)), (.ref a_q11_24)]))) ?_ (fun _ k => XT.lload X.here hx rfl (hb hby at_525) rfl k)
    refine Ends.callS X hx hZ hown (hw _ (List.mem_of_getElem? (i := 38) rfl)) (hw _ (List.mem_of_getElem? (i := 39) rfl)) (hw _ (List.mem_of_getElem? (i := 24) rfl)) (hw _ (List.mem_of_getElem? (i := 40) rfl)) (by decide) (rm8 l Z a0 hw (12 : Int32) x8 x1 x9 x4 x6 cn_q11_24 cf_q11_24 a_q11_24 h n0 Zs A_q11_24 o1) 0 (by decide) (by decide) eT  (g := (mkF m 527 #[d0, .val (.long x1), .second, d3, .val (.long x4), .second, .val (.long x6), .second, .val (.int x8), .val (.int x9), d10, d11, .val (.ref a_q11_24)] [(.long x6), (.long x4), (.int x9), (.long x1), (.int x8), (.int (12 : Int32)), (.ref a_q11_24)])) rfl (by rw [hml]; rfl)  [(.ref a_q11_24), (.int (12 : Int32)), (.int x8), (.long x1), (.int x9), (.long x4), (.long x6)] [] (lenOf pd_6 rfl) rfl (by show 2 * 0 + _ ≤ _; exact Nat.le_of_eq rfl) (hb hby at_527) rfl (by decide) (by decide) (fun v4 T4 L4 X4 hQ4 => ?_)
    obtain ⟨rfl, Nq4, e4⟩ := hQ4
    have N4 := Fr.app N Nq4
    show Ends p e below s _ _ _ (T4.setTop (mkF m 530 #[d0, .val (.long x1), .second, d3, .val (.long x4), .second, .val (.long x6), .second, .val (.int x8), .val (.int x9), d10, d11, .val (.ref a_q11_24)] [(.int (F8 (12 : Int32) x8 x1 x9 x4 x6 cn_q11_24 cf_q11_24))]))
    by_cases hc530 : (F8 (12 : Int32) x8 x1 x9 x4 x6 cn_q11_24 cf_q11_24) = 0
    · refine Eq.mp (congrArg (fun z => Ends p e below s 2 18 (Q0 Z  h0 n0 z) (T4.setTop (mkF m 530 #[d0, .val (.long x1), .second, d3, .val (.long x4), .second, .val (.long x6), .second, .val (.int x8), .val (.int x9), d10, d11, .val (.ref a_q11_24)] [(.int (F8 (12 : Int32) x8 x1 x9 x4 x6 cn_q11_24 cf_q11_24))]))) (show (F0_514 K cn_q11_24 cf_q11_24 x1 x4 x6 x8 x9) = (F0_594 K) from (if_pos hc530)).symm) ?_
      refine Ends.step (u' := (T4.setTop (mkF m 594 #[d0, .val (.long x1), .second, d3, .val (.long x4), .second, .val (.long x6), .second, .val (.int x8), .val (.int x9), d10, d11, .val (.ref a_q11_24)] []))) ?_ (fun _ k => XS.ifYes X4.here hx rfl (pc0 := 530) (pc' := 594) rfl (hb hby at_530) rfl (XT.i0_eq_t hc530) (by decide) (by decide) k)
      exact b594 T4 _ _ X4 e4 N4 Zs (d0) od0 x1 (d3) od3 x4 x6 (.val (.int x8)) (Or.inr ⟨_, rfl, rfl⟩) (.val (.int x9)) (Or.inr ⟨_, rfl, rfl⟩) (d10) od10 (d11) od11 (.val (.ref a_q11_24)) (Or.inr ⟨_, rfl, rfl⟩)
    · refine Eq.mp (congrArg (fun z => Ends p e below s 2 18 (Q0 Z  h0 n0 z) (T4.setTop (mkF m 530 #[d0, .val (.long x1), .second, d3, .val (.long x4), .second, .val (.long x6), .second, .val (.int x8), .val (.int x9), d10, d11, .val (.ref a_q11_24)] [(.int (F8 (12 : Int32) x8 x1 x9 x4 x6 cn_q11_24 cf_q11_24))]))) (show (F0_514 K cn_q11_24 cf_q11_24 x1 x4 x6 x8 x9) = (F0_533 K cn_q11_24 cf_q11_24 x1 x4 x6 x8 x9) from (if_neg hc530)).symm) ?_
      refine Ends.step (u' := (T4.setTop (mkF m 533 #[d0, .val (.long x1), .second, d3, .val (.long x4), .second, .val (.long x6), .second, .val (.int x8), .val (.int x9), d10, d11, .val (.ref a_q11_24)] []))) ?_ (fun _ k => XS.ifNo X4.here hx rfl (hb hby at_530) rfl (XT.i0_eq_f hc530) k)
      exact b533 T4 _ _ X4 e4 N4 Zs cn_q11_24 cf_q11_24 x1 x4 x6 x8 x9 (d0) od0 (d3) od3 (d10) od10 (d11) od11 a_q11_24 g_q11_24 A_q11_24 (okf hc530)
  have b495 : ∀ (T : State) (L : List Loc) (h : Heap) (X : Stand p l e room_1 s m #[(.int p0), (.long p1), (.int p2), (.long p3), (.long p4)] below meth c T L 2 18) (eT : T.heap = h) (N : Fr n0 L) (Zs : n0 ≤ h.size) (cn_q11_24 : Nat) (cf_q11_24 : Nat → Int32) (x1 : Int64) (x4 : Int64) (x6 : Int64) (x8 : Int32) (x9 : Int32) (d0 : Slot) (od0 : OneS d0) (d3 : Slot) (od3 : OneS d3) (d10 : Slot) (od10 : OneS d10) (d11 : Slot) (od11 : OneS d11) (a_q11_24 : Addr) (g_q11_24 : n0 ≤ a_q11_24) (A_q11_24 : Ar Z h a_q11_24 .byte cn_q11_24 cf_q11_24) (ok : (O0_495 K cn_q11_24 cf_q11_24 x1 x4 x6 x8 x9)), Ends p e below s 2 18 (Q0 Z  h0 n0 (F0_495 K cn_q11_24 cf_q11_24 x1 x4 x6 x8 x9)) (T.setTop (mkF m 495 #[d0, .val (.long x1), .second, d3, .val (.long x4), .second, .val (.long x6), .second, .val (.int x8), .val (.int x9), d10, d11, .val (.ref a_q11_24)] [])) := by
    intro T L h X eT N Zs cn_q11_24 cf_q11_24 x1 x4 x6 x8 x9 d0 od0 d3 od3 d10 od10 d11 od11 a_q11_24 g_q11_24 A_q11_24 ok
    obtain ⟨o1, okt, okf⟩ := ok
    refine Ends.step (u' := (T.setTop (mkF m 497 #[d0, .val (.long x1), .second, d3, .val (.long x4), .second, .val (.long x6), .second, .val (.int x8), .val (.int x9), d10, d11, .val (.ref a_q11_24)] [(.ref a_q11_24)]))) ?_ (fun _ k => XS.aload X.here hx rfl (hb hby at_495) rfl rfl k)
    refine Ends.step (u' := (T.setTop (mkF m 499 #[d0, .val (.long x1), .second, d3, .val (.long x4), .second, .val (.long x6), .second, .val (.int x8), .val (.int x9), d10, d11, .val (.ref a_q11_24)] [(.int (11 : Int32)), (.ref a_q11_24)]))) ?_ (fun _ k => XT.bipushV X.here hx rfl (11 : Int32) (hb hby at_497) rfl k)
    refine Ends.step (u' := (T.setTop (mkF m 501 #[d0, .val (.long x1), .second, d3, .val (.long x4), .second, .val (.long x6), .second, .val (.int x8), .val (.int x9), d10, d11, .val (.ref a_q11_24)] [(.int x8), (.int (11 : Int32)), (.ref a_q11_24)]))) ?_ (fun _ k => XS.iload X.here hx rfl (hb hby at_499) rfl k)
    refine Ends.step (u' := (T.setTop (mkF m 502 #[d0, .val (.long x1), .second, d3, .val (.long x4), .second, .val (.long x6), .second, .val (.int x8), .val (.int x9), d10, d11, .val (.ref a_q11_24)] [(.long x1), (.int x8), (.int (11 : Int32)), (.ref a_q11_24)]))) ?_ (fun _ k => XT.lloadN X.here hx rfl (hb hby at_501) rfl k)
    refine Ends.step (u' := (T.setTop (mkF m 504 #[d0, .val (.long x1), .second, d3, .val (.long x4), .second, .val (.long x6), .second, .val (.int x8), .val (.int x9), d10, d11, .val (.ref a_q11_24)] [(.int x9), (.long x1), (.int x8), (.int (11 : Int32)), (.ref a_q11_24)]))) ?_ (fun _ k => XS.iload X.here hx rfl (hb hby at_502) rfl k)
    refine Ends.step (u' := (T.setTop (mkF m 506 #[d0, .val (.long x1), .second, d3, .val (.long x4), .second, .val (.long x6), .second, .val (.int x8), .val (.int x9), d10, d11, .val (.ref a_q11_24)] [(.long x4), (.int x9), (.long x1), (.int x8), (.int (11 : Int32)), (.ref a_q11_24)]))) ?_ (fun _ k => XT.lload X.here hx rfl (hb hby at_504) rfl k)
    refine Ends.step (u' := (T.setTop (mkF m 508 #[d0, .val (.long x1), .second, d3, .val (.long x4), .second, .val (.long x6), .second, .val (.int x8), .val (.int x9), d10, d11, .val (.ref a_q11_24)] [(.long x6), (.long x4), (.int x9), (.long x1), (.int x8), (.int (11 : Int32)), (.ref a_q11_24)]))) ?_ (fun _ k => XT.lload X.here hx rfl (hb hby at_506) rfl k)
    refine Ends.callS X hx hZ hown (hw _ (List.mem_of_getElem? (i := 38) rfl)) (hw _ (List.mem_of_getElem? (i := 39) rfl)) (hw _ (List.mem_of_getElem? (i := 24) rfl)) (hw _ (List.mem_of_getElem? (i := 40) rfl)) (by decide) (rm8 l Z a0 hw (11 : Int32) x8 x1 x9 x4 x6 cn_q11_24 cf_q11_24 a_q11_24 h n0 Zs A_q11_24 o1) 0 (by decide) (by decide) eT  (g := (mkF m 508 #[d0, .val (.long x1), .second, d3, .val (.long x4), .second, .val (.long x6), .second, .val (.int x8), .val (.int x9), d10, d11, .val (.ref a_q11_24)] [(.long x6), (.long x4), (.int x9), (.long x1), (.int x8), (.int (11 : Int32)), (.ref a_q11_24)])) rfl (by rw [hml]; rfl)  [(.ref a_q11_24), (.int (11 : Int32)), (.int x8), (.long x1), (.int x9), (.long x4), (.long x6)] [] (lenOf pd_6 rfl) rfl (by show 2 * 0 + _ ≤ _; exact Nat.le_of_eq rfl) (hb hby at_508) rfl (by decide) (by decide) (fun v5 T5 L5 X5 hQ5 => ?_)
    obtain ⟨rfl, Nq5, e5⟩ := hQ5
    have N5 := Fr.app N Nq5
    show Ends p e below s _ _ _ (T5.setTop (mkF m 511 #[d0, .val (.long x1), .second, d3, .val (.long x4), .second, .val (.long x6), .second, .val (.int x8), .val (.int x9), d10, d11, .val (.ref a_q11_24)] [(.int (F8 (11 : Int32) x8 x1 x9 x4 x6 cn_q11_24 cf_q11_24))]))
    by_cases hc511 : (F8 (11 : Int32) x8 x1 x9 x4 x6 cn_q11_24 cf_q11_24) = 0
    · refine Eq.mp (congrArg (fun z => Ends p e below s 2 18 (Q0 Z  h0 n0 z) (T5.setTop (mkF m 511 #[d0, .val (.long x1), .second, d3, .val (.long x4), .second, .val (.long x6), .second, .val (.int x8), .val (.int x9), d10, d11, .val (.ref a_q11_24)] [(.int (F8 (11 : Int32) x8 x1 x9 x4 x6 cn_q11_24 cf_q11_24))]))) (show (F0_495 K cn_q11_24 cf_q11_24 x1 x4 x6 x8 x9) = (F0_594 K) from (if_pos hc511)).symm) ?_
      refine Ends.step (u' := (T5.setTop (mkF m 594 #[d0, .val (.long x1), .second, d3, .val (.long x4), .second, .val (.long x6), .second, .val (.int x8), .val (.int x9), d10, d11, .val (.ref a_q11_24)] []))) ?_ (fun _ k => XS.ifYes X5.here hx rfl (pc0 := 511) (pc' := 594) rfl (hb hby at_511) rfl (XT.i0_eq_t hc511) (by decide) (by decide) k)
      exact b594 T5 _ _ X5 e5 N5 Zs (d0) od0 x1 (d3) od3 x4 x6 (.val (.int x8)) (Or.inr ⟨_, rfl, rfl⟩) (.val (.int x9)) (Or.inr ⟨_, rfl, rfl⟩) (d10) od10 (d11) od11 (.val (.ref a_q11_24)) (Or.inr ⟨_, rfl, rfl⟩)
    · refine Eq.mp (congrArg (fun z => Ends p e below s 2 18 (Q0 Z  h0 n0 z) (T5.setTop (mkF m 511 #[d0, .val (.long x1), .second, d3, .val (.long x4), .second, .val (.long x6), .second, .val (.int x8), .val (.int x9), d10, d11, .val (.ref a_q11_24)] [(.int (F8 (11 : Int32) x8 x1 x9 x4 x6 cn_q11_24 cf_q11_24))]))) (show (F0_495 K cn_q11_24 cf_q11_24 x1 x4 x6 x8 x9) = (F0_514 K cn_q11_24 cf_q11_24 x1 x4 x6 x8 x9) from (if_neg hc511)).symm) ?_
      refine Ends.step (u' := (T5.setTop (mkF m 514 #[d0, .val (.long x1), .second, d3, .val (.long x4), .second, .val (.long x6), .second, .val (.int x8), .val (.int x9), d10, d11, .val (.ref a_q11_24)] []))) ?_ (fun _ k => XS.ifNo X5.here hx rfl (hb hby at_511) rfl (XT.i0_eq_f hc511) k)
      exact b514 T5 _ _ X5 e5 N5 Zs cn_q11_24 cf_q11_24 x1 x4 x6 x8 x9 (d0) od0 (d3) od3 (d10) od10 (d11) od11 a_q11_24 g_q11_24 A_q11_24 (okf hc511)
  have b476 : ∀ (T : State) (L : List Loc) (h : Heap) (X : Stand p l e room_1 s m #[(.int p0), (.long p1), (.int p2), (.long p3), (.long p4)] below meth c T L 2 18) (eT : T.heap = h) (N : Fr n0 L) (Zs : n0 ≤ h.size) (cn_q11_24 : Nat) (cf_q11_24 : Nat → Int32) (x1 : Int64) (x4 : Int64) (x6 : Int64) (x8 : Int32) (x9 : Int32) (d0 : Slot) (od0 : OneS d0) (d3 : Slot) (od3 : OneS d3) (d10 : Slot) (od10 : OneS d10) (d11 : Slot) (od11 : OneS d11) (a_q11_24 : Addr) (g_q11_24 : n0 ≤ a_q11_24) (A_q11_24 : Ar Z h a_q11_24 .byte cn_q11_24 cf_q11_24) (ok : (O0_476 K cn_q11_24 cf_q11_24 x1 x4 x6 x8 x9)), Ends p e below s 2 18 (Q0 Z  h0 n0 (F0_476 K cn_q11_24 cf_q11_24 x1 x4 x6 x8 x9)) (T.setTop (mkF m 476 #[d0, .val (.long x1), .second, d3, .val (.long x4), .second, .val (.long x6), .second, .val (.int x8), .val (.int x9), d10, d11, .val (.ref a_q11_24)] [])) := by
    intro T L h X eT N Zs cn_q11_24 cf_q11_24 x1 x4 x6 x8 x9 d0 od0 d3 od3 d10 od10 d11 od11 a_q11_24 g_q11_24 A_q11_24 ok
    obtain ⟨o1, okt, okf⟩ := ok
    refine Ends.step (u' := (T.setTop (mkF m 478 #[d0, .val (.long x1), .second, d3, .val (.long x4), .second, .val (.long x6), .second, .val (.int x8), .val (.int x9), d10, d11, .val (.ref a_q11_24)] [(.ref a_q11_24)]))) ?_ (fun _ k => XS.aload X.here hx rfl (hb hby at_476) rfl rfl k)
    refine Ends.step (u' := (T.setTop (mkF m 480 #[d0, .val (.long x1), .second, d3, .val (.long x4), .second, .val (.long x6), .second, .val (.int x8), .val (.int x9), d10, d11, .val (.ref a_q11_24)] [(.int (10 : Int32)), (.ref a_q11_24)]))) ?_ (fun _ k => XT.bipushV X.here hx rfl (10 : Int32) (hb hby at_478) rfl k)
    refine Ends.step (u' := (T.setTop (mkF m 482 #[d0, .val (.long x1), .second, d3, .val (.long x4), .second, .val (.long x6), .second, .val (.int x8), .val (.int x9), d10, d11, .val (.ref a_q11_24)] [(.int x8), (.int (10 : Int32)), (.ref a_q11_24)]))) ?_ (fun _ k => XS.iload X.here hx rfl (hb hby at_480) rfl k)
    refine Ends.step (u' := (T.setTop (mkF m 483 #[d0, .val (.long x1), .second, d3, .val (.long x4), .second, .val (.long x6), .second, .val (.int x8), .val (.int x9), d10, d11, .val (.ref a_q11_24)] [(.long x1), (.int x8), (.int (10 : Int32)), (.ref a_q11_24)]))) ?_ (fun _ k => XT.lloadN X.here hx rfl (hb hby at_482) rfl k)
    refine Ends.step (u' := (T.setTop (mkF m 485 #[d0, .val (.long x1), .second, d3, .val (.long x4), .second, .val (.long x6), .second, .val (.int x8), .val (.int x9), d10, d11, .val (.ref a_q11_24)] [(.int x9), (.long x1), (.int x8), (.int (10 : Int32)), (.ref a_q11_24)]))) ?_ (fun _ k => XS.iload X.here hx rfl (hb hby at_483) rfl k)
    refine Ends.step (u' := (T.setTop (mkF m 487 #[d0, .val (.long x1), .second, d3, .val (.long x4), .second, .val (.long x6), .second, .val (.int x8), .val (.int x9), d10, d11, .val (.ref a_q11_24)] [(.long x4), (.int x9), (.long x1), (.int x8), (.int (10 : Int32)), (.ref a_q11_24)]))) ?_ (fun _ k => XT.lload X.here hx rfl (hb hby at_485) rfl k)
    refine Ends.step (u' := (T.setTop (mkF m 489 #[d0, .val (.long x1), .second, d3, .val (.long x4), .second, .val (.long x6), .second, .val (.int x8), .val (.int x9), d10, d11, .val (.ref a_q11_24)] [(.long x6), (.long x4), (.int x9), (.long x1), (.int x8), (.int (10 : Int32)), (.ref a_q11_24)]))) ?_ (fun _ k => XT.lload X.here hx rfl (hb hby at_487) rfl k)
    refine Ends.callS X hx hZ hown (hw _ (List.mem_of_getElem? (i := 38) rfl)) (hw _ (List.mem_of_getElem? (i := 39) rfl)) (hw _ (List.mem_of_getElem? (i := 24) rfl)) (hw _ (List.mem_of_getElem? (i := 40) rfl)) (by decide) (rm8 l Z a0 hw (10 : Int32) x8 x1 x9 x4 x6 cn_q11_24 cf_q11_24 a_q11_24 h n0 Zs A_q11_24 o1) 0 (by decide) (by decide) eT  (g := (mkF m 489 #[d0, .val (.long x1), .second, d3, .val (.long x4), .second, .val (.long x6), .second, .val (.int x8), .val (.int x9), d10, d11, .val (.ref a_q11_24)] [(.long x6), (.long x4), (.int x9), (.long x1), (.int x8), (.int (10 : Int32)), (.ref a_q11_24)])) rfl (by rw [hml]; rfl)  [(.ref a_q11_24), (.int (10 : Int32)), (.int x8), (.long x1), (.int x9), (.long x4), (.long x6)] [] (lenOf pd_6 rfl) rfl (by show 2 * 0 + _ ≤ _; exact Nat.le_of_eq rfl) (hb hby at_489) rfl (by decide) (by decide) (fun v6 T6 L6 X6 hQ6 => ?_)
    obtain ⟨rfl, Nq6, e6⟩ := hQ6
    have N6 := Fr.app N Nq6
    show Ends p e below s _ _ _ (T6.setTop (mkF m 492 #[d0, .val (.long x1), .second, d3, .val (.long x4), .second, .val (.long x6), .second, .val (.int x8), .val (.int x9), d10, d11, .val (.ref a_q11_24)] [(.int (F8 (10 : Int32) x8 x1 x9 x4 x6 cn_q11_24 cf_q11_24))]))
    by_cases hc492 : (F8 (10 : Int32) x8 x1 x9 x4 x6 cn_q11_24 cf_q11_24) = 0
    · refine Eq.mp (congrArg (fun z => Ends p e below s 2 18 (Q0 Z  h0 n0 z) (T6.setTop (mkF m 492 #[d0, .val (.long x1), .second, d3, .val (.long x4), .second, .val (.long x6), .second, .val (.int x8), .val (.int x9), d10, d11, .val (.ref a_q11_24)] [(.int (F8 (10 : Int32) x8 x1 x9 x4 x6 cn_q11_24 cf_q11_24))]))) (show (F0_476 K cn_q11_24 cf_q11_24 x1 x4 x6 x8 x9) = (F0_594 K) from (if_pos hc492)).symm) ?_
      refine Ends.step (u' := (T6.setTop (mkF m 594 #[d0, .val (.long x1), .second, d3, .val (.long x4), .second, .val (.long x6), .second, .val (.int x8), .val (.int x9), d10, d11, .val (.ref a_q11_24)] []))) ?_ (fun _ k => XS.ifYes X6.here hx rfl (pc0 := 492) (pc' := 594) rfl (hb hby at_492) rfl (XT.i0_eq_t hc492) (by decide) (by decide) k)
      exact b594 T6 _ _ X6 e6 N6 Zs (d0) od0 x1 (d3) od3 x4 x6 (.val (.int x8)) (Or.inr ⟨_, rfl, rfl⟩) (.val (.int x9)) (Or.inr ⟨_, rfl, rfl⟩) (d10) od10 (d11) od11 (.val (.ref a_q11_24)) (Or.inr ⟨_, rfl, rfl⟩)
    · refine Eq.mp (congrArg (fun z => Ends p e below s 2 18 (Q0 Z  h0 n0 z) (T6.setTop (mkF m 492 #[d0, .val (.long x1), .second, d3, .val (.long x4), .second, .val (.long x6), .second, .val (.int x8), .val (.int x9), d10, d11, .val (.ref a_q11_24)] [(.int (F8 (10 : Int32) x8 x1 x9 x4 x6 cn_q11_24 cf_q11_24))]))) (show (F0_476 K cn_q11_24 cf_q11_24 x1 x4 x6 x8 x9) = (F0_495 K cn_q11_24 cf_q11_24 x1 x4 x6 x8 x9) from (if_neg hc492)).symm) ?_
      refine Ends.step (u' := (T6.setTop (mkF m 495 #[d0, .val (.long x1), .second, d3, .val (.long x4), .second, .val (.long x6), .second, .val (.int x8), .val (.int x9), d10, d11, .val (.ref a_q11_24)] []))) ?_ (fun _ k => XS.ifNo X6.here hx rfl (hb hby at_492) rfl (XT.i0_eq_f hc492) k)
      exact b495 T6 _ _ X6 e6 N6 Zs cn_q11_24 cf_q11_24 x1 x4 x6 x8 x9 (d0) od0 (d3) od3 (d10) od10 (d11) od11 a_q11_24 g_q11_24 A_q11_24 (okf hc492)
  have b457 : ∀ (T : State) (L : List Loc) (h : Heap) (X : Stand p l e room_1 s m #[(.int p0), (.long p1), (.int p2), (.long p3), (.long p4)] below meth c T L 2 18) (eT : T.heap = h) (N : Fr n0 L) (Zs : n0 ≤ h.size) (cn_q11_24 : Nat) (cf_q11_24 : Nat → Int32) (x1 : Int64) (x4 : Int64) (x6 : Int64) (x8 : Int32) (x9 : Int32) (d0 : Slot) (od0 : OneS d0) (d3 : Slot) (od3 : OneS d3) (d10 : Slot) (od10 : OneS d10) (d11 : Slot) (od11 : OneS d11) (a_q11_24 : Addr) (g_q11_24 : n0 ≤ a_q11_24) (A_q11_24 : Ar Z h a_q11_24 .byte cn_q11_24 cf_q11_24) (ok : (O0_457 K cn_q11_24 cf_q11_24 x1 x4 x6 x8 x9)), Ends p e below s 2 18 (Q0 Z  h0 n0 (F0_457 K cn_q11_24 cf_q11_24 x1 x4 x6 x8 x9)) (T.setTop (mkF m 457 #[d0, .val (.long x1), .second, d3, .val (.long x4), .second, .val (.long x6), .second, .val (.int x8), .val (.int x9), d10, d11, .val (.ref a_q11_24)] [])) := by
    intro T L h X eT N Zs cn_q11_24 cf_q11_24 x1 x4 x6 x8 x9 d0 od0 d3 od3 d10 od10 d11 od11 a_q11_24 g_q11_24 A_q11_24 ok
    obtain ⟨o1, okt, okf⟩ := ok
    refine Ends.step (u' := (T.setTop (mkF m 459 #[d0, .val (.long x1), .second, d3, .val (.long x4), .second, .val (.long x6), .second, .val (.int x8), .val (.int x9), d10, d11, .val (.ref a_q11_24)] [(.ref a_q11_24)]))) ?_ (fun _ k => XS.aload X.here hx rfl (hb hby at_457) rfl rfl k)
    refine Ends.step (u' := (T.setTop (mkF m 461 #[d0, .val (.long x1), .second, d3, .val (.long x4), .second, .val (.long x6), .second, .val (.int x8), .val (.int x9), d10, d11, .val (.ref a_q11_24)] [(.int (9 : Int32)), (.ref a_q11_24)]))) ?_ (fun _ k => XT.bipushV X.here hx rfl (9 : Int32) (hb hby at_459) rfl k)
    refine Ends.step (u' := (T.setTop (mkF m 463 #[d0, .val (.long x1), .second, d3, .val (.long x4), .second, .val (.long x6), .second, .val (.int x8), .val (.int x9), d10, d11, .val (.ref a_q11_24)] [(.int x8), (.int (9 : Int32)), (.ref a_q11_24)]))) ?_ (fun _ k => XS.iload X.here hx rfl (hb hby at_461) rfl k)
    refine Ends.step (u' := (T.setTop (mkF m 464 #[d0, .val (.long x1), .second, d3, .val (.long x4), .second, .val (.long x6), .second, .val (.int x8), .val (.int x9), d10, d11, .val (.ref a_q11_24)] [(.long x1), (.int x8), (.int (9 : Int32)), (.ref a_q11_24)]))) ?_ (fun _ k => XT.lloadN X.here hx rfl (hb hby at_463) rfl k)
    refine Ends.step (u' := (T.setTop (mkF m 466 #[d0, .val (.long x1), .second, d3, .val (.long x4), .second, .val (.long x6), .second, .val (.int x8), .val (.int x9), d10, d11, .val (.ref a_q11_24)] [(.int x9), (.long x1), (.int x8), (.int (9 : Int32)), (.ref a_q11_24)]))) ?_ (fun _ k => XS.iload X.here hx rfl (hb hby at_464) rfl k)
    refine Ends.step (u' := (T.setTop (mkF m 468 #[d0, .val (.long x1), .second, d3, .val (.long x4), .second, .val (.long x6), .second, .val (.int x8), .val (.int x9), d10, d11, .val (.ref a_q11_24)] [(.long x4), (.int x9), (.long x1), (.int x8), (.int (9 : Int32)), (.ref a_q11_24)]))) ?_ (fun _ k => XT.lload X.here hx rfl (hb hby at_466) rfl k)
    refine Ends.step (u' := (T.setTop (mkF m 470 #[d0, .val (.long x1), .second, d3, .val (.long x4), .second, .val (.long x6), .second, .val (.int x8), .val (.int x9), d10, d11, .val (.ref a_q11_24)] [(.long x6), (.long x4), (.int x9), (.long x1), (.int x8), (.int (9 : Int32)), (.ref a_q11_24)]))) ?_ (fun _ k => XT.lload X.here hx rfl (hb hby at_468) rfl k)
    refine Ends.callS X hx hZ hown (hw _ (List.mem_of_getElem? (i := 38) rfl)) (hw _ (List.mem_of_getElem? (i := 39) rfl)) (hw _ (List.mem_of_getElem? (i := 24) rfl)) (hw _ (List.mem_of_getElem? (i := 40) rfl)) (by decide) (rm8 l Z a0 hw (9 : Int32) x8 x1 x9 x4 x6 cn_q11_24 cf_q11_24 a_q11_24 h n0 Zs A_q11_24 o1) 0 (by decide) (by decide) eT  (g := (mkF m 470 #[d0, .val (.long x1), .second, d3, .val (.long x4), .second, .val (.long x6), .second, .val (.int x8), .val (.int x9), d10, d11, .val (.ref a_q11_24)] [(.long x6), (.long x4), (.int x9), (.long x1), (.int x8), (.int (9 : Int32)), (.ref a_q11_24)])) rfl (by rw [hml]; rfl)  [(.ref a_q11_24), (.int (9 : Int32)), (.int x8), (.long x1), (.int x9), (.long x4), (.long x6)] [] (lenOf pd_6 rfl) rfl (by show 2 * 0 + _ ≤ _; exact Nat.le_of_eq rfl) (hb hby at_470) rfl (by decide) (by decide) (fun v7 T7 L7 X7 hQ7 => ?_)
    obtain ⟨rfl, Nq7, e7⟩ := hQ7
    have N7 := Fr.app N Nq7
    show Ends p e below s _ _ _ (T7.setTop (mkF m 473 #[d0, .val (.long x1), .second, d3, .val (.long x4), .second, .val (.long x6), .second, .val (.int x8), .val (.int x9), d10, d11, .val (.ref a_q11_24)] [(.int (F8 (9 : Int32) x8 x1 x9 x4 x6 cn_q11_24 cf_q11_24))]))
    by_cases hc473 : (F8 (9 : Int32) x8 x1 x9 x4 x6 cn_q11_24 cf_q11_24) = 0
    · refine Eq.mp (congrArg (fun z => Ends p e below s 2 18 (Q0 Z  h0 n0 z) (T7.setTop (mkF m 473 #[d0, .val (.long x1), .second, d3, .val (.long x4), .second, .val (.long x6), .second, .val (.int x8), .val (.int x9), d10, d11, .val (.ref a_q11_24)] [(.int (F8 (9 : Int32) x8 x1 x9 x4 x6 cn_q11_24 cf_q11_24))]))) (show (F0_457 K cn_q11_24 cf_q11_24 x1 x4 x6 x8 x9) = (F0_594 K) from (if_pos hc473)).symm) ?_
      refine Ends.step (u' := (T7.setTop (mkF m 594 #[d0, .val (.long x1), .second, d3, .val (.long x4), .second, .val (.long x6), .second, .val (.int x8), .val (.int x9), d10, d11, .val (.ref a_q11_24)] []))) ?_ (fun _ k => XS.ifYes X7.here hx rfl (pc0 := 473) (pc' := 594) rfl (hb hby at_473) rfl (XT.i0_eq_t hc473) (by decide) (by decide) k)
      exact b594 T7 _ _ X7 e7 N7 Zs (d0) od0 x1 (d3) od3 x4 x6 (.val (.int x8)) (Or.inr ⟨_, rfl, rfl⟩) (.val (.int x9)) (Or.inr ⟨_, rfl, rfl⟩) (d10) od10 (d11) od11 (.val (.ref a_q11_24)) (Or.inr ⟨_, rfl, rfl⟩)
    · refine Eq.mp (congrArg (fun z => Ends p e below s 2 18 (Q0 Z  h0 n0 z) (T7.setTop (mkF m 473 #[d0, .val (.long x1), .second, d3, .val (.long x4), .second, .val (.long x6), .second, .val (.int x8), .val (.int x9), d10, d11, .val (.ref a_q11_24)] [(.int (F8 (9 : Int32) x8 x1 x9 x4 x6 cn_q11_24 cf_q11_24))]))) (show (F0_457 K cn_q11_24 cf_q11_24 x1 x4 x6 x8 x9) = (F0_476 K cn_q11_24 cf_q11_24 x1 x4 x6 x8 x9) from (if_neg hc473)).symm) ?_
      refine Ends.step (u' := (T7.setTop (mkF m 476 #[d0, .val (.long x1), .second, d3, .val (.long x4), .second, .val (.long x6), .second, .val (.int x8), .val (.int x9), d10, d11, .val (.ref a_q11_24)] []))) ?_ (fun _ k => XS.ifNo X7.here hx rfl (hb hby at_473) rfl (XT.i0_eq_f hc473) k)
      exact b476 T7 _ _ X7 e7 N7 Zs cn_q11_24 cf_q11_24 x1 x4 x6 x8 x9 (d0) od0 (d3) od3 (d10) od10 (d11) od11 a_q11_24 g_q11_24 A_q11_24 (okf hc473)
  have b438 : ∀ (T : State) (L : List Loc) (h : Heap) (X : Stand p l e room_1 s m #[(.int p0), (.long p1), (.int p2), (.long p3), (.long p4)] below meth c T L 2 18) (eT : T.heap = h) (N : Fr n0 L) (Zs : n0 ≤ h.size) (cn_q11_24 : Nat) (cf_q11_24 : Nat → Int32) (x1 : Int64) (x4 : Int64) (x6 : Int64) (x8 : Int32) (x9 : Int32) (d0 : Slot) (od0 : OneS d0) (d3 : Slot) (od3 : OneS d3) (d10 : Slot) (od10 : OneS d10) (d11 : Slot) (od11 : OneS d11) (a_q11_24 : Addr) (g_q11_24 : n0 ≤ a_q11_24) (A_q11_24 : Ar Z h a_q11_24 .byte cn_q11_24 cf_q11_24) (ok : (O0_438 K cn_q11_24 cf_q11_24 x1 x4 x6 x8 x9)), Ends p e below s 2 18 (Q0 Z  h0 n0 (F0_438 K cn_q11_24 cf_q11_24 x1 x4 x6 x8 x9)) (T.setTop (mkF m 438 #[d0, .val (.long x1), .second, d3, .val (.long x4), .second, .val (.long x6), .second, .val (.int x8), .val (.int x9), d10, d11, .val (.ref a_q11_24)] [])) := by
    intro T L h X eT N Zs cn_q11_24 cf_q11_24 x1 x4 x6 x8 x9 d0 od0 d3 od3 d10 od10 d11 od11 a_q11_24 g_q11_24 A_q11_24 ok
    obtain ⟨o1, okt, okf⟩ := ok
    refine Ends.step (u' := (T.setTop (mkF m 440 #[d0, .val (.long x1), .second, d3, .val (.long x4), .second, .val (.long x6), .second, .val (.int x8), .val (.int x9), d10, d11, .val (.ref a_q11_24)] [(.ref a_q11_24)]))) ?_ (fun _ k => XS.aload X.here hx rfl (hb hby at_438) rfl rfl k)
    refine Ends.step (u' := (T.setTop (mkF m 442 #[d0, .val (.long x1), .second, d3, .val (.long x4), .second, .val (.long x6), .second, .val (.int x8), .val (.int x9), d10, d11, .val (.ref a_q11_24)] [(.int (8 : Int32)), (.ref a_q11_24)]))) ?_ (fun _ k => XT.bipushV X.here hx rfl (8 : Int32) (hb hby at_440) rfl k)
    refine Ends.step (u' := (T.setTop (mkF m 444 #[d0, .val (.long x1), .second, d3, .val (.long x4), .second, .val (.long x6), .second, .val (.int x8), .val (.int x9), d10, d11, .val (.ref a_q11_24)] [(.int x8), (.int (8 : Int32)), (.ref a_q11_24)]))) ?_ (fun _ k => XS.iload X.here hx rfl (hb hby at_442) rfl k)
    refine Ends.step (u' := (T.setTop (mkF m 445 #[d0, .val (.long x1), .second, d3, .val (.long x4), .second, .val (.long x6), .second, .val (.int x8), .val (.int x9), d10, d11, .val (.ref a_q11_24)] [(.long x1), (.int x8), (.int (8 : Int32)), (.ref a_q11_24)]))) ?_ (fun _ k => XT.lloadN X.here hx rfl (hb hby at_444) rfl k)
    refine Ends.step (u' := (T.setTop (mkF m 447 #[d0, .val (.long x1), .second, d3, .val (.long x4), .second, .val (.long x6), .second, .val (.int x8), .val (.int x9), d10, d11, .val (.ref a_q11_24)] [(.int x9), (.long x1), (.int x8), (.int (8 : Int32)), (.ref a_q11_24)]))) ?_ (fun _ k => XS.iload X.here hx rfl (hb hby at_445) rfl k)
    refine Ends.step (u' := (T.setTop (mkF m 449 #[d0, .val (.long x1), .second, d3, .val (.long x4), .second, .val (.long x6), .second, .val (.int x8), .val (.int x9), d10, d11, .val (.ref a_q11_24)] [(.long x4), (.int x9), (.long x1), (.int x8), (.int (8 : Int32)), (.ref a_q11_24)]))) ?_ (fun _ k => XT.lload X.here hx rfl (hb hby at_447) rfl k)
    refine Ends.step (u' := (T.setTop (mkF m 451 #[d0, .val (.long x1), .second, d3, .val (.long x4), .second, .val (.long x6), .second, .val (.int x8), .val (.int x9), d10, d11, .val (.ref a_q11_24)] [(.long x6), (.long x4), (.int x9), (.long x1), (.int x8), (.int (8 : Int32)), (.ref a_q11_24)]))) ?_ (fun _ k => XT.lload X.here hx rfl (hb hby at_449) rfl k)
    refine Ends.callS X hx hZ hown (hw _ (List.mem_of_getElem? (i := 38) rfl)) (hw _ (List.mem_of_getElem? (i := 39) rfl)) (hw _ (List.mem_of_getElem? (i := 24) rfl)) (hw _ (List.mem_of_getElem? (i := 40) rfl)) (by decide) (rm8 l Z a0 hw (8 : Int32) x8 x1 x9 x4 x6 cn_q11_24 cf_q11_24 a_q11_24 h n0 Zs A_q11_24 o1) 0 (by decide) (by decide) eT  (g := (mkF m 451 #[d0, .val (.long x1), .second, d3, .val (.long x4), .second, .val (.long x6), .second, .val (.int x8), .val (.int x9), d10, d11, .val (.ref a_q11_24)] [(.long x6), (.long x4), (.int x9), (.long x1), (.int x8), (.int (8 : Int32)), (.ref a_q11_24)])) rfl (by rw [hml]; rfl)  [(.ref a_q11_24), (.int (8 : Int32)), (.int x8), (.long x1), (.int x9), (.long x4), (.long x6)] [] (lenOf pd_6 rfl) rfl (by show 2 * 0 + _ ≤ _; exact Nat.le_of_eq rfl) (hb hby at_451) rfl (by decide) (by decide) (fun v8 T8 L8 X8 hQ8 => ?_)
    obtain ⟨rfl, Nq8, e8⟩ := hQ8
    have N8 := Fr.app N Nq8
    show Ends p e below s _ _ _ (T8.setTop (mkF m 454 #[d0, .val (.long x1), .second, d3, .val (.long x4), .second, .val (.long x6), .second, .val (.int x8), .val (.int x9), d10, d11, .val (.ref a_q11_24)] [(.int (F8 (8 : Int32) x8 x1 x9 x4 x6 cn_q11_24 cf_q11_24))]))
    by_cases hc454 : (F8 (8 : Int32) x8 x1 x9 x4 x6 cn_q11_24 cf_q11_24) = 0
    · refine Eq.mp (congrArg (fun z => Ends p e below s 2 18 (Q0 Z  h0 n0 z) (T8.setTop (mkF m 454 #[d0, .val (.long x1), .second, d3, .val (.long x4), .second, .val (.long x6), .second, .val (.int x8), .val (.int x9), d10, d11, .val (.ref a_q11_24)] [(.int (F8 (8 : Int32) x8 x1 x9 x4 x6 cn_q11_24 cf_q11_24))]))) (show (F0_438 K cn_q11_24 cf_q11_24 x1 x4 x6 x8 x9) = (F0_594 K) from (if_pos hc454)).symm) ?_
      refine Ends.step (u' := (T8.setTop (mkF m 594 #[d0, .val (.long x1), .second, d3, .val (.long x4), .second, .val (.long x6), .second, .val (.int x8), .val (.int x9), d10, d11, .val (.ref a_q11_24)] []))) ?_ (fun _ k => XS.ifYes X8.here hx rfl (pc0 := 454) (pc' := 594) rfl (hb hby at_454) rfl (XT.i0_eq_t hc454) (by decide) (by decide) k)
      exact b594 T8 _ _ X8 e8 N8 Zs (d0) od0 x1 (d3) od3 x4 x6 (.val (.int x8)) (Or.inr ⟨_, rfl, rfl⟩) (.val (.int x9)) (Or.inr ⟨_, rfl, rfl⟩) (d10) od10 (d11) od11 (.val (.ref a_q11_24)) (Or.inr ⟨_, rfl, rfl⟩)
    · refine Eq.mp (congrArg (fun z => Ends p e below s 2 18 (Q0 Z  h0 n0 z) (T8.setTop (mkF m 454 #[d0, .val (.long x1), .second, d3, .val (.long x4), .second, .val (.long x6), .second, .val (.int x8), .val (.int x9), d10, d11, .val (.ref a_q11_24)] [(.int (F8 (8 : Int32) x8 x1 x9 x4 x6 cn_q11_24 cf_q11_24))]))) (show (F0_438 K cn_q11_24 cf_q11_24 x1 x4 x6 x8 x9) = (F0_457 K cn_q11_24 cf_q11_24 x1 x4 x6 x8 x9) from (if_neg hc454)).symm) ?_
      refine Ends.step (u' := (T8.setTop (mkF m 457 #[d0, .val (.long x1), .second, d3, .val (.long x4), .second, .val (.long x6), .second, .val (.int x8), .val (.int x9), d10, d11, .val (.ref a_q11_24)] []))) ?_ (fun _ k => XS.ifNo X8.here hx rfl (hb hby at_454) rfl (XT.i0_eq_f hc454) k)
      exact b457 T8 _ _ X8 e8 N8 Zs cn_q11_24 cf_q11_24 x1 x4 x6 x8 x9 (d0) od0 (d3) od3 (d10) od10 (d11) od11 a_q11_24 g_q11_24 A_q11_24 (okf hc454)
  have b419 : ∀ (T : State) (L : List Loc) (h : Heap) (X : Stand p l e room_1 s m #[(.int p0), (.long p1), (.int p2), (.long p3), (.long p4)] below meth c T L 2 18) (eT : T.heap = h) (N : Fr n0 L) (Zs : n0 ≤ h.size) (cn_q11_24 : Nat) (cf_q11_24 : Nat → Int32) (x1 : Int64) (x4 : Int64) (x6 : Int64) (x8 : Int32) (x9 : Int32) (d0 : Slot) (od0 : OneS d0) (d3 : Slot) (od3 : OneS d3) (d10 : Slot) (od10 : OneS d10) (d11 : Slot) (od11 : OneS d11) (a_q11_24 : Addr) (g_q11_24 : n0 ≤ a_q11_24) (A_q11_24 : Ar Z h a_q11_24 .byte cn_q11_24 cf_q11_24) (ok : (O0_419 K cn_q11_24 cf_q11_24 x1 x4 x6 x8 x9)), Ends p e below s 2 18 (Q0 Z  h0 n0 (F0_419 K cn_q11_24 cf_q11_24 x1 x4 x6 x8 x9)) (T.setTop (mkF m 419 #[d0, .val (.long x1), .second, d3, .val (.long x4), .second, .val (.long x6), .second, .val (.int x8), .val (.int x9), d10, d11, .val (.ref a_q11_24)] [])) := by
    intro T L h X eT N Zs cn_q11_24 cf_q11_24 x1 x4 x6 x8 x9 d0 od0 d3 od3 d10 od10 d11 od11 a_q11_24 g_q11_24 A_q11_24 ok
    obtain ⟨o1, okt, okf⟩ := ok
    refine Ends.step (u' := (T.setTop (mkF m 421 #[d0, .val (.long x1), .second, d3, .val (.long x4), .second, .val (.long x6), .second, .val (.int x8), .val (.int x9), d10, d11, .val (.ref a_q11_24)] [(.ref a_q11_24)]))) ?_ (fun _ k => XS.aload X.here hx rfl (hb hby at_419) rfl rfl k)
    refine Ends.step (u' := (T.setTop (mkF m 423 #[d0, .val (.long x1), .second, d3, .val (.long x4), .second, .val (.long x6), .second, .val (.int x8), .val (.int x9), d10, d11, .val (.ref a_q11_24)] [(.int (7 : Int32)), (.ref a_q11_24)]))) ?_ (fun _ k => XT.bipushV X.here hx rfl (7 : Int32) (hb hby at_421) rfl k)
    refine Ends.step (u' := (T.setTop (mkF m 425 #[d0, .val (.long x1), .second, d3, .val (.long x4), .second, .val (.long x6), .second, .val (.int x8), .val (.int x9), d10, d11, .val (.ref a_q11_24)] [(.int x8), (.int (7 : Int32)), (.ref a_q11_24)]))) ?_ (fun _ k => XS.iload X.here hx rfl (hb hby at_423) rfl k)
    refine Ends.step (u' := (T.setTop (mkF m 426 #[d0, .val (.long x1), .second, d3, .val (.long x4), .second, .val (.long x6), .second, .val (.int x8), .val (.int x9), d10, d11, .val (.ref a_q11_24)] [(.long x1), (.int x8), (.int (7 : Int32)), (.ref a_q11_24)]))) ?_ (fun _ k => XT.lloadN X.here hx rfl (hb hby at_425) rfl k)
    refine Ends.step (u' := (T.setTop (mkF m 428 #[d0, .val (.long x1), .second, d3, .val (.long x4), .second, .val (.long x6), .second, .val (.int x8), .val (.int x9), d10, d11, .val (.ref a_q11_24)] [(.int x9), (.long x1), (.int x8), (.int (7 : Int32)), (.ref a_q11_24)]))) ?_ (fun _ k => XS.iload X.here hx rfl (hb hby at_426) rfl k)
    refine Ends.step (u' := (T.setTop (mkF m 430 #[d0, .val (.long x1), .second, d3, .val (.long x4), .second, .val (.long x6), .second, .val (.int x8), .val (.int x9), d10, d11, .val (.ref a_q11_24)] [(.long x4), (.int x9), (.long x1), (.int x8), (.int (7 : Int32)), (.ref a_q11_24)]))) ?_ (fun _ k => XT.lload X.here hx rfl (hb hby at_428) rfl k)
    refine Ends.step (u' := (T.setTop (mkF m 432 #[d0, .val (.long x1), .second, d3, .val (.long x4), .second, .val (.long x6), .second, .val (.int x8), .val (.int x9), d10, d11, .val (.ref a_q11_24)] [(.long x6), (.long x4), (.int x9), (.long x1), (.int x8), (.int (7 : Int32)), (.ref a_q11_24)]))) ?_ (fun _ k => XT.lload X.here hx rfl (hb hby at_430) rfl k)
    refine Ends.callS X hx hZ hown (hw _ (List.mem_of_getElem? (i := 38) rfl)) (hw _ (List.mem_of_getElem? (i := 39) rfl)) (hw _ (List.mem_of_getElem? (i := 24) rfl)) (hw _ (List.mem_of_getElem? (i := 40) rfl)) (by decide) (rm8 l Z a0 hw (7 : Int32) x8 x1 x9 x4 x6 cn_q11_24 cf_q11_24 a_q11_24 h n0 Zs A_q11_24 o1) 0 (by decide) (by decide) eT  (g := (mkF m 432 #[d0, .val (.long x1), .second, d3, .val (.long x4), .second, .val (.long x6), .second, .val (.int x8), .val (.int x9), d10, d11, .val (.ref a_q11_24)] [(.long x6), (.long x4), (.int x9), (.long x1), (.int x8), (.int (7 : Int32)), (.ref a_q11_24)])) rfl (by rw [hml]; rfl)  [(.ref a_q11_24), (.int (7 : Int32)), (.int x8), (.long x1), (.int x9), (.long x4), (.long x6)] [] (lenOf pd_6 rfl) rfl (by show 2 * 0 + _ ≤ _; exact Nat.le_of_eq rfl) (hb hby at_432) rfl (by decide) (by decide) (fun v9 T9 L9 X9 hQ9 => ?_)
    obtain ⟨rfl, Nq9, e9⟩ := hQ9
    have N9 := Fr.app N Nq9
    show Ends p e below s _ _ _ (T9.setTop (mkF m 435 #[d0, .val (.long x1), .second, d3, .val (.long x4), .second, .val (.long x6), .second, .val (.int x8), .val (.int x9), d10, d11, .val (.ref a_q11_24)] [(.int (F8 (7 : Int32) x8 x1 x9 x4 x6 cn_q11_24 cf_q11_24))]))
    by_cases hc435 : (F8 (7 : Int32) x8 x1 x9 x4 x6 cn_q11_24 cf_q11_24) = 0
    · refine Eq.mp (congrArg (fun z => Ends p e below s 2 18 (Q0 Z  h0 n0 z) (T9.setTop (mkF m 435 #[d0, .val (.long x1), .second, d3, .val (.long x4), .second, .val (.long x6), .second, .val (.int x8), .val (.int x9), d10, d11, .val (.ref a_q11_24)] [(.int (F8 (7 : Int32) x8 x1 x9 x4 x6 cn_q11_24 cf_q11_24))]))) (show (F0_419 K cn_q11_24 cf_q11_24 x1 x4 x6 x8 x9) = (F0_594 K) from (if_pos hc435)).symm) ?_
      refine Ends.step (u' := (T9.setTop (mkF m 594 #[d0, .val (.long x1), .second, d3, .val (.long x4), .second, .val (.long x6), .second, .val (.int x8), .val (.int x9), d10, d11, .val (.ref a_q11_24)] []))) ?_ (fun _ k => XS.ifYes X9.here hx rfl (pc0 := 435) (pc' := 594) rfl (hb hby at_435) rfl (XT.i0_eq_t hc435) (by decide) (by decide) k)
      exact b594 T9 _ _ X9 e9 N9 Zs (d0) od0 x1 (d3) od3 x4 x6 (.val (.int x8)) (Or.inr ⟨_, rfl, rfl⟩) (.val (.int x9)) (Or.inr ⟨_, rfl, rfl⟩) (d10) od10 (d11) od11 (.val (.ref a_q11_24)) (Or.inr ⟨_, rfl, rfl⟩)
    · refine Eq.mp (congrArg (fun z => Ends p e below s 2 18 (Q0 Z  h0 n0 z) (T9.setTop (mkF m 435 #[d0, .val (.long x1), .second, d3, .val (.long x4), .second, .val (.long x6), .second, .val (.int x8), .val (.int x9), d10, d11, .val (.ref a_q11_24)] [(.int (F8 (7 : Int32) x8 x1 x9 x4 x6 cn_q11_24 cf_q11_24))]))) (show (F0_419 K cn_q11_24 cf_q11_24 x1 x4 x6 x8 x9) = (F0_438 K cn_q11_24 cf_q11_24 x1 x4 x6 x8 x9) from (if_neg hc435)).symm) ?_
      refine Ends.step (u' := (T9.setTop (mkF m 438 #[d0, .val (.long x1), .second, d3, .val (.long x4), .second, .val (.long x6), .second, .val (.int x8), .val (.int x9), d10, d11, .val (.ref a_q11_24)] []))) ?_ (fun _ k => XS.ifNo X9.here hx rfl (hb hby at_435) rfl (XT.i0_eq_f hc435) k)
      exact b438 T9 _ _ X9 e9 N9 Zs cn_q11_24 cf_q11_24 x1 x4 x6 x8 x9 (d0) od0 (d3) od3 (d10) od10 (d11) od11 a_q11_24 g_q11_24 A_q11_24 (okf hc435)
  have b400 : ∀ (T : State) (L : List Loc) (h : Heap) (X : Stand p l e room_1 s m #[(.int p0), (.long p1), (.int p2), (.long p3), (.long p4)] below meth c T L 2 18) (eT : T.heap = h) (N : Fr n0 L) (Zs : n0 ≤ h.size) (cn_q11_24 : Nat) (cf_q11_24 : Nat → Int32) (x1 : Int64) (x4 : Int64) (x6 : Int64) (x8 : Int32) (x9 : Int32) (d0 : Slot) (od0 : OneS d0) (d3 : Slot) (od3 : OneS d3) (d10 : Slot) (od10 : OneS d10) (d11 : Slot) (od11 : OneS d11) (a_q11_24 : Addr) (g_q11_24 : n0 ≤ a_q11_24) (A_q11_24 : Ar Z h a_q11_24 .byte cn_q11_24 cf_q11_24) (ok : (O0_400 K cn_q11_24 cf_q11_24 x1 x4 x6 x8 x9)), Ends p e below s 2 18 (Q0 Z  h0 n0 (F0_400 K cn_q11_24 cf_q11_24 x1 x4 x6 x8 x9)) (T.setTop (mkF m 400 #[d0, .val (.long x1), .second, d3, .val (.long x4), .second, .val (.long x6), .second, .val (.int x8), .val (.int x9), d10, d11, .val (.ref a_q11_24)] [])) := by
    intro T L h X eT N Zs cn_q11_24 cf_q11_24 x1 x4 x6 x8 x9 d0 od0 d3 od3 d10 od10 d11 od11 a_q11_24 g_q11_24 A_q11_24 ok
    obtain ⟨o1, okt, okf⟩ := ok
    refine Ends.step (u' := (T.setTop (mkF m 402 #[d0, .val (.long x1), .second, d3, .val (.long x4), .second, .val (.long x6), .second, .val (.int x8), .val (.int x9), d10, d11, .val (.ref a_q11_24)] [(.ref a_q11_24)]))) ?_ (fun _ k => XS.aload X.here hx rfl (hb hby at_400) rfl rfl k)
    refine Ends.step (u' := (T.setTop (mkF m 404 #[d0, .val (.long x1), .second, d3, .val (.long x4), .second, .val (.long x6), .second, .val (.int x8), .val (.int x9), d10, d11, .val (.ref a_q11_24)] [(.int (6 : Int32)), (.ref a_q11_24)]))) ?_ (fun _ k => XT.bipushV X.here hx rfl (6 : Int32) (hb hby at_402) rfl k)
    refine Ends.step (u' := (T.setTop (mkF m 406 #[d0, .val (.long x1), .second, d3, .val (.long x4), .second, .val (.long x6), .second, .val (.int x8), .val (.int x9), d10, d11, .val (.ref a_q11_24)] [(.int x8), (.int (6 : Int32)), (.ref a_q11_24)]))) ?_ (fun _ k => XS.iload X.here hx rfl (hb hby at_404) rfl k)
    refine Ends.step (u' := (T.setTop (mkF m 407 #[d0, .val (.long x1), .second, d3, .val (.long x4), .second, .val (.long x6), .second, .val (.int x8), .val (.int x9), d10, d11, .val (.ref a_q11_24)] [(.long x1), (.int x8), (.int (6 : Int32)), (.ref a_q11_24)]))) ?_ (fun _ k => XT.lloadN X.here hx rfl (hb hby at_406) rfl k)
    refine Ends.step (u' := (T.setTop (mkF m 409 #[d0, .val (.long x1), .second, d3, .val (.long x4), .second, .val (.long x6), .second, .val (.int x8), .val (.int x9), d10, d11, .val (.ref a_q11_24)] [(.int x9), (.long x1), (.int x8), (.int (6 : Int32)), (.ref a_q11_24)]))) ?_ (fun _ k => XS.iload X.here hx rfl (hb hby at_407) rfl k)
    refine Ends.step (u' := (T.setTop (mkF m 411 #[d0, .val (.long x1), .second, d3, .val (.long x4), .second, .val (.long x6), .second, .val (.int x8), .val (.int x9), d10, d11, .val (.ref a_q11_24)] [(.long x4), (.int x9), (.long x1), (.int x8), (.int (6 : Int32)), (.ref a_q11_24)]))) ?_ (fun _ k => XT.lload X.here hx rfl (hb hby at_409) rfl k)
    refine Ends.step (u' := (T.setTop (mkF m 413 #[d0, .val (.long x1), .second, d3, .val (.long x4), .second, .val (.long x6), .second, .val (.int x8), .val (.int x9), d10, d11, .val (.ref a_q11_24)] [(.long x6), (.long x4), (.int x9), (.long x1), (.int x8), (.int (6 : Int32)), (.ref a_q11_24)]))) ?_ (fun _ k => XT.lload X.here hx rfl (hb hby at_411) rfl k)
    refine Ends.callS X hx hZ hown (hw _ (List.mem_of_getElem? (i := 38) rfl)) (hw _ (List.mem_of_getElem? (i := 39) rfl)) (hw _ (List.mem_of_getElem? (i := 24) rfl)) (hw _ (List.mem_of_getElem? (i := 40) rfl)) (by decide) (rm8 l Z a0 hw (6 : Int32) x8 x1 x9 x4 x6 cn_q11_24 cf_q11_24 a_q11_24 h n0 Zs A_q11_24 o1) 0 (by decide) (by decide) eT  (g := (mkF m 413 #[d0, .val (.long x1), .second, d3, .val (.long x4), .second, .val (.long x6), .second, .val (.int x8), .val (.int x9), d10, d11, .val (.ref a_q11_24)] [(.long x6), (.long x4), (.int x9), (.long x1), (.int x8), (.int (6 : Int32)), (.ref a_q11_24)])) rfl (by rw [hml]; rfl)  [(.ref a_q11_24), (.int (6 : Int32)), (.int x8), (.long x1), (.int x9), (.long x4), (.long x6)] [] (lenOf pd_6 rfl) rfl (by show 2 * 0 + _ ≤ _; exact Nat.le_of_eq rfl) (hb hby at_413) rfl (by decide) (by decide) (fun v10 T10 L10 X10 hQ10 => ?_)
    obtain ⟨rfl, Nq10, e10⟩ := hQ10
    have N10 := Fr.app N Nq10
    show Ends p e below s _ _ _ (T10.setTop (mkF m 416 #[d0, .val (.long x1), .second, d3, .val (.long x4), .second, .val (.long x6), .second, .val (.int x8), .val (.int x9), d10, d11, .val (.ref a_q11_24)] [(.int (F8 (6 : Int32) x8 x1 x9 x4 x6 cn_q11_24 cf_q11_24))]))
    by_cases hc416 : (F8 (6 : Int32) x8 x1 x9 x4 x6 cn_q11_24 cf_q11_24) = 0
    · refine Eq.mp (congrArg (fun z => Ends p e below s 2 18 (Q0 Z  h0 n0 z) (T10.setTop (mkF m 416 #[d0, .val (.long x1), .second, d3, .val (.long x4), .second, .val (.long x6), .second, .val (.int x8), .val (.int x9), d10, d11, .val (.ref a_q11_24)] [(.int (F8 (6 : Int32) x8 x1 x9 x4 x6 cn_q11_24 cf_q11_24))]))) (show (F0_400 K cn_q11_24 cf_q11_24 x1 x4 x6 x8 x9) = (F0_594 K) from (if_pos hc416)).symm) ?_
      refine Ends.step (u' := (T10.setTop (mkF m 594 #[d0, .val (.long x1), .second, d3, .val (.long x4), .second, .val (.long x6), .second, .val (.int x8), .val (.int x9), d10, d11, .val (.ref a_q11_24)] []))) ?_ (fun _ k => XS.ifYes X10.here hx rfl (pc0 := 416) (pc' := 594) rfl (hb hby at_416) rfl (XT.i0_eq_t hc416) (by decide) (by decide) k)
      exact b594 T10 _ _ X10 e10 N10 Zs (d0) od0 x1 (d3) od3 x4 x6 (.val (.int x8)) (Or.inr ⟨_, rfl, rfl⟩) (.val (.int x9)) (Or.inr ⟨_, rfl, rfl⟩) (d10) od10 (d11) od11 (.val (.ref a_q11_24)) (Or.inr ⟨_, rfl, rfl⟩)
    · refine Eq.mp (congrArg (fun z => Ends p e below s 2 18 (Q0 Z  h0 n0 z) (T10.setTop (mkF m 416 #[d0, .val (.long x1), .second, d3, .val (.long x4), .second, .val (.long x6), .second, .val (.int x8), .val (.int x9), d10, d11, .val (.ref a_q11_24)] [(.int (F8 (6 : Int32) x8 x1 x9 x4 x6 cn_q11_24 cf_q11_24))]))) (show (F0_400 K cn_q11_24 cf_q11_24 x1 x4 x6 x8 x9) = (F0_419 K cn_q11_24 cf_q11_24 x1 x4 x6 x8 x9) from (if_neg hc416)).symm) ?_
      refine Ends.step (u' := (T10.setTop (mkF m 419 #[d0, .val (.long x1), .second, d3, .val (.long x4), .second, .val (.long x6), .second, .val (.int x8), .val (.int x9), d10, d11, .val (.ref a_q11_24)] []))) ?_ (fun _ k => XS.ifNo X10.here hx rfl (hb hby at_416) rfl (XT.i0_eq_f hc416) k)
      exact b419 T10 _ _ X10 e10 N10 Zs cn_q11_24 cf_q11_24 x1 x4 x6 x8 x9 (d0) od0 (d3) od3 (d10) od10 (d11) od11 a_q11_24 g_q11_24 A_q11_24 (okf hc416)
  have b382 : ∀ (T : State) (L : List Loc) (h : Heap) (X : Stand p l e room_1 s m #[(.int p0), (.long p1), (.int p2), (.long p3), (.long p4)] below meth c T L 2 18) (eT : T.heap = h) (N : Fr n0 L) (Zs : n0 ≤ h.size) (cn_q11_24 : Nat) (cf_q11_24 : Nat → Int32) (x1 : Int64) (x4 : Int64) (x6 : Int64) (x8 : Int32) (x9 : Int32) (d0 : Slot) (od0 : OneS d0) (d3 : Slot) (od3 : OneS d3) (d10 : Slot) (od10 : OneS d10) (d11 : Slot) (od11 : OneS d11) (a_q11_24 : Addr) (g_q11_24 : n0 ≤ a_q11_24) (A_q11_24 : Ar Z h a_q11_24 .byte cn_q11_24 cf_q11_24) (ok : (O0_382 K cn_q11_24 cf_q11_24 x1 x4 x6 x8 x9)), Ends p e below s 2 18 (Q0 Z  h0 n0 (F0_382 K cn_q11_24 cf_q11_24 x1 x4 x6 x8 x9)) (T.setTop (mkF m 382 #[d0, .val (.long x1), .second, d3, .val (.long x4), .second, .val (.long x6), .second, .val (.int x8), .val (.int x9), d10, d11, .val (.ref a_q11_24)] [])) := by
    intro T L h X eT N Zs cn_q11_24 cf_q11_24 x1 x4 x6 x8 x9 d0 od0 d3 od3 d10 od10 d11 od11 a_q11_24 g_q11_24 A_q11_24 ok
    obtain ⟨o1, okt, okf⟩ := ok
    refine Ends.step (u' := (T.setTop (mkF m 384 #[d0, .val (.long x1), .second, d3, .val (.long x4), .second, .val (.long x6), .second, .val (.int x8), .val (.int x9), d10, d11, .val (.ref a_q11_24)] [(.ref a_q11_24)]))) ?_ (fun _ k => XS.aload X.here hx rfl (hb hby at_382) rfl rfl k)
    refine Ends.step (u' := (T.setTop (mkF m 385 #[d0, .val (.long x1), .second, d3, .val (.long x4), .second, .val (.long x6), .second, .val (.int x8), .val (.int x9), d10, d11, .val (.ref a_q11_24)] [(.int (5 : Int32)), (.ref a_q11_24)]))) ?_ (fun _ k => XT.iconstV X.here hx rfl (5 : Int32) (hb hby at_384) rfl k)
    refine Ends.step (u' := (T.setTop (mkF m 387 #[d0, .val (.long x1), .second, d3, .val (.long x4), .second, .val (.long x6), .second, .val (.int x8), .val (.int x9), d10, d11, .val (.ref a_q11_24)] [(.int x8), (.int (5 : Int32)), (.ref a_q11_24)]))) ?_ (fun _ k => XS.iload X.here hx rfl (hb hby at_385) rfl k)
    refine Ends.step (u' := (T.setTop (mkF m 388 #[d0, .val (.long x1), .second, d3, .val (.long x4), .second, .val (.long x6), .second, .val (.int x8), .val (.int x9), d10, d11, .val (.ref a_q11_24)] [(.long x1), (.int x8), (.int (5 : Int32)), (.ref a_q11_24)]))) ?_ (fun _ k => XT.lloadN X.here hx rfl (hb hby at_387) rfl k)
    refine Ends.step (u' := (T.setTop (mkF m 390 #[d0, .val (.long x1), .second, d3, .val (.long x4), .second, .val (.long x6), .second, .val (.int x8), .val (.int x9), d10, d11, .val (.ref a_q11_24)] [(.int x9), (.long x1), (.int x8), (.int (5 : Int32)), (.ref a_q11_24)]))) ?_ (fun _ k => XS.iload X.here hx rfl (hb hby at_388) rfl k)
    refine Ends.step (u' := (T.setTop (mkF m 392 #[d0, .val (.long x1), .second, d3, .val (.long x4), .second, .val (.long x6), .second, .val (.int x8), .val (.int x9), d10, d11, .val (.ref a_q11_24)] [(.long x4), (.int x9), (.long x1), (.int x8), (.int (5 : Int32)), (.ref a_q11_24)]))) ?_ (fun _ k => XT.lload X.here hx rfl (hb hby at_390) rfl k)
    refine Ends.step (u' := (T.setTop (mkF m 394 #[d0, .val (.long x1), .second, d3, .val (.long x4), .second, .val (.long x6), .second, .val (.int x8), .val (.int x9), d10, d11, .val (.ref a_q11_24)] [(.long x6), (.long x4), (.int x9), (.long x1), (.int x8), (.int (5 : Int32)), (.ref a_q11_24)]))) ?_ (fun _ k => XT.lload X.here hx rfl (hb hby at_392) rfl k)
    refine Ends.callS X hx hZ hown (hw _ (List.mem_of_getElem? (i := 38) rfl)) (hw _ (List.mem_of_getElem? (i := 39) rfl)) (hw _ (List.mem_of_getElem? (i := 24) rfl)) (hw _ (List.mem_of_getElem? (i := 40) rfl)) (by decide) (rm8 l Z a0 hw (5 : Int32) x8 x1 x9 x4 x6 cn_q11_24 cf_q11_24 a_q11_24 h n0 Zs A_q11_24 o1) 0 (by decide) (by decide) eT  (g := (mkF m 394 #[d0, .val (.long x1), .second, d3, .val (.long x4), .second, .val (.long x6), .second, .val (.int x8), .val (.int x9), d10, d11, .val (.ref a_q11_24)] [(.long x6), (.long x4), (.int x9), (.long x1), (.int x8), (.int (5 : Int32)), (.ref a_q11_24)])) rfl (by rw [hml]; rfl)  [(.ref a_q11_24), (.int (5 : Int32)), (.int x8), (.long x1), (.int x9), (.long x4), (.long x6)] [] (lenOf pd_6 rfl) rfl (by show 2 * 0 + _ ≤ _; exact Nat.le_of_eq rfl) (hb hby at_394) rfl (by decide) (by decide) (fun v11 T11 L11 X11 hQ11 => ?_)
    obtain ⟨rfl, Nq11, e11⟩ := hQ11
    have N11 := Fr.app N Nq11
    show Ends p e below s _ _ _ (T11.setTop (mkF m 397 #[d0, .val (.long x1), .second, d3, .val (.long x4), .second, .val (.long x6), .second, .val (.int x8), .val (.int x9), d10, d11, .val (.ref a_q11_24)] [(.int (F8 (5 : Int32) x8 x1 x9 x4 x6 cn_q11_24 cf_q11_24))]))
    by_cases hc397 : (F8 (5 : Int32) x8 x1 x9 x4 x6 cn_q11_24 cf_q11_24) = 0
    · refine Eq.mp (congrArg (fun z => Ends p e below s 2 18 (Q0 Z  h0 n0 z) (T11.setTop (mkF m 397 #[d0, .val (.long x1), .second, d3, .val (.long x4), .second, .val (.long x6), .second, .val (.int x8), .val (.int x9), d10, d11, .val (.ref a_q11_24)] [(.int (F8 (5 : Int32) x8 x1 x9 x4 x6 cn_q11_24 cf_q11_24))]))) (show (F0_382 K cn_q11_24 cf_q11_24 x1 x4 x6 x8 x9) = (F0_594 K) from (if_pos hc397)).symm) ?_
      refine Ends.step (u' := (T11.setTop (mkF m 594 #[d0, .val (.long x1), .second, d3, .val (.long x4), .second, .val (.long x6), .second, .val (.int x8), .val (.int x9), d10, d11, .val (.ref a_q11_24)] []))) ?_ (fun _ k => XS.ifYes X11.here hx rfl (pc0 := 397) (pc' := 594) rfl (hb hby at_397) rfl (XT.i0_eq_t hc397) (by decide) (by decide) k)
      exact b594 T11 _ _ X11 e11 N11 Zs (d0) od0 x1 (d3) od3 x4 x6 (.val (.int x8)) (Or.inr ⟨_, rfl, rfl⟩) (.val (.int x9)) (Or.inr ⟨_, rfl, rfl⟩) (d10) od10 (d11) od11 (.val (.ref a_q11_24)) (Or.inr ⟨_, rfl, rfl⟩)
    · refine Eq.mp (congrArg (fun z => Ends p e below s 2 18 (Q0 Z  h0 n0 z) (T11.setTop (mkF m 397 #[d0, .val (.long x1), .second, d3, .val (.long x4), .second, .val (.long x6), .second, .val (.int x8), .val (.int x9), d10, d11, .val (.ref a_q11_24)] [(.int (F8 (5 : Int32) x8 x1 x9 x4 x6 cn_q11_24 cf_q11_24))]))) (show (F0_382 K cn_q11_24 cf_q11_24 x1 x4 x6 x8 x9) = (F0_400 K cn_q11_24 cf_q11_24 x1 x4 x6 x8 x9) from (if_neg hc397)).symm) ?_
      refine Ends.step (u' := (T11.setTop (mkF m 400 #[d0, .val (.long x1), .second, d3, .val (.long x4), .second, .val (.long x6), .second, .val (.int x8), .val (.int x9), d10, d11, .val (.ref a_q11_24)] []))) ?_ (fun _ k => XS.ifNo X11.here hx rfl (hb hby at_397) rfl (XT.i0_eq_f hc397) k)
      exact b400 T11 _ _ X11 e11 N11 Zs cn_q11_24 cf_q11_24 x1 x4 x6 x8 x9 (d0) od0 (d3) od3 (d10) od10 (d11) od11 a_q11_24 g_q11_24 A_q11_24 (okf hc397)
  have b364 : ∀ (T : State) (L : List Loc) (h : Heap) (X : Stand p l e room_1 s m #[(.int p0), (.long p1), (.int p2), (.long p3), (.long p4)] below meth c T L 2 18) (eT : T.heap = h) (N : Fr n0 L) (Zs : n0 ≤ h.size) (cn_q11_24 : Nat) (cf_q11_24 : Nat → Int32) (x1 : Int64) (x4 : Int64) (x6 : Int64) (x8 : Int32) (x9 : Int32) (d0 : Slot) (od0 : OneS d0) (d3 : Slot) (od3 : OneS d3) (d10 : Slot) (od10 : OneS d10) (d11 : Slot) (od11 : OneS d11) (a_q11_24 : Addr) (g_q11_24 : n0 ≤ a_q11_24) (A_q11_24 : Ar Z h a_q11_24 .byte cn_q11_24 cf_q11_24) (ok : (O0_364 K cn_q11_24 cf_q11_24 x1 x4 x6 x8 x9)), Ends p e below s 2 18 (Q0 Z  h0 n0 (F0_364 K cn_q11_24 cf_q11_24 x1 x4 x6 x8 x9)) (T.setTop (mkF m 364 #[d0, .val (.long x1), .second, d3, .val (.long x4), .second, .val (.long x6), .second, .val (.int x8), .val (.int x9), d10, d11, .val (.ref a_q11_24)] [])) := by
    intro T L h X eT N Zs cn_q11_24 cf_q11_24 x1 x4 x6 x8 x9 d0 od0 d3 od3 d10 od10 d11 od11 a_q11_24 g_q11_24 A_q11_24 ok
    obtain ⟨o1, okt, okf⟩ := ok
    refine Ends.step (u' := (T.setTop (mkF m 366 #[d0, .val (.long x1), .second, d3, .val (.long x4), .second, .val (.long x6), .second, .val (.int x8), .val (.int x9), d10, d11, .val (.ref a_q11_24)] [(.ref a_q11_24)]))) ?_ (fun _ k => XS.aload X.here hx rfl (hb hby at_364) rfl rfl k)
    refine Ends.step (u' := (T.setTop (mkF m 367 #[d0, .val (.long x1), .second, d3, .val (.long x4), .second, .val (.long x6), .second, .val (.int x8), .val (.int x9), d10, d11, .val (.ref a_q11_24)] [(.int (4 : Int32)), (.ref a_q11_24)]))) ?_ (fun _ k => XT.iconstV X.here hx rfl (4 : Int32) (hb hby at_366) rfl k)
    refine Ends.step (u' := (T.setTop (mkF m 369 #[d0, .val (.long x1), .second, d3, .val (.long x4), .second, .val (.long x6), .second, .val (.int x8), .val (.int x9), d10, d11, .val (.ref a_q11_24)] [(.int x8), (.int (4 : Int32)), (.ref a_q11_24)]))) ?_ (fun _ k => XS.iload X.here hx rfl (hb hby at_367) rfl k)
    refine Ends.step (u' := (T.setTop (mkF m 370 #[d0, .val (.long x1), .second, d3, .val (.long x4), .second, .val (.long x6), .second, .val (.int x8), .val (.int x9), d10, d11, .val (.ref a_q11_24)] [(.long x1), (.int x8), (.int (4 : Int32)), (.ref a_q11_24)]))) ?_ (fun _ k => XT.lloadN X.here hx rfl (hb hby at_369) rfl k)
    refine Ends.step (u' := (T.setTop (mkF m 372 #[d0, .val (.long x1), .second, d3, .val (.long x4), .second, .val (.long x6), .second, .val (.int x8), .val (.int x9), d10, d11, .val (.ref a_q11_24)] [(.int x9), (.long x1), (.int x8), (.int (4 : Int32)), (.ref a_q11_24)]))) ?_ (fun _ k => XS.iload X.here hx rfl (hb hby at_370) rfl k)
    refine Ends.step (u' := (T.setTop (mkF m 374 #[d0, .val (.long x1), .second, d3, .val (.long x4), .second, .val (.long x6), .second, .val (.int x8), .val (.int x9), d10, d11, .val (.ref a_q11_24)] [(.long x4), (.int x9), (.long x1), (.int x8), (.int (4 : Int32)), (.ref a_q11_24)]))) ?_ (fun _ k => XT.lload X.here hx rfl (hb hby at_372) rfl k)
    refine Ends.step (u' := (T.setTop (mkF m 376 #[d0, .val (.long x1), .second, d3, .val (.long x4), .second, .val (.long x6), .second, .val (.int x8), .val (.int x9), d10, d11, .val (.ref a_q11_24)] [(.long x6), (.long x4), (.int x9), (.long x1), (.int x8), (.int (4 : Int32)), (.ref a_q11_24)]))) ?_ (fun _ k => XT.lload X.here hx rfl (hb hby at_374) rfl k)
    refine Ends.callS X hx hZ hown (hw _ (List.mem_of_getElem? (i := 38) rfl)) (hw _ (List.mem_of_getElem? (i := 39) rfl)) (hw _ (List.mem_of_getElem? (i := 24) rfl)) (hw _ (List.mem_of_getElem? (i := 40) rfl)) (by decide) (rm8 l Z a0 hw (4 : Int32) x8 x1 x9 x4 x6 cn_q11_24 cf_q11_24 a_q11_24 h n0 Zs A_q11_24 o1) 0 (by decide) (by decide) eT  (g := (mkF m 376 #[d0, .val (.long x1), .second, d3, .val (.long x4), .second, .val (.long x6), .second, .val (.int x8), .val (.int x9), d10, d11, .val (.ref a_q11_24)] [(.long x6), (.long x4), (.int x9), (.long x1), (.int x8), (.int (4 : Int32)), (.ref a_q11_24)])) rfl (by rw [hml]; rfl)  [(.ref a_q11_24), (.int (4 : Int32)), (.int x8), (.long x1), (.int x9), (.long x4), (.long x6)] [] (lenOf pd_6 rfl) rfl (by show 2 * 0 + _ ≤ _; exact Nat.le_of_eq rfl) (hb hby at_376) rfl (by decide) (by decide) (fun v12 T12 L12 X12 hQ12 => ?_)
    obtain ⟨rfl, Nq12, e12⟩ := hQ12
    have N12 := Fr.app N Nq12
    show Ends p e below s _ _ _ (T12.setTop (mkF m 379 #[d0, .val (.long x1), .second, d3, .val (.long x4), .second, .val (.long x6), .second, .val (.int x8), .val (.int x9), d10, d11, .val (.ref a_q11_24)] [(.int (F8 (4 : Int32) x8 x1 x9 x4 x6 cn_q11_24 cf_q11_24))]))
    by_cases hc379 : (F8 (4 : Int32) x8 x1 x9 x4 x6 cn_q11_24 cf_q11_24) = 0
    · refine Eq.mp (congrArg (fun z => Ends p e below s 2 18 (Q0 Z  h0 n0 z) (T12.setTop (mkF m 379 #[d0, .val (.long x1), .second, d3, .val (.long x4), .second, .val (.long x6), .second, .val (.int x8), .val (.int x9), d10, d11, .val (.ref a_q11_24)] [(.int (F8 (4 : Int32) x8 x1 x9 x4 x6 cn_q11_24 cf_q11_24))]))) (show (F0_364 K cn_q11_24 cf_q11_24 x1 x4 x6 x8 x9) = (F0_594 K) from (if_pos hc379)).symm) ?_
      refine Ends.step (u' := (T12.setTop (mkF m 594 #[d0, .val (.long x1), .second, d3, .val (.long x4), .second, .val (.long x6), .second, .val (.int x8), .val (.int x9), d10, d11, .val (.ref a_q11_24)] []))) ?_ (fun _ k => XS.ifYes X12.here hx rfl (pc0 := 379) (pc' := 594) rfl (hb hby at_379) rfl (XT.i0_eq_t hc379) (by decide) (by decide) k)
      exact b594 T12 _ _ X12 e12 N12 Zs (d0) od0 x1 (d3) od3 x4 x6 (.val (.int x8)) (Or.inr ⟨_, rfl, rfl⟩) (.val (.int x9)) (Or.inr ⟨_, rfl, rfl⟩) (d10) od10 (d11) od11 (.val (.ref a_q11_24)) (Or.inr ⟨_, rfl, rfl⟩)
    · refine Eq.mp (congrArg (fun z => Ends p e below s 2 18 (Q0 Z  h0 n0 z) (T12.setTop (mkF m 379 #[d0, .val (.long x1), .second, d3, .val (.long x4), .second, .val (.long x6), .second, .val (.int x8), .val (.int x9), d10, d11, .val (.ref a_q11_24)] [(.int (F8 (4 : Int32) x8 x1 x9 x4 x6 cn_q11_24 cf_q11_24))]))) (show (F0_364 K cn_q11_24 cf_q11_24 x1 x4 x6 x8 x9) = (F0_382 K cn_q11_24 cf_q11_24 x1 x4 x6 x8 x9) from (if_neg hc379)).symm) ?_
      refine Ends.step (u' := (T12.setTop (mkF m 382 #[d0, .val (.long x1), .second, d3, .val (.long x4), .second, .val (.long x6), .second, .val (.int x8), .val (.int x9), d10, d11, .val (.ref a_q11_24)] []))) ?_ (fun _ k => XS.ifNo X12.here hx rfl (hb hby at_379) rfl (XT.i0_eq_f hc379) k)
      exact b382 T12 _ _ X12 e12 N12 Zs cn_q11_24 cf_q11_24 x1 x4 x6 x8 x9 (d0) od0 (d3) od3 (d10) od10 (d11) od11 a_q11_24 g_q11_24 A_q11_24 (okf hc379)
  have b346 : ∀ (T : State) (L : List Loc) (h : Heap) (X : Stand p l e room_1 s m #[(.int p0), (.long p1), (.int p2), (.long p3), (.long p4)] below meth c T L 2 18) (eT : T.heap = h) (N : Fr n0 L) (Zs : n0 ≤ h.size) (cn_q11_24 : Nat) (cf_q11_24 : Nat → Int32) (x1 : Int64) (x4 : Int64) (x6 : Int64) (x8 : Int32) (x9 : Int32) (d0 : Slot) (od0 : OneS d0) (d3 : Slot) (od3 : OneS d3) (d10 : Slot) (od10 : OneS d10) (d11 : Slot) (od11 : OneS d11) (a_q11_24 : Addr) (g_q11_24 : n0 ≤ a_q11_24) (A_q11_24 : Ar Z h a_q11_24 .byte cn_q11_24 cf_q11_24) (ok : (O0_346 K cn_q11_24 cf_q11_24 x1 x4 x6 x8 x9)), Ends p e below s 2 18 (Q0 Z  h0 n0 (F0_346 K cn_q11_24 cf_q11_24 x1 x4 x6 x8 x9)) (T.setTop (mkF m 346 #[d0, .val (.long x1), .second, d3, .val (.long x4), .second, .val (.long x6), .second, .val (.int x8), .val (.int x9), d10, d11, .val (.ref a_q11_24)] [])) := by
    intro T L h X eT N Zs cn_q11_24 cf_q11_24 x1 x4 x6 x8 x9 d0 od0 d3 od3 d10 od10 d11 od11 a_q11_24 g_q11_24 A_q11_24 ok
    obtain ⟨o1, okt, okf⟩ := ok
    refine Ends.step (u' := (T.setTop (mkF m 348 #[d0, .val (.long x1), .second, d3, .val (.long x4), .second, .val (.long x6), .second, .val (.int x8), .val (.int x9), d10, d11, .val (.ref a_q11_24)] [(.ref a_q11_24)]))) ?_ (fun _ k => XS.aload X.here hx rfl (hb hby at_346) rfl rfl k)
    refine Ends.step (u' := (T.setTop (mkF m 349 #[d0, .val (.long x1), .second, d3, .val (.long x4), .second, .val (.long x6), .second, .val (.int x8), .val (.int x9), d10, d11, .val (.ref a_q11_24)] [(.int (3 : Int32)), (.ref a_q11_24)]))) ?_ (fun _ k => XT.iconstV X.here hx rfl (3 : Int32) (hb hby at_348) rfl k)
    refine Ends.step (u' := (T.setTop (mkF m 351 #[d0, .val (.long x1), .second, d3, .val (.long x4), .second, .val (.long x6), .second, .val (.int x8), .val (.int x9), d10, d11, .val (.ref a_q11_24)] [(.int x8), (.int (3 : Int32)), (.ref a_q11_24)]))) ?_ (fun _ k => XS.iload X.here hx rfl (hb hby at_349) rfl k)
    refine Ends.step (u' := (T.setTop (mkF m 352 #[d0, .val (.long x1), .second, d3, .val (.long x4), .second, .val (.long x6), .second, .val (.int x8), .val (.int x9), d10, d11, .val (.ref a_q11_24)] [(.long x1), (.int x8), (.int (3 : Int32)), (.ref a_q11_24)]))) ?_ (fun _ k => XT.lloadN X.here hx rfl (hb hby at_351) rfl k)
    refine Ends.step (u' := (T.setTop (mkF m 354 #[d0, .val (.long x1), .second, d3, .val (.long x4), .second, .val (.long x6), .second, .val (.int x8), .val (.int x9), d10, d11, .val (.ref a_q11_24)] [(.int x9), (.long x1), (.int x8), (.int (3 : Int32)), (.ref a_q11_24)]))) ?_ (fun _ k => XS.iload X.here hx rfl (hb hby at_352) rfl k)
    refine Ends.step (u' := (T.setTop (mkF m 356 #[d0, .val (.long x1), .second, d3, .val (.long x4), .second, .val (.long x6), .second, .val (.int x8), .val (.int x9), d10, d11, .val (.ref a_q11_24)] [(.long x4), (.int x9), (.long x1), (.int x8), (.int (3 : Int32)), (.ref a_q11_24)]))) ?_ (fun _ k => XT.lload X.here hx rfl (hb hby at_354) rfl k)
    refine Ends.step (u' := (T.setTop (mkF m 358 #[d0, .val (.long x1), .second, d3, .val (.long x4), .second, .val (.long x6), .second, .val (.int x8), .val (.int x9), d10, d11, .val (.ref a_q11_24)] [(.long x6), (.long x4), (.int x9), (.long x1), (.int x8), (.int (3 : Int32)), (.ref a_q11_24)]))) ?_ (fun _ k => XT.lload X.here hx rfl (hb hby at_356) rfl k)
    refine Ends.callS X hx hZ hown (hw _ (List.mem_of_getElem? (i := 38) rfl)) (hw _ (List.mem_of_getElem? (i := 39) rfl)) (hw _ (List.mem_of_getElem? (i := 24) rfl)) (hw _ (List.mem_of_getElem? (i := 40) rfl)) (by decide) (rm8 l Z a0 hw (3 : Int32) x8 x1 x9 x4 x6 cn_q11_24 cf_q11_24 a_q11_24 h n0 Zs A_q11_24 o1) 0 (by decide) (by decide) eT  (g := (mkF m 358 #[d0, .val (.long x1), .second, d3, .val (.long x4), .second, .val (.long x6), .second, .val (.int x8), .val (.int x9), d10, d11, .val (.ref a_q11_24)] [(.long x6), (.long x4), (.int x9), (.long x1), (.int x8), (.int (3 : Int32)), (.ref a_q11_24)])) rfl (by rw [hml]; rfl)  [(.ref a_q11_24), (.int (3 : Int32)), (.int x8), (.long x1), (.int x9), (.long x4), (.long x6)] [] (lenOf pd_6 rfl) rfl (by show 2 * 0 + _ ≤ _; exact Nat.le_of_eq rfl) (hb hby at_358) rfl (by decide) (by decide) (fun v13 T13 L13 X13 hQ13 => ?_)
    obtain ⟨rfl, Nq13, e13⟩ := hQ13
    have N13 := Fr.app N Nq13
    show Ends p e below s _ _ _ (T13.setTop (mkF m 361 #[d0, .val (.long x1), .second, d3, .val (.long x4), .second, .val (.long x6), .second, .val (.int x8), .val (.int x9), d10, d11, .val (.ref a_q11_24)] [(.int (F8 (3 : Int32) x8 x1 x9 x4 x6 cn_q11_24 cf_q11_24))]))
    by_cases hc361 : (F8 (3 : Int32) x8 x1 x9 x4 x6 cn_q11_24 cf_q11_24) = 0
    · refine Eq.mp (congrArg (fun z => Ends p e below s 2 18 (Q0 Z  h0 n0 z) (T13.setTop (mkF m 361 #[d0, .val (.long x1), .second, d3, .val (.long x4), .second, .val (.long x6), .second, .val (.int x8), .val (.int x9), d10, d11, .val (.ref a_q11_24)] [(.int (F8 (3 : Int32) x8 x1 x9 x4 x6 cn_q11_24 cf_q11_24))]))) (show (F0_346 K cn_q11_24 cf_q11_24 x1 x4 x6 x8 x9) = (F0_594 K) from (if_pos hc361)).symm) ?_
      refine Ends.step (u' := (T13.setTop (mkF m 594 #[d0, .val (.long x1), .second, d3, .val (.long x4), .second, .val (.long x6), .second, .val (.int x8), .val (.int x9), d10, d11, .val (.ref a_q11_24)] []))) ?_ (fun _ k => XS.ifYes X13.here hx rfl (pc0 := 361) (pc' := 594) rfl (hb hby at_361) rfl (XT.i0_eq_t hc361) (by decide) (by decide) k)
      exact b594 T13 _ _ X13 e13 N13 Zs (d0) od0 x1 (d3) od3 x4 x6 (.val (.int x8)) (Or.inr ⟨_, rfl, rfl⟩) (.val (.int x9)) (Or.inr ⟨_, rfl, rfl⟩) (d10) od10 (d11) od11 (.val (.ref a_q11_24)) (Or.inr ⟨_, rfl, rfl⟩)
    · refine Eq.mp (congrArg (fun z => Ends p e below s 2 18 (Q0 Z  h0 n0 z) (T13.setTop (mkF m 361 #[d0, .val (.long x1), .second, d3, .val (.long x4), .second, .val (.long x6), .second, .val (.int x8), .val (.int x9), d10, d11, .val (.ref a_q11_24)] [(.int (F8 (3 : Int32) x8 x1 x9 x4 x6 cn_q11_24 cf_q11_24))]))) (show (F0_346 K cn_q11_24 cf_q11_24 x1 x4 x6 x8 x9) = (F0_364 K cn_q11_24 cf_q11_24 x1 x4 x6 x8 x9) from (if_neg hc361)).symm) ?_
      refine Ends.step (u' := (T13.setTop (mkF m 364 #[d0, .val (.long x1), .second, d3, .val (.long x4), .second, .val (.long x6), .second, .val (.int x8), .val (.int x9), d10, d11, .val (.ref a_q11_24)] []))) ?_ (fun _ k => XS.ifNo X13.here hx rfl (hb hby at_361) rfl (XT.i0_eq_f hc361) k)
      exact b364 T13 _ _ X13 e13 N13 Zs cn_q11_24 cf_q11_24 x1 x4 x6 x8 x9 (d0) od0 (d3) od3 (d10) od10 (d11) od11 a_q11_24 g_q11_24 A_q11_24 (okf hc361)
  have b328 : ∀ (T : State) (L : List Loc) (h : Heap) (X : Stand p l e room_1 s m #[(.int p0), (.long p1), (.int p2), (.long p3), (.long p4)] below meth c T L 2 18) (eT : T.heap = h) (N : Fr n0 L) (Zs : n0 ≤ h.size) (cn_q11_24 : Nat) (cf_q11_24 : Nat → Int32) (x1 : Int64) (x4 : Int64) (x6 : Int64) (x8 : Int32) (x9 : Int32) (d0 : Slot) (od0 : OneS d0) (d3 : Slot) (od3 : OneS d3) (d10 : Slot) (od10 : OneS d10) (d11 : Slot) (od11 : OneS d11) (a_q11_24 : Addr) (g_q11_24 : n0 ≤ a_q11_24) (A_q11_24 : Ar Z h a_q11_24 .byte cn_q11_24 cf_q11_24) (ok : (O0_328 K cn_q11_24 cf_q11_24 x1 x4 x6 x8 x9)), Ends p e below s 2 18 (Q0 Z  h0 n0 (F0_328 K cn_q11_24 cf_q11_24 x1 x4 x6 x8 x9)) (T.setTop (mkF m 328 #[d0, .val (.long x1), .second, d3, .val (.long x4), .second, .val (.long x6), .second, .val (.int x8), .val (.int x9), d10, d11, .val (.ref a_q11_24)] [])) := by
    intro T L h X eT N Zs cn_q11_24 cf_q11_24 x1 x4 x6 x8 x9 d0 od0 d3 od3 d10 od10 d11 od11 a_q11_24 g_q11_24 A_q11_24 ok
    obtain ⟨o1, okt, okf⟩ := ok
    refine Ends.step (u' := (T.setTop (mkF m 330 #[d0, .val (.long x1), .second, d3, .val (.long x4), .second, .val (.long x6), .second, .val (.int x8), .val (.int x9), d10, d11, .val (.ref a_q11_24)] [(.ref a_q11_24)]))) ?_ (fun _ k => XS.aload X.here hx rfl (hb hby at_328) rfl rfl k)
    refine Ends.step (u' := (T.setTop (mkF m 331 #[d0, .val (.long x1), .second, d3, .val (.long x4), .second, .val (.long x6), .second, .val (.int x8), .val (.int x9), d10, d11, .val (.ref a_q11_24)] [(.int (2 : Int32)), (.ref a_q11_24)]))) ?_ (fun _ k => XT.iconstV X.here hx rfl (2 : Int32) (hb hby at_330) rfl k)
    refine Ends.step (u' := (T.setTop (mkF m 333 #[d0, .val (.long x1), .second, d3, .val (.long x4), .second, .val (.long x6), .second, .val (.int x8), .val (.int x9), d10, d11, .val (.ref a_q11_24)] [(.int x8), (.int (2 : Int32)), (.ref a_q11_24)]))) ?_ (fun _ k => XS.iload X.here hx rfl (hb hby at_331) rfl k)
    refine Ends.step (u' := (T.setTop (mkF m 334 #[d0, .val (.long x1), .second, d3, .val (.long x4), .second, .val (.long x6), .second, .val (.int x8), .val (.int x9), d10, d11, .val (.ref a_q11_24)] [(.long x1), (.int x8), (.int (2 : Int32)), (.ref a_q11_24)]))) ?_ (fun _ k => XT.lloadN X.here hx rfl (hb hby at_333) rfl k)
    refine Ends.step (u' := (T.setTop (mkF m 336 #[d0, .val (.long x1), .second, d3, .val (.long x4), .second, .val (.long x6), .second, .val (.int x8), .val (.int x9), d10, d11, .val (.ref a_q11_24)] [(.int x9), (.long x1), (.int x8), (.int (2 : Int32)), (.ref a_q11_24)]))) ?_ (fun _ k => XS.iload X.here hx rfl (hb hby at_334) rfl k)
    refine Ends.step (u' := (T.setTop (mkF m 338 #[d0, .val (.long x1), .second, d3, .val (.long x4), .second, .val (.long x6), .second, .val (.int x8), .val (.int x9), d10, d11, .val (.ref a_q11_24)] [(.long x4), (.int x9), (.long x1), (.int x8), (.int (2 : Int32)), (.ref a_q11_24)]))) ?_ (fun _ k => XT.lload X.here hx rfl (hb hby at_336) rfl k)
    refine Ends.step (u' := (T.setTop (mkF m 340 #[d0, .val (.long x1), .second, d3, .val (.long x4), .second, .val (.long x6), .second, .val (.int x8), .val (.int x9), d10, d11, .val (.ref a_q11_24)] [(.long x6), (.long x4), (.int x9), (.long x1), (.int x8), (.int (2 : Int32)), (.ref a_q11_24)]))) ?_ (fun _ k => XT.lload X.here hx rfl (hb hby at_338) rfl k)
    refine Ends.callS X hx hZ hown (hw _ (List.mem_of_getElem? (i := 38) rfl)) (hw _ (List.mem_of_getElem? (i := 39) rfl)) (hw _ (List.mem_of_getElem? (i := 24) rfl)) (hw _ (List.mem_of_getElem? (i := 40) rfl)) (by decide) (rm8 l Z a0 hw (2 : Int32) x8 x1 x9 x4 x6 cn_q11_24 cf_q11_24 a_q11_24 h n0 Zs A_q11_24 o1) 0 (by decide) (by decide) eT  (g := (mkF m 340 #[d0, .val (.long x1), .second, d3, .val (.long x4), .second, .val (.long x6), .second, .val (.int x8), .val (.int x9), d10, d11, .val (.ref a_q11_24)] [(.long x6), (.long x4), (.int x9), (.long x1), (.int x8), (.int (2 : Int32)), (.ref a_q11_24)])) rfl (by rw [hml]; rfl)  [(.ref a_q11_24), (.int (2 : Int32)), (.int x8), (.long x1), (.int x9), (.long x4), (.long x6)] [] (lenOf pd_6 rfl) rfl (by show 2 * 0 + _ ≤ _; exact Nat.le_of_eq rfl) (hb hby at_340) rfl (by decide) (by decide) (fun v14 T14 L14 X14 hQ14 => ?_)
    obtain ⟨rfl, Nq14, e14⟩ := hQ14
    have N14 := Fr.app N Nq14
    show Ends p e below s _ _ _ (T14.setTop (mkF m 343 #[d0, .val (.long x1), .second, d3, .val (.long x4), .second, .val (.long x6), .second, .val (.int x8), .val (.int x9), d10, d11, .val (.ref a_q11_24)] [(.int (F8 (2 : Int32) x8 x1 x9 x4 x6 cn_q11_24 cf_q11_24))]))
    by_cases hc343 : (F8 (2 : Int32) x8 x1 x9 x4 x6 cn_q11_24 cf_q11_24) = 0
    · refine Eq.mp (congrArg (fun z => Ends p e below s 2 18 (Q0 Z  h0 n0 z) (T14.setTop (mkF m 343 #[d0, .val (.long x1), .second, d3, .val (.long x4), .second, .val (.long x6), .second, .val (.int x8), .val (.int x9), d10, d11, .val (.ref a_q11_24)] [(.int (F8 (2 : Int32) x8 x1 x9 x4 x6 cn_q11_24 cf_q11_24))]))) (show (F0_328 K cn_q11_24 cf_q11_24 x1 x4 x6 x8 x9) = (F0_594 K) from (if_pos hc343)).symm) ?_
      refine Ends.step (u' := (T14.setTop (mkF m 594 #[d0, .val (.long x1), .second, d3, .val (.long x4), .second, .val (.long x6), .second, .val (.int x8), .val (.int x9), d10, d11, .val (.ref a_q11_24)] []))) ?_ (fun _ k => XS.ifYes X14.here hx rfl (pc0 := 343) (pc' := 594) rfl (hb hby at_343) rfl (XT.i0_eq_t hc343) (by decide) (by decide) k)
      exact b594 T14 _ _ X14 e14 N14 Zs (d0) od0 x1 (d3) od3 x4 x6 (.val (.int x8)) (Or.inr ⟨_, rfl, rfl⟩) (.val (.int x9)) (Or.inr ⟨_, rfl, rfl⟩) (d10) od10 (d11) od11 (.val (.ref a_q11_24)) (Or.inr ⟨_, rfl, rfl⟩)
    · refine Eq.mp (congrArg (fun z => Ends p e below s 2 18 (Q0 Z  h0 n0 z) (T14.setTop (mkF m 343 #[d0, .val (.long x1), .second, d3, .val (.long x4), .second, .val (.long x6), .second, .val (.int x8), .val (.int x9), d10, d11, .val (.ref a_q11_24)] [(.int (F8 (2 : Int32) x8 x1 x9 x4 x6 cn_q11_24 cf_q11_24))]))) (show (F0_328 K cn_q11_24 cf_q11_24 x1 x4 x6 x8 x9) = (F0_346 K cn_q11_24 cf_q11_24 x1 x4 x6 x8 x9) from (if_neg hc343)).symm) ?_
      refine Ends.step (u' := (T14.setTop (mkF m 346 #[d0, .val (.long x1), .second, d3, .val (.long x4), .second, .val (.long x6), .second, .val (.int x8), .val (.int x9), d10, d11, .val (.ref a_q11_24)] []))) ?_ (fun _ k => XS.ifNo X14.here hx rfl (hb hby at_343) rfl (XT.i0_eq_f hc343) k)
      exact b346 T14 _ _ X14 e14 N14 Zs cn_q11_24 cf_q11_24 x1 x4 x6 x8 x9 (d0) od0 (d3) od3 (d10) od10 (d11) od11 a_q11_24 g_q11_24 A_q11_24 (okf hc343)
  have b310 : ∀ (T : State) (L : List Loc) (h : Heap) (X : Stand p l e room_1 s m #[(.int p0), (.long p1), (.int p2), (.long p3), (.long p4)] below meth c T L 2 18) (eT : T.heap = h) (N : Fr n0 L) (Zs : n0 ≤ h.size) (cn_q11_24 : Nat) (cf_q11_24 : Nat → Int32) (x1 : Int64) (x4 : Int64) (x6 : Int64) (x8 : Int32) (x9 : Int32) (d0 : Slot) (od0 : OneS d0) (d3 : Slot) (od3 : OneS d3) (d10 : Slot) (od10 : OneS d10) (d11 : Slot) (od11 : OneS d11) (a_q11_24 : Addr) (g_q11_24 : n0 ≤ a_q11_24) (A_q11_24 : Ar Z h a_q11_24 .byte cn_q11_24 cf_q11_24) (ok : (O0_310 K cn_q11_24 cf_q11_24 x1 x4 x6 x8 x9)), Ends p e below s 2 18 (Q0 Z  h0 n0 (F0_310 K cn_q11_24 cf_q11_24 x1 x4 x6 x8 x9)) (T.setTop (mkF m 310 #[d0, .val (.long x1), .second, d3, .val (.long x4), .second, .val (.long x6), .second, .val (.int x8), .val (.int x9), d10, d11, .val (.ref a_q11_24)] [])) := by
    intro T L h X eT N Zs cn_q11_24 cf_q11_24 x1 x4 x6 x8 x9 d0 od0 d3 od3 d10 od10 d11 od11 a_q11_24 g_q11_24 A_q11_24 ok
    obtain ⟨o1, okt, okf⟩ := ok
    refine Ends.step (u' := (T.setTop (mkF m 312 #[d0, .val (.long x1), .second, d3, .val (.long x4), .second, .val (.long x6), .second, .val (.int x8), .val (.int x9), d10, d11, .val (.ref a_q11_24)] [(.ref a_q11_24)]))) ?_ (fun _ k => XS.aload X.here hx rfl (hb hby at_310) rfl rfl k)
    refine Ends.step (u' := (T.setTop (mkF m 313 #[d0, .val (.long x1), .second, d3, .val (.long x4), .second, .val (.long x6), .second, .val (.int x8), .val (.int x9), d10, d11, .val (.ref a_q11_24)] [(.int (1 : Int32)), (.ref a_q11_24)]))) ?_ (fun _ k => XT.iconstV X.here hx rfl (1 : Int32) (hb hby at_312) rfl k)
    refine Ends.step (u' := (T.setTop (mkF m 315 #[d0, .val (.long x1), .second, d3, .val (.long x4), .second, .val (.long x6), .second, .val (.int x8), .val (.int x9), d10, d11, .val (.ref a_q11_24)] [(.int x8), (.int (1 : Int32)), (.ref a_q11_24)]))) ?_ (fun _ k => XS.iload X.here hx rfl (hb hby at_313) rfl k)
    refine Ends.step (u' := (T.setTop (mkF m 316 #[d0, .val (.long x1), .second, d3, .val (.long x4), .second, .val (.long x6), .second, .val (.int x8), .val (.int x9), d10, d11, .val (.ref a_q11_24)] [(.long x1), (.int x8), (.int (1 : Int32)), (.ref a_q11_24)]))) ?_ (fun _ k => XT.lloadN X.here hx rfl (hb hby at_315) rfl k)
    refine Ends.step (u' := (T.setTop (mkF m 318 #[d0, .val (.long x1), .second, d3, .val (.long x4), .second, .val (.long x6), .second, .val (.int x8), .val (.int x9), d10, d11, .val (.ref a_q11_24)] [(.int x9), (.long x1), (.int x8), (.int (1 : Int32)), (.ref a_q11_24)]))) ?_ (fun _ k => XS.iload X.here hx rfl (hb hby at_316) rfl k)
    refine Ends.step (u' := (T.setTop (mkF m 320 #[d0, .val (.long x1), .second, d3, .val (.long x4), .second, .val (.long x6), .second, .val (.int x8), .val (.int x9), d10, d11, .val (.ref a_q11_24)] [(.long x4), (.int x9), (.long x1), (.int x8), (.int (1 : Int32)), (.ref a_q11_24)]))) ?_ (fun _ k => XT.lload X.here hx rfl (hb hby at_318) rfl k)
    refine Ends.step (u' := (T.setTop (mkF m 322 #[d0, .val (.long x1), .second, d3, .val (.long x4), .second, .val (.long x6), .second, .val (.int x8), .val (.int x9), d10, d11, .val (.ref a_q11_24)] [(.long x6), (.long x4), (.int x9), (.long x1), (.int x8), (.int (1 : Int32)), (.ref a_q11_24)]))) ?_ (fun _ k => XT.lload X.here hx rfl (hb hby at_320) rfl k)
    refine Ends.callS X hx hZ hown (hw _ (List.mem_of_getElem? (i := 38) rfl)) (hw _ (List.mem_of_getElem? (i := 39) rfl)) (hw _ (List.mem_of_getElem? (i := 24) rfl)) (hw _ (List.mem_of_getElem? (i := 40) rfl)) (by decide) (rm8 l Z a0 hw (1 : Int32) x8 x1 x9 x4 x6 cn_q11_24 cf_q11_24 a_q11_24 h n0 Zs A_q11_24 o1) 0 (by decide) (by decide) eT  (g := (mkF m 322 #[d0, .val (.long x1), .second, d3, .val (.long x4), .second, .val (.long x6), .second, .val (.int x8), .val (.int x9), d10, d11, .val (.ref a_q11_24)] [(.long x6), (.long x4), (.int x9), (.long x1), (.int x8), (.int (1 : Int32)), (.ref a_q11_24)])) rfl (by rw [hml]; rfl)  [(.ref a_q11_24), (.int (1 : Int32)), (.int x8), (.long x1), (.int x9), (.long x4), (.long x6)] [] (lenOf pd_6 rfl) rfl (by show 2 * 0 + _ ≤ _; exact Nat.le_of_eq rfl) (hb hby at_322) rfl (by decide) (by decide) (fun v15 T15 L15 X15 hQ15 => ?_)
    obtain ⟨rfl, Nq15, e15⟩ := hQ15
    have N15 := Fr.app N Nq15
    show Ends p e below s _ _ _ (T15.setTop (mkF m 325 #[d0, .val (.long x1), .second, d3, .val (.long x4), .second, .val (.long x6), .second, .val (.int x8), .val (.int x9), d10, d11, .val (.ref a_q11_24)] [(.int (F8 (1 : Int32) x8 x1 x9 x4 x6 cn_q11_24 cf_q11_24))]))
    by_cases hc325 : (F8 (1 : Int32) x8 x1 x9 x4 x6 cn_q11_24 cf_q11_24) = 0
    · refine Eq.mp (congrArg (fun z => Ends p e below s 2 18 (Q0 Z  h0 n0 z) (T15.setTop (mkF m 325 #[d0, .val (.long x1), .second, d3, .val (.long x4), .second, .val (.long x6), .second, .val (.int x8), .val (.int x9), d10, d11, .val (.ref a_q11_24)] [(.int (F8 (1 : Int32) x8 x1 x9 x4 x6 cn_q11_24 cf_q11_24))]))) (show (F0_310 K cn_q11_24 cf_q11_24 x1 x4 x6 x8 x9) = (F0_594 K) from (if_pos hc325)).symm) ?_
      refine Ends.step (u' := (T15.setTop (mkF m 594 #[d0, .val (.long x1), .second, d3, .val (.long x4), .second, .val (.long x6), .second, .val (.int x8), .val (.int x9), d10, d11, .val (.ref a_q11_24)] []))) ?_ (fun _ k => XS.ifYes X15.here hx rfl (pc0 := 325) (pc' := 594) rfl (hb hby at_325) rfl (XT.i0_eq_t hc325) (by decide) (by decide) k)
      exact b594 T15 _ _ X15 e15 N15 Zs (d0) od0 x1 (d3) od3 x4 x6 (.val (.int x8)) (Or.inr ⟨_, rfl, rfl⟩) (.val (.int x9)) (Or.inr ⟨_, rfl, rfl⟩) (d10) od10 (d11) od11 (.val (.ref a_q11_24)) (Or.inr ⟨_, rfl, rfl⟩)
    · refine Eq.mp (congrArg (fun z => Ends p e below s 2 18 (Q0 Z  h0 n0 z) (T15.setTop (mkF m 325 #[d0, .val (.long x1), .second, d3, .val (.long x4), .second, .val (.long x6), .second, .val (.int x8), .val (.int x9), d10, d11, .val (.ref a_q11_24)] [(.int (F8 (1 : Int32) x8 x1 x9 x4 x6 cn_q11_24 cf_q11_24))]))) (show (F0_310 K cn_q11_24 cf_q11_24 x1 x4 x6 x8 x9) = (F0_328 K cn_q11_24 cf_q11_24 x1 x4 x6 x8 x9) from (if_neg hc325)).symm) ?_
      refine Ends.step (u' := (T15.setTop (mkF m 328 #[d0, .val (.long x1), .second, d3, .val (.long x4), .second, .val (.long x6), .second, .val (.int x8), .val (.int x9), d10, d11, .val (.ref a_q11_24)] []))) ?_ (fun _ k => XS.ifNo X15.here hx rfl (hb hby at_325) rfl (XT.i0_eq_f hc325) k)
      exact b328 T15 _ _ X15 e15 N15 Zs cn_q11_24 cf_q11_24 x1 x4 x6 x8 x9 (d0) od0 (d3) od3 (d10) od10 (d11) od11 a_q11_24 g_q11_24 A_q11_24 (okf hc325)
  have b292 : ∀ (T : State) (L : List Loc) (h : Heap) (X : Stand p l e room_1 s m #[(.int p0), (.long p1), (.int p2), (.long p3), (.long p4)] below meth c T L 2 18) (eT : T.heap = h) (N : Fr n0 L) (Zs : n0 ≤ h.size) (cn_q11_24 : Nat) (cf_q11_24 : Nat → Int32) (x1 : Int64) (x4 : Int64) (x6 : Int64) (x8 : Int32) (x9 : Int32) (d0 : Slot) (od0 : OneS d0) (d3 : Slot) (od3 : OneS d3) (d10 : Slot) (od10 : OneS d10) (d11 : Slot) (od11 : OneS d11) (a_q11_24 : Addr) (g_q11_24 : n0 ≤ a_q11_24) (A_q11_24 : Ar Z h a_q11_24 .byte cn_q11_24 cf_q11_24) (ok : (O0_292 K cn_q11_24 cf_q11_24 x1 x4 x6 x8 x9)), Ends p e below s 2 18 (Q0 Z  h0 n0 (F0_292 K cn_q11_24 cf_q11_24 x1 x4 x6 x8 x9)) (T.setTop (mkF m 292 #[d0, .val (.long x1), .second, d3, .val (.long x4), .second, .val (.long x6), .second, .val (.int x8), .val (.int x9), d10, d11, .val (.ref a_q11_24)] [])) := by
    intro T L h X eT N Zs cn_q11_24 cf_q11_24 x1 x4 x6 x8 x9 d0 od0 d3 od3 d10 od10 d11 od11 a_q11_24 g_q11_24 A_q11_24 ok
    obtain ⟨o1, okt, okf⟩ := ok
    refine Ends.step (u' := (T.setTop (mkF m 294 #[d0, .val (.long x1), .second, d3, .val (.long x4), .second, .val (.long x6), .second, .val (.int x8), .val (.int x9), d10, d11, .val (.ref a_q11_24)] [(.ref a_q11_24)]))) ?_ (fun _ k => XS.aload X.here hx rfl (hb hby at_292) rfl rfl k)
    refine Ends.step (u' := (T.setTop (mkF m 295 #[d0, .val (.long x1), .second, d3, .val (.long x4), .second, .val (.long x6), .second, .val (.int x8), .val (.int x9), d10, d11, .val (.ref a_q11_24)] [(.int (0 : Int32)), (.ref a_q11_24)]))) ?_ (fun _ k => XT.iconstV X.here hx rfl (0 : Int32) (hb hby at_294) rfl k)
    refine Ends.step (u' := (T.setTop (mkF m 297 #[d0, .val (.long x1), .second, d3, .val (.long x4), .second, .val (.long x6), .second, .val (.int x8), .val (.int x9), d10, d11, .val (.ref a_q11_24)] [(.int x8), (.int (0 : Int32)), (.ref a_q11_24)]))) ?_ (fun _ k => XS.iload X.here hx rfl (hb hby at_295) rfl k)
    refine Ends.step (u' := (T.setTop (mkF m 298 #[d0, .val (.long x1), .second, d3, .val (.long x4), .second, .val (.long x6), .second, .val (.int x8), .val (.int x9), d10, d11, .val (.ref a_q11_24)] [(.long x1), (.int x8), (.int (0 : Int32)), (.ref a_q11_24)]))) ?_ (fun _ k => XT.lloadN X.here hx rfl (hb hby at_297) rfl k)
    refine Ends.step (u' := (T.setTop (mkF m 300 #[d0, .val (.long x1), .second, d3, .val (.long x4), .second, .val (.long x6), .second, .val (.int x8), .val (.int x9), d10, d11, .val (.ref a_q11_24)] [(.int x9), (.long x1), (.int x8), (.int (0 : Int32)), (.ref a_q11_24)]))) ?_ (fun _ k => XS.iload X.here hx rfl (hb hby at_298) rfl k)
    refine Ends.step (u' := (T.setTop (mkF m 302 #[d0, .val (.long x1), .second, d3, .val (.long x4), .second, .val (.long x6), .second, .val (.int x8), .val (.int x9), d10, d11, .val (.ref a_q11_24)] [(.long x4), (.int x9), (.long x1), (.int x8), (.int (0 : Int32)), (.ref a_q11_24)]))) ?_ (fun _ k => XT.lload X.here hx rfl (hb hby at_300) rfl k)
    refine Ends.step (u' := (T.setTop (mkF m 304 #[d0, .val (.long x1), .second, d3, .val (.long x4), .second, .val (.long x6), .second, .val (.int x8), .val (.int x9), d10, d11, .val (.ref a_q11_24)] [(.long x6), (.long x4), (.int x9), (.long x1), (.int x8), (.int (0 : Int32)), (.ref a_q11_24)]))) ?_ (fun _ k => XT.lload X.here hx rfl (hb hby at_302) rfl k)
    refine Ends.callS X hx hZ hown (hw _ (List.mem_of_getElem? (i := 38) rfl)) (hw _ (List.mem_of_getElem? (i := 39) rfl)) (hw _ (List.mem_of_getElem? (i := 24) rfl)) (hw _ (List.mem_of_getElem? (i := 40) rfl)) (by decide) (rm8 l Z a0 hw (0 : Int32) x8 x1 x9 x4 x6 cn_q11_24 cf_q11_24 a_q11_24 h n0 Zs A_q11_24 o1) 0 (by decide) (by decide) eT  (g := (mkF m 304 #[d0, .val (.long x1), .second, d3, .val (.long x4), .second, .val (.long x6), .second, .val (.int x8), .val (.int x9), d10, d11, .val (.ref a_q11_24)] [(.long x6), (.long x4), (.int x9), (.long x1), (.int x8), (.int (0 : Int32)), (.ref a_q11_24)])) rfl (by rw [hml]; rfl)  [(.ref a_q11_24), (.int (0 : Int32)), (.int x8), (.long x1), (.int x9), (.long x4), (.long x6)] [] (lenOf pd_6 rfl) rfl (by show 2 * 0 + _ ≤ _; exact Nat.le_of_eq rfl) (hb hby at_304) rfl (by decide) (by decide) (fun v16 T16 L16 X16 hQ16 => ?_)
    obtain ⟨rfl, Nq16, e16⟩ := hQ16
    have N16 := Fr.app N Nq16
    show Ends p e below s _ _ _ (T16.setTop (mkF m 307 #[d0, .val (.long x1), .second, d3, .val (.long x4), .second, .val (.long x6), .second, .val (.int x8), .val (.int x9), d10, d11, .val (.ref a_q11_24)] [(.int (F8 (0 : Int32) x8 x1 x9 x4 x6 cn_q11_24 cf_q11_24))]))
    by_cases hc307 : (F8 (0 : Int32) x8 x1 x9 x4 x6 cn_q11_24 cf_q11_24) = 0
    · refine Eq.mp (congrArg (fun z => Ends p e below s 2 18 (Q0 Z  h0 n0 z) (T16.setTop (mkF m 307 #[d0, .val (.long x1), .second, d3, .val (.long x4), .second, .val (.long x6), .second, .val (.int x8), .val (.int x9), d10, d11, .val (.ref a_q11_24)] [(.int (F8 (0 : Int32) x8 x1 x9 x4 x6 cn_q11_24 cf_q11_24))]))) (show (F0_292 K cn_q11_24 cf_q11_24 x1 x4 x6 x8 x9) = (F0_594 K) from (if_pos hc307)).symm) ?_
      refine Ends.step (u' := (T16.setTop (mkF m 594 #[d0, .val (.long x1), .second, d3, .val (.long x4), .second, .val (.long x6), .second, .val (.int x8), .val (.int x9), d10, d11, .val (.ref a_q11_24)] []))) ?_ (fun _ k => XS.ifYes X16.here hx rfl (pc0 := 307) (pc' := 594) rfl (hb hby at_307) rfl (XT.i0_eq_t hc307) (by decide) (by decide) k)
      exact b594 T16 _ _ X16 e16 N16 Zs (d0) od0 x1 (d3) od3 x4 x6 (.val (.int x8)) (Or.inr ⟨_, rfl, rfl⟩) (.val (.int x9)) (Or.inr ⟨_, rfl, rfl⟩) (d10) od10 (d11) od11 (.val (.ref a_q11_24)) (Or.inr ⟨_, rfl, rfl⟩)
    · refine Eq.mp (congrArg (fun z => Ends p e below s 2 18 (Q0 Z  h0 n0 z) (T16.setTop (mkF m 307 #[d0, .val (.long x1), .second, d3, .val (.long x4), .second, .val (.long x6), .second, .val (.int x8), .val (.int x9), d10, d11, .val (.ref a_q11_24)] [(.int (F8 (0 : Int32) x8 x1 x9 x4 x6 cn_q11_24 cf_q11_24))]))) (show (F0_292 K cn_q11_24 cf_q11_24 x1 x4 x6 x8 x9) = (F0_310 K cn_q11_24 cf_q11_24 x1 x4 x6 x8 x9) from (if_neg hc307)).symm) ?_
      refine Ends.step (u' := (T16.setTop (mkF m 310 #[d0, .val (.long x1), .second, d3, .val (.long x4), .second, .val (.long x6), .second, .val (.int x8), .val (.int x9), d10, d11, .val (.ref a_q11_24)] []))) ?_ (fun _ k => XS.ifNo X16.here hx rfl (hb hby at_307) rfl (XT.i0_eq_f hc307) k)
      exact b310 T16 _ _ X16 e16 N16 Zs cn_q11_24 cf_q11_24 x1 x4 x6 x8 x9 (d0) od0 (d3) od3 (d10) od10 (d11) od11 a_q11_24 g_q11_24 A_q11_24 (okf hc307)
  have b282 : ∀ (T : State) (L : List Loc) (h : Heap) (X : Stand p l e room_1 s m #[(.int p0), (.long p1), (.int p2), (.long p3), (.long p4)] below meth c T L 2 18) (eT : T.heap = h) (N : Fr n0 L) (Zs : n0 ≤ h.size) (cq18_size : Int32) (cn_q11_24 : Nat) (cf_q11_24 : Nat → Int32) (x1 : Int64) (x4 : Int64) (x6 : Int64) (x8 : Int32) (x9 : Int32) (d0 : Slot) (od0 : OneS d0) (d3 : Slot) (od3 : OneS d3) (d11 : Slot) (od11 : OneS d11) (a_q18 : Addr) (g_q18 : n0 ≤ a_q18) (a_q11_24 : Addr) (g_q11_24 : n0 ≤ a_q11_24) (ne_q18_q11_24 : a_q18 ≠ a_q11_24) (E_q18 : Exa Z h a_q18 "lakewright/zstd/Sink") (F_q18_bytes : Fld Z h a_q18 "lakewright/zstd/Sink" "bytes" "[B" (.ref a_q11_24)) (F_q18_size : Fld Z h a_q18 "lakewright/zstd/Sink" "size" "I" (.int cq18_size)) (A_q11_24 : Ar Z h a_q11_24 .byte cn_q11_24 cf_q11_24) (ok : (O0_282 K cq18_size cn_q11_24 cf_q11_24 x1 x4 x6 x8 x9)), Ends p e below s 2 18 (Q0 Z  h0 n0 (F0_282 K cq18_size cn_q11_24 cf_q11_24 x1 x4 x6 x8 x9)) (T.setTop (mkF m 282 #[d0, .val (.long x1), .second, d3, .val (.long x4), .second, .val (.long x6), .second, .val (.int x8), .val (.int x9), .val (.ref a_q18), d11, .val (.ref a_q11_24)] [])) := by
    intro T L h X eT N Zs cq18_size cn_q11_24 cf_q11_24 x1 x4 x6 x8 x9 d0 od0 d3 od3 d11 od11 a_q18 g_q18 a_q11_24 g_q11_24 ne_q18_q11_24 E_q18 F_q18_bytes F_q18_size A_q11_24 ok
    obtain ⟨okt, okf⟩ := ok
    refine Ends.step (u' := (T.setTop (mkF m 284 #[d0, .val (.long x1), .second, d3, .val (.long x4), .second, .val (.long x6), .second, .val (.int x8), .val (.int x9), .val (.ref a_q18), d11, .val (.ref a_q11_24)] [(.ref a_q18)]))) ?_ (fun _ k => XS.aload X.here hx rfl (hb hby at_282) rfl rfl k)
    refine Ends.callV X hx hZ hown (hw _ (List.mem_of_getElem? (i := 31) rfl)) (hw _ (List.mem_of_getElem? (i := 32) rfl)) (hw _ (List.mem_of_getElem? (i := 34) rfl)) (hw _ (List.mem_of_getElem? (i := 33) rfl)) (hw _ (List.mem_of_getElem? (i := 3) rfl)) (hw _ (List.mem_of_getElem? (i := 35) rfl)) (by decide) (rm7 l Z a0 hw cq18_size cn_q11_24 cf_q11_24 a_q18 a_q11_24 h n0 Zs E_q18 F_q18_bytes F_q18_size A_q11_24) 0 (by decide) (by decide) eT a_q18 E_q18 (g := (mkF m 284 #[d0, .val (.long x1), .second, d3, .val (.long x4), .second, .val (.long x6), .second, .val (.int x8), .val (.int x9), .val (.ref a_q18), d11, .val (.ref a_q11_24)] [(.ref a_q18)])) rfl (by rw [hml]; rfl)  [] [] (lenOf pd_5 rfl) rfl (by show 2 * 0 + _ ≤ _; exact Nat.le_of_eq rfl) (hb hby at_284) rfl (by decide) (by decide) (fun v17 T17 L17 X17 hQ17 => ?_)
    obtain ⟨rfl, Nq17, e17⟩ := hQ17
    have N17 := Fr.app N Nq17
    show Ends p e below s _ _ _ (T17.setTop (mkF m 287 #[d0, .val (.long x1), .second, d3, .val (.long x4), .second, .val (.long x6), .second, .val (.int x8), .val (.int x9), .val (.ref a_q18), d11, .val (.ref a_q11_24)] [(.int (F7 cq18_size cn_q11_24 cf_q11_24))]))
    by_cases hc287 : (F7 cq18_size cn_q11_24 cf_q11_24) = 0
    · refine Eq.mp (congrArg (fun z => Ends p e below s 2 18 (Q0 Z  h0 n0 z) (T17.setTop (mkF m 287 #[d0, .val (.long x1), .second, d3, .val (.long x4), .second, .val (.long x6), .second, .val (.int x8), .val (.int x9), .val (.ref a_q18), d11, .val (.ref a_q11_24)] [(.int (F7 cq18_size cn_q11_24 cf_q11_24))]))) (show (F0_282 K cq18_size cn_q11_24 cf_q11_24 x1 x4 x6 x8 x9) = (F0_292 K cn_q11_24 cf_q11_24 x1 x4 x6 x8 x9) from (if_pos hc287)).symm) ?_
      refine Ends.step (u' := (T17.setTop (mkF m 292 #[d0, .val (.long x1), .second, d3, .val (.long x4), .second, .val (.long x6), .second, .val (.int x8), .val (.int x9), .val (.ref a_q18), d11, .val (.ref a_q11_24)] []))) ?_ (fun _ k => XS.ifYes X17.here hx rfl (pc0 := 287) (pc' := 292) rfl (hb hby at_287) rfl (XT.i0_eq_t hc287) (by decide) (by decide) k)
      exact b292 T17 _ _ X17 e17 N17 Zs cn_q11_24 cf_q11_24 x1 x4 x6 x8 x9 (d0) od0 (d3) od3 (.val (.ref a_q18)) (Or.inr ⟨_, rfl, rfl⟩) (d11) od11 a_q11_24 g_q11_24 A_q11_24 (okt hc287)
    · refine Eq.mp (congrArg (fun z => Ends p e below s 2 18 (Q0 Z  h0 n0 z) (T17.setTop (mkF m 287 #[d0, .val (.long x1), .second, d3, .val (.long x4), .second, .val (.long x6), .second, .val (.int x8), .val (.int x9), .val (.ref a_q18), d11, .val (.ref a_q11_24)] [(.int (F7 cq18_size cn_q11_24 cf_q11_24))]))) (show (F0_282 K cq18_size cn_q11_24 cf_q11_24 x1 x4 x6 x8 x9) = (F0_290 K) from (if_neg hc287)).symm) ?_
      refine Ends.step (u' := (T17.setTop (mkF m 290 #[d0, .val (.long x1), .second, d3, .val (.long x4), .second, .val (.long x6), .second, .val (.int x8), .val (.int x9), .val (.ref a_q18), d11, .val (.ref a_q11_24)] []))) ?_ (fun _ k => XS.ifNo X17.here hx rfl (hb hby at_287) rfl (XT.i0_eq_f hc287) k)
      exact b290 T17 _ _ X17 e17 N17 Zs (d0) od0 x1 (d3) od3 x4 x6 (.val (.int x8)) (Or.inr ⟨_, rfl, rfl⟩) (.val (.int x9)) (Or.inr ⟨_, rfl, rfl⟩) (.val (.ref a_q18)) (Or.inr ⟨_, rfl, rfl⟩) (d11) od11 (.val (.ref a_q11_24)) (Or.inr ⟨_, rfl, rfl⟩)
  have b46 : ∀ (T : State) (L : List Loc) (h : Heap) (X : Stand p l e room_1 s m #[(.int p0), (.long p1), (.int p2), (.long p3), (.long p4)] below meth c T L 2 18) (eT : T.heap = h) (N : Fr n0 L) (Zs : n0 ≤ h.size) (cq18_size : Int32) (cn_q11_24 : Nat) (cf_q11_24 : Nat → Int32) (x1 : Int64) (x4 : Int64) (x6 : Int64) (x8 : Int32) (x9 : Int32) (d0 : Slot) (od0 : OneS d0) (d3 : Slot) (od3 : OneS d3) (a_q18 : Addr) (g_q18 : n0 ≤ a_q18) (a_q11_24 : Addr) (g_q11_24 : n0 ≤ a_q11_24) (ne_q18_q11_24 : a_q18 ≠ a_q11_24) (E_q18 : Exa Z h a_q18 "lakewright/zstd/Sink") (F_q18_bytes : Fld Z h a_q18 "lakewright/zstd/Sink" "bytes" "[B" (.ref a_q11_24)) (F_q18_size : Fld Z h a_q18 "lakewright/zstd/Sink" "size" "I" (.int cq18_size)) (A_q11_24 : Ar Z h a_q11_24 .byte cn_q11_24 cf_q11_24) (ok : (O0_46 K cq18_size cn_q11_24 cf_q11_24 x1 x4 x6 x8 x9)), Ends p e below s 2 18 (Q0 Z  h0 n0 (F0_46 K cq18_size cn_q11_24 cf_q11_24 x1 x4 x6 x8 x9)) (T.setTop (mkF m 46 #[d0, .val (.long x1), .second, d3, .val (.long x4), .second, .val (.long x6), .second, .val (.int x8), .val (.int x9), .val (.ref a_q18), .val (.ref a_q11_24), .unset] [])) := by
    intro T L h X eT N Zs cq18_size cn_q11_24 cf_q11_24 x1 x4 x6 x8 x9 d0 od0 d3 od3 a_q18 g_q18 a_q11_24 g_q11_24 ne_q18_q11_24 E_q18 F_q18_bytes F_q18_size A_q11_24 ok
    obtain ⟨o1, o2, o3, o4, o5, o6, o7, o8, o9, o10, o11, o12, o13, o14, o15, o16, o17, ok⟩ := ok
    refine Ends.step (u' := (T.setTop (mkF m 48 #[d0, .val (.long x1), .second, d3, .val (.long x4), .second, .val (.long x6), .second, .val (.int x8), .val (.int x9), .val (.ref a_q18), .val (.ref a_q11_24), .unset] [(.ref a_q11_24)]))) ?_ (fun _ k => XS.aload X.here hx rfl (hb hby at_46) rfl rfl k)
    refine Ends.step (u' := (T.setTop (mkF m 49 #[d0, .val (.long x1), .second, d3, .val (.long x4), .second, .val (.long x6), .second, .val (.int x8), .val (.int x9), .val (.ref a_q18), .val (.ref a_q11_24), .unset] [(.int (0 : Int32)), (.ref a_q11_24)]))) ?_ (fun _ k => XT.iconstV X.here hx rfl (0 : Int32) (hb hby at_48) rfl k)
    refine Ends.step (u' := (T.setTop (mkF m 51 #[d0, .val (.long x1), .second, d3, .val (.long x4), .second, .val (.long x6), .second, .val (.int x8), .val (.int x9), .val (.ref a_q18), .val (.ref a_q11_24), .unset] [(.long x4), (.int (0 : Int32)), (.ref a_q11_24)]))) ?_ (fun _ k => XT.lload X.here hx rfl (hb hby at_49) rfl k)
    refine Ends.step (u' := (T.setTop (mkF m 53 #[d0, .val (.long x1), .second, d3, .val (.long x4), .second, .val (.long x6), .second, .val (.int x8), .val (.int x9), .val (.ref a_q18), .val (.ref a_q11_24), .unset] [(.long x6), (.long x4), (.int (0 : Int32)), (.ref a_q11_24)]))) ?_ (fun _ k => XT.lload X.here hx rfl (hb hby at_51) rfl k)
    refine Ends.step (u' := (T.setTop (mkF m 54 #[d0, .val (.long x1), .second, d3, .val (.long x4), .second, .val (.long x6), .second, .val (.int x8), .val (.int x9), .val (.ref a_q18), .val (.ref a_q11_24), .unset] [(.int (0 : Int32)), (.long x6), (.long x4), (.int (0 : Int32)), (.ref a_q11_24)]))) ?_ (fun _ k => XT.iconstV X.here hx rfl (0 : Int32) (hb hby at_53) rfl k)
    refine Ends.callS X hx hZ hown (hw _ (List.mem_of_getElem? (i := 22) rfl)) (hw _ (List.mem_of_getElem? (i := 23) rfl)) (hw _ (List.mem_of_getElem? (i := 24) rfl)) (hw _ (List.mem_of_getElem? (i := 25) rfl)) (by decide) (rm5 l Z a0 hw x4 x6 (0 : Int32) h n0 Zs) 2 (by decide) (by decide) eT  (g := (mkF m 54 #[d0, .val (.long x1), .second, d3, .val (.long x4), .second, .val (.long x6), .second, .val (.int x8), .val (.int x9), .val (.ref a_q18), .val (.ref a_q11_24), .unset] [(.int (0 : Int32)), (.long x6), (.long x4), (.int (0 : Int32)), (.ref a_q11_24)])) rfl (by rw [hml]; rfl)  [(.long x4), (.long x6), (.int (0 : Int32))] [(.int (0 : Int32)), (.ref a_q11_24)] (lenOf pd_1 rfl) rfl (by show 2 * 0 + _ ≤ _; exact Nat.le_of_eq rfl) (hb hby at_54) rfl (by decide) (by decide) (fun v18 T18 L18 X18 hQ18 => ?_)
    obtain ⟨rfl, Nq18, e18⟩ := hQ18
    have N18 := Fr.app N Nq18
    show Ends p e below s _ _ _ (T18.setTop (mkF m 57 #[d0, .val (.long x1), .second, d3, .val (.long x4), .second, .val (.long x6), .second, .val (.int x8), .val (.int x9), .val (.ref a_q18), .val (.ref a_q11_24), .unset] [(.int (F5 x4 x6 (0 : Int32))), (.int (0 : Int32)), (.ref a_q11_24)]))
    refine Ends.bastore X18 hx hZ e18 A_q11_24 o1 N18 g_q11_24 (g := (mkF m 57 #[d0, .val (.long x1), .second, d3, .val (.long x4), .second, .val (.long x6), .second, .val (.int x8), .val (.int x9), .val (.ref a_q18), .val (.ref a_q11_24), .unset] [(.int (F5 x4 x6 (0 : Int32))), (.int (0 : Int32)), (.ref a_q11_24)])) rfl rfl (hb hby at_57) (fun T19 h19 sl19 X19 e19 N19 W19 A19 => ?_)
    show Ends p e below s _ _ _ (T19.setTop (mkF m 58 #[d0, .val (.long x1), .second, d3, .val (.long x4), .second, .val (.long x6), .second, .val (.int x8), .val (.int x9), .val (.ref a_q18), .val (.ref a_q11_24), .unset] []))
    have E20 := E_q18.wr W19
    have Fd21 := F_q18_bytes.other W19 (Or.inl ne_q18_q11_24)
    have Fd22 := F_q18_size.other W19 (Or.inl ne_q18_q11_24)
    have Z23 : n0 ≤ h19.size := W19.size.symm ▸ Zs
    refine Ends.step (u' := (T19.setTop (mkF m 60 #[d0, .val (.long x1), .second, d3, .val (.long x4), .second, .val (.long x6), .second, .val (.int x8), .val (.int x9), .val (.ref a_q18), .val (.ref a_q11_24), .unset] [(.ref a_q11_24)]))) ?_ (fun _ k => XS.aload X19.here hx rfl (hb hby at_58) rfl rfl k)
    refine Ends.step (u' := (T19.setTop (mkF m 61 #[d0, .val (.long x1), .second, d3, .val (.long x4), .second, .val (.long x6), .second, .val (.int x8), .val (.int x9), .val (.ref a_q18), .val (.ref a_q11_24), .unset] [(.int (1 : Int32)), (.ref a_q11_24)]))) ?_ (fun _ k => XT.iconstV X19.here hx rfl (1 : Int32) (hb hby at_60) rfl k)
    refine Ends.step (u' := (T19.setTop (mkF m 63 #[d0, .val (.long x1), .second, d3, .val (.long x4), .second, .val (.long x6), .second, .val (.int x8), .val (.int x9), .val (.ref a_q18), .val (.ref a_q11_24), .unset] [(.long x4), (.int (1 : Int32)), (.ref a_q11_24)]))) ?_ (fun _ k => XT.lload X19.here hx rfl (hb hby at_61) rfl k)
    refine Ends.step (u' := (T19.setTop (mkF m 65 #[d0, .val (.long x1), .second, d3, .val (.long x4), .second, .val (.long x6), .second, .val (.int x8), .val (.int x9), .val (.ref a_q18), .val (.ref a_q11_24), .unset] [(.long x6), (.long x4), (.int (1 : Int32)), (.ref a_q11_24)]))) ?_ (fun _ k => XT.lload X19.here hx rfl (hb hby at_63) rfl k)
    refine Ends.step (u' := (T19.setTop (mkF m 66 #[d0, .val (.long x1), .second, d3, .val (.long x4), .second, .val (.long x6), .second, .val (.int x8), .val (.int x9), .val (.ref a_q18), .val (.ref a_q11_24), .unset] [(.int (1 : Int32)), (.long x6), (.long x4), (.int (1 : Int32)), (.ref a_q11_24)]))) ?_ (fun _ k => XT.iconstV X19.here hx rfl (1 : Int32) (hb hby at_65) rfl k)
    refine Ends.callS X19 hx hZ hown (hw _ (List.mem_of_getElem? (i := 22) rfl)) (hw _ (List.mem_of_getElem? (i := 23) rfl)) (hw _ (List.mem_of_getElem? (i := 24) rfl)) (hw _ (List.mem_of_getElem? (i := 25) rfl)) (by decide) (rm5 l Z a0 hw x4 x6 (1 : Int32) h19 n0 Z23) 2 (by decide) (by decide) e19  (g := (mkF m 66 #[d0, .val (.long x1), .second, d3, .val (.long x4), .second, .val (.long x6), .second, .val (.int x8), .val (.int x9), .val (.ref a_q18), .val (.ref a_q11_24), .unset] [(.int (1 : Int32)), (.long x6), (.long x4), (.int (1 : Int32)), (.ref a_q11_24)])) rfl (by rw [hml]; rfl)  [(.long x4), (.long x6), (.int (1 : Int32))] [(.int (1 : Int32)), (.ref a_q11_24)] (lenOf pd_1 rfl) rfl (by show 2 * 0 + _ ≤ _; exact Nat.le_of_eq rfl) (hb hby at_66) rfl (by decide) (by decide) (fun v24 T24 L24 X24 hQ24 => ?_)
    obtain ⟨rfl, Nq24, e24⟩ := hQ24
    have N24 := Fr.app N19 Nq24
    show Ends p e below s _ _ _ (T24.setTop (mkF m 69 #[d0, .val (.long x1), .second, d3, .val (.long x4), .second, .val (.long x6), .second, .val (.int x8), .val (.int x9), .val (.ref a_q18), .val (.ref a_q11_24), .unset] [(.int (F5 x4 x6 (1 : Int32))), (.int (1 : Int32)), (.ref a_q11_24)]))
    refine Ends.bastore X24 hx hZ e24 A19 o2 N24 g_q11_24 (g := (mkF m 69 #[d0, .val (.long x1), .second, d3, .val (.long x4), .second, .val (.long x6), .second, .val (.int x8), .val (.int x9), .val (.ref a_q18), .val (.ref a_q11_24), .unset] [(.int (F5 x4 x6 (1 : Int32))), (.int (1 : Int32)), (.ref a_q11_24)])) rfl rfl (hb hby at_69) (fun T25 h25 sl25 X25 e25 N25 W25 A25 => ?_)
    show Ends p e below s _ _ _ (T25.setTop (mkF m 70 #[d0, .val (.long x1), .second, d3, .val (.long x4), .second, .val (.long x6), .second, .val (.int x8), .val (.int x9), .val (.ref a_q18), .val (.ref a_q11_24), .unset] []))
    have E26 := E20.wr W25
    have Fd27 := Fd21.other W25 (Or.inl ne_q18_q11_24)
    have Fd28 := Fd22.other W25 (Or.inl ne_q18_q11_24)
    have Z29 : n0 ≤ h25.size := W25.size.symm ▸ Z23
    refine Ends.step (u' := (T25.setTop (mkF m 72 #[d0, .val (.long x1), .second, d3, .val (.long x4), .second, .val (.long x6), .second, .val (.int x8), .val (.int x9), .val (.ref a_q18), .val (.ref a_q11_24), .unset] [(.ref a_q11_24)]))) ?_ (fun _ k => XS.aload X25.here hx rfl (hb hby at_70) rfl rfl k)
    refine Ends.step (u' := (T25.setTop (mkF m 73 #[d0, .val (.long x1), .second, d3, .val (.long x4), .second, .val (.long x6), .second, .val (.int x8), .val (.int x9), .val (.ref a_q18), .val (.ref a_q11_24), .unset] [(.int (2 : Int32)), (.ref a_q11_24)]))) ?_ (fun _ k => XT.iconstV X25.here hx rfl (2 : Int32) (hb hby at_72) rfl k)
    refine Ends.step (u' := (T25.setTop (mkF m 75 #[d0, .val (.long x1), .second, d3, .val (.long x4), .second, .val (.long x6), .second, .val (.int x8), .val (.int x9), .val (.ref a_q18), .val (.ref a_q11_24), .unset] [(.long x4), (.int (2 : Int32)), (.ref a_q11_24)]))) ?_ (fun _ k => XT.lload X25.here hx rfl (hb hby at_73) rfl k)
    refine Ends.step (u' := (T25.setTop (mkF m 77 #[d0, .val (.long x1), .second, d3, .val (.long x4), .second, .val (.long x6), .second, .val (.int x8), .val (.int x9), .val (.ref a_q18), .val (.ref a_q11_24), .unset] [(.long x6), (.long x4), (.int (2 : Int32)), (.ref a_q11_24)]))) ?_ (fun _ k => XT.lload X25.here hx rfl (hb hby at_75) rfl k)
    refine Ends.step (u' := (T25.setTop (mkF m 78 #[d0, .val (.long x1), .second, d3, .val (.long x4), .second, .val (.long x6), .second, .val (.int x8), .val (.int x9), .val (.ref a_q18), .val (.ref a_q11_24), .unset] [(.int (2 : Int32)), (.long x6), (.long x4), (.int (2 : Int32)), (.ref a_q11_24)]))) ?_ (fun _ k => XT.iconstV X25.here hx rfl (2 : Int32) (hb hby at_77) rfl k)
    refine Ends.callS X25 hx hZ hown (hw _ (List.mem_of_getElem? (i := 22) rfl)) (hw _ (List.mem_of_getElem? (i := 23) rfl)) (hw _ (List.mem_of_getElem? (i := 24) rfl)) (hw _ (List.mem_of_getElem? (i := 25) rfl)) (by decide) (rm5 l Z a0 hw x4 x6 (2 : Int32) h25 n0 Z29) 2 (by decide) (by decide) e25  (g := (mkF m 78 #[d0, .val (.long x1), .second, d3, .val (.long x4), .second, .val (.long x6), .second, .val (.int x8), .val (.int x9), .val (.ref a_q18), .val (.ref a_q11_24), .unset] [(.int (2 : Int32)), (.long x6), (.long x4), (.int (2 : Int32)), (.ref a_q11_24)])) rfl (by rw [hml]; rfl)  [(.long x4), (.long x6), (.int (2 : Int32))] [(.int (2 : Int32)), (.ref a_q11_24)] (lenOf pd_1 rfl) rfl (by show 2 * 0 + _ ≤ _; exact Nat.le_of_eq rfl) (hb hby at_78) rfl (by decide) (by decide) (fun v30 T30 L30 X30 hQ30 => ?_)
    obtain ⟨rfl, Nq30, e30⟩ := hQ30
    have N30 := Fr.app N25 Nq30
    show Ends p e below s _ _ _ (T30.setTop (mkF m 81 #[d0, .val (.long x1), .second, d3, .val (.long x4), .second, .val (.long x6), .second, .val (.int x8), .val (.int x9), .val (.ref a_q18), .val (.ref a_q11_24), .unset] [(.int (F5 x4 x6 (2 : Int32))), (.int (2 : Int32)), (.ref a_q11_24)]))
    refine Ends.bastore X30 hx hZ e30 A25 o3 N30 g_q11_24 (g := (mkF m 81 #[d0, .val (.long x1), .second, d3, .val (.long x4), .second, .val (.long x6), .second, .val (.int x8), .val (.int x9), .val (.ref a_q18), .val (.ref a_q11_24), .unset] [(.int (F5 x4 x6 (2 : Int32))), (.int (2 : Int32)), (.ref a_q11_24)])) rfl rfl (hb hby at_81) (fun T31 h31 sl31 X31 e31 N31 W31 A31 => ?_)
    show Ends p e below s _ _ _ (T31.setTop (mkF m 82 #[d0, .val (.long x1), .second, d3, .val (.long x4), .second, .val (.long x6), .second, .val (.int x8), .val (.int x9), .val (.ref a_q18), .val (.ref a_q11_24), .unset] []))
    have E32 := E26.wr W31
    have Fd33 := Fd27.other W31 (Or.inl ne_q18_q11_24)
    have Fd34 := Fd28.other W31 (Or.inl ne_q18_q11_24)
    have Z35 : n0 ≤ h31.size := W31.size.symm ▸ Z29
    refine Ends.step (u' := (T31.setTop (mkF m 84 #[d0, .val (.long x1), .second, d3, .val (.long x4), .second, .val (.long x6), .second, .val (.int x8), .val (.int x9), .val (.ref a_q18), .val (.ref a_q11_24), .unset] [(.ref a_q11_24)]))) ?_ (fun _ k => XS.aload X31.here hx rfl (hb hby at_82) rfl rfl k)
    refine Ends.step (u' := (T31.setTop (mkF m 85 #[d0, .val (.long x1), .second, d3, .val (.long x4), .second, .val (.long x6), .second, .val (.int x8), .val (.int x9), .val (.ref a_q18), .val (.ref a_q11_24), .unset] [(.int (3 : Int32)), (.ref a_q11_24)]))) ?_ (fun _ k => XT.iconstV X31.here hx rfl (3 : Int32) (hb hby at_84) rfl k)
    refine Ends.step (u' := (T31.setTop (mkF m 87 #[d0, .val (.long x1), .second, d3, .val (.long x4), .second, .val (.long x6), .second, .val (.int x8), .val (.int x9), .val (.ref a_q18), .val (.ref a_q11_24), .unset] [(.long x4), (.int (3 : Int32)), (.ref a_q11_24)]))) ?_ (fun _ k => XT.lload X31.here hx rfl (hb hby at_85) rfl k)
    refine Ends.step (u' := (T31.setTop (mkF m 89 #[d0, .val (.long x1), .second, d3, .val (.long x4), .second, .val (.long x6), .second, .val (.int x8), .val (.int x9), .val (.ref a_q18), .val (.ref a_q11_24), .unset] [(.long x6), (.long x4), (.int (3 : Int32)), (.ref a_q11_24)]))) ?_ (fun _ k => XT.lload X31.here hx rfl (hb hby at_87) rfl k)
    refine Ends.step (u' := (T31.setTop (mkF m 90 #[d0, .val (.long x1), .second, d3, .val (.long x4), .second, .val (.long x6), .second, .val (.int x8), .val (.int x9), .val (.ref a_q18), .val (.ref a_q11_24), .unset] [(.int (3 : Int32)), (.long x6), (.long x4), (.int (3 : Int32)), (.ref a_q11_24)]))) ?_ (fun _ k => XT.iconstV X31.here hx rfl (3 : Int32) (hb hby at_89) rfl k)
    refine Ends.callS X31 hx hZ hown (hw _ (List.mem_of_getElem? (i := 22) rfl)) (hw _ (List.mem_of_getElem? (i := 23) rfl)) (hw _ (List.mem_of_getElem? (i := 24) rfl)) (hw _ (List.mem_of_getElem? (i := 25) rfl)) (by decide) (rm5 l Z a0 hw x4 x6 (3 : Int32) h31 n0 Z35) 2 (by decide) (by decide) e31  (g := (mkF m 90 #[d0, .val (.long x1), .second, d3, .val (.long x4), .second, .val (.long x6), .second, .val (.int x8), .val (.int x9), .val (.ref a_q18), .val (.ref a_q11_24), .unset] [(.int (3 : Int32)), (.long x6), (.long x4), (.int (3 : Int32)), (.ref a_q11_24)])) rfl (by rw [hml]; rfl)  [(.long x4), (.long x6), (.int (3 : Int32))] [(.int (3 : Int32)), (.ref a_q11_24)] (lenOf pd_1 rfl) rfl (by show 2 * 0 + _ ≤ _; exact Nat.le_of_eq rfl) (hb hby at_90) rfl (by decide) (by decide) (fun v36 T36 L36 X36 hQ36 => ?_)
    obtain ⟨rfl, Nq36, e36⟩ := hQ36
    have N36 := Fr.app N31 Nq36
    show Ends p e below s _ _ _ (T36.setTop (mkF m 93 #[d0, .val (.long x1), .second, d3, .val (.long x4), .second, .val (.long x6), .second, .val (.int x8), .val (.int x9), .val (.ref a_q18), .val (.ref a_q11_24), .unset] [(.int (F5 x4 x6 (3 : Int32))), (.int (3 : Int32)), (.ref a_q11_24)]))
    refine Ends.bastore X36 hx hZ e36 A31 o4 N36 g_q11_24 (g := (mkF m 93 #[d0, .val (.long x1), .second, d3, .val (.long x4), .second, .val (.long x6), .second, .val (.int x8), .val (.int x9), .val (.ref a_q18), .val (.ref a_q11_24), .unset] [(.int (F5 x4 x6 (3 : Int32))), (.int (3 : Int32)), (.ref a_q11_24)])) rfl rfl (hb hby at_93) (fun T37 h37 sl37 X37 e37 N37 W37 A37 => ?_)
    show Ends p e below s _ _ _ (T37.setTop (mkF m 94 #[d0, .val (.long x1), .second, d3, .val (.long x4), .second, .val (.long x6), .second, .val (.int x8), .val (.int x9), .val (.ref a_q18), .val (.ref a_q11_24), .unset] []))
    have E38 := E32.wr W37
    have Fd39 := Fd33.other W37 (Or.inl ne_q18_q11_24)
    have Fd40 := Fd34.other W37 (Or.inl ne_q18_q11_24)
    have Z41 : n0 ≤ h37.size := W37.size.symm ▸ Z35
    refine Ends.step (u' := (T37.setTop (mkF m 96 #[d0, .val (.long x1), .second, d3, .val (.long x4), .second, .val (.long x6), .second, .val (.int x8), .val (.int x9), .val (.ref a_q18), .val (.ref a_q11_24), .unset] [(.ref a_q11_24)]))) ?_ (fun _ k => XS.aload X37.here hx rfl (hb hby at_94) rfl rfl k)
    refine Ends.step (u' := (T37.setTop (mkF m 97 #[d0, .val (.long x1), .second, d3, .val (.long x4), .second, .val (.long x6), .second, .val (.int x8), .val (.int x9), .val (.ref a_q18), .val (.ref a_q11_24), .unset] [(.int (4 : Int32)), (.ref a_q11_24)]))) ?_ (fun _ k => XT.iconstV X37.here hx rfl (4 : Int32) (hb hby at_96) rfl k)
    refine Ends.step (u' := (T37.setTop (mkF m 99 #[d0, .val (.long x1), .second, d3, .val (.long x4), .second, .val (.long x6), .second, .val (.int x8), .val (.int x9), .val (.ref a_q18), .val (.ref a_q11_24), .unset] [(.long x4), (.int (4 : Int32)), (.ref a_q11_24)]))) ?_ (fun _ k => XT.lload X37.here hx rfl (hb hby at_97) rfl k)
    refine Ends.step (u' := (T37.setTop (mkF m 101 #[d0, .val (.long x1), .second, d3, .val (.long x4), .second, .val (.long x6), .second, .val (.int x8), .val (.int x9), .val (.ref a_q18), .val (.ref a_q11_24), .unset] [(.long x6), (.long x4), (.int (4 : Int32)), (.ref a_q11_24)]))) ?_ (fun _ k => XT.lload X37.here hx rfl (hb hby at_99) rfl k)
    refine Ends.step (u' := (T37.setTop (mkF m 102 #[d0, .val (.long x1), .second, d3, .val (.long x4), .second, .val (.long x6), .second, .val (.int x8), .val (.int x9), .val (.ref a_q18), .val (.ref a_q11_24), .unset] [(.int (4 : Int32)), (.long x6), (.long x4), (.int (4 : Int32)), (.ref a_q11_24)]))) ?_ (fun _ k => XT.iconstV X37.here hx rfl (4 : Int32) (hb hby at_101) rfl k)
    refine Ends.callS X37 hx hZ hown (hw _ (List.mem_of_getElem? (i := 22) rfl)) (hw _ (List.mem_of_getElem? (i := 23) rfl)) (hw _ (List.mem_of_getElem? (i := 24) rfl)) (hw _ (List.mem_of_getElem? (i := 25) rfl)) (by decide) (rm5 l Z a0 hw x4 x6 (4 : Int32) h37 n0 Z41) 2 (by decide) (by decide) e37  (g := (mkF m 102 #[d0, .val (.long x1), .second, d3, .val (.long x4), .second, .val (.long x6), .second, .val (.int x8), .val (.int x9), .val (.ref a_q18), .val (.ref a_q11_24), .unset] [(.int (4 : Int32)), (.long x6), (.long x4), (.int (4 : Int32)), (.ref a_q11_24)])) rfl (by rw [hml]; rfl)  [(.long x4), (.long x6), (.int (4 : Int32))] [(.int (4 : Int32)), (.ref a_q11_24)] (lenOf pd_1 rfl) rfl (by show 2 * 0 + _ ≤ _; exact Nat.le_of_eq rfl) (hb hby at_102) rfl (by decide) (by decide) (fun v42 T42 L42 X42 hQ42 => ?_)
    obtain ⟨rfl, Nq42, e42⟩ := hQ42
    have N42 := Fr.app N37 Nq42
    show Ends p e below s _ _ _ (T42.setTop (mkF m 105 #[d0, .val (.long x1), .second, d3, .val (.long x4), .second, .val (.long x6), .second, .val (.int x8), .val (.int x9), .val (.ref a_q18), .val (.ref a_q11_24), .unset] [(.int (F5 x4 x6 (4 : Int32))), (.int (4 : Int32)), (.ref a_q11_24)]))
    refine Ends.bastore X42 hx hZ e42 A37 o5 N42 g_q11_24 (g := (mkF m 105 #[d0, .val (.long x1), .second, d3, .val (.long x4), .second, .val (.long x6), .second, .val (.int x8), .val (.int x9), .val (.ref a_q18), .val (.ref a_q11_24), .unset] [(.int (F5 x4 x6 (4 : Int32))), (.int (4 : Int32)), (.ref a_q11_24)])) rfl rfl (hb hby at_105) (fun T43 h43 sl43 X43 e43 N43 W43 A43 => ?_)
    show Ends p e below s _ _ _ (T43.setTop (mkF m 106 #[d0, .val (.long x1), .second, d3, .val (.long x4), .second, .val (.long x6), .second, .val (.int x8), .val (.int x9), .val (.ref a_q18), .val (.ref a_q11_24), .unset] []))
    have E44 := E38.wr W43
    have Fd45 := Fd39.other W43 (Or.inl ne_q18_q11_24)
    have Fd46 := Fd40.other W43 (Or.inl ne_q18_q11_24)
    have Z47 : n0 ≤ h43.size := W43.size.symm ▸ Z41
    refine Ends.step (u' := (T43.setTop (mkF m 108 #[d0, .val (.long x1), .second, d3, .val (.long x4), .second, .val (.long x6), .second, .val (.int x8), .val (.int x9), .val (.ref a_q18), .val (.ref a_q11_24), .unset] [(.ref a_q11_24)]))) ?_ (fun _ k => XS.aload X43.here hx rfl (hb hby at_106) rfl rfl k)
    refine Ends.step (u' := (T43.setTop (mkF m 109 #[d0, .val (.long x1), .second, d3, .val (.long x4), .second, .val (.long x6), .second, .val (.int x8), .val (.int x9), .val (.ref a_q18), .val (.ref a_q11_24), .unset] [(.int (5 : Int32)), (.ref a_q11_24)]))) ?_ (fun _ k => XT.iconstV X43.here hx rfl (5 : Int32) (hb hby at_108) rfl k)
    refine Ends.step (u' := (T43.setTop (mkF m 111 #[d0, .val (.long x1), .second, d3, .val (.long x4), .second, .val (.long x6), .second, .val (.int x8), .val (.int x9), .val (.ref a_q18), .val (.ref a_q11_24), .unset] [(.long x4), (.int (5 : Int32)), (.ref a_q11_24)]))) ?_ (fun _ k => XT.lload X43.here hx rfl (hb hby at_109) rfl k)
    refine Ends.step (u' := (T43.setTop (mkF m 113 #[d0, .val (.long x1), .second, d3, .val (.long x4), .second, .val (.long x6), .second, .val (.int x8), .val (.int x9), .val (.ref a_q18), .val (.ref a_q11_24), .unset] [(.long x6), (.long x4), (.int (5 : Int32)), (.ref a_q11_24)]))) ?_ (fun _ k => XT.lload X43.here hx rfl (hb hby at_111) rfl k)
    refine Ends.step (u' := (T43.setTop (mkF m 114 #[d0, .val (.long x1), .second, d3, .val (.long x4), .second, .val (.long x6), .second, .val (.int x8), .val (.int x9), .val (.ref a_q18), .val (.ref a_q11_24), .unset] [(.int (5 : Int32)), (.long x6), (.long x4), (.int (5 : Int32)), (.ref a_q11_24)]))) ?_ (fun _ k => XT.iconstV X43.here hx rfl (5 : Int32) (hb hby at_113) rfl k)
    refine Ends.callS X43 hx hZ hown (hw _ (List.mem_of_getElem? (i := 22) rfl)) (hw _ (List.mem_of_getElem? (i := 23) rfl)) (hw _ (List.mem_of_getElem? (i := 24) rfl)) (hw _ (List.mem_of_getElem? (i := 25) rfl)) (by decide) (rm5 l Z a0 hw x4 x6 (5 : Int32) h43 n0 Z47) 2 (by decide) (by decide) e43  (g := (mkF m 114 #[d0, .val (.long x1), .second, d3, .val (.long x4), .second, .val (.long x6), .second, .val (.int x8), .val (.int x9), .val (.ref a_q18), .val (.ref a_q11_24), .unset] [(.int (5 : Int32)), (.long x6), (.long x4), (.int (5 : Int32)), (.ref a_q11_24)])) rfl (by rw [hml]; rfl)  [(.long x4), (.long x6), (.int (5 : Int32))] [(.int (5 : Int32)), (.ref a_q11_24)] (lenOf pd_1 rfl) rfl (by show 2 * 0 + _ ≤ _; exact Nat.le_of_eq rfl) (hb hby at_114) rfl (by decide) (by decide) (fun v48 T48 L48 X48 hQ48 => ?_)
    obtain ⟨rfl, Nq48, e48⟩ := hQ48
    have N48 := Fr.app N43 Nq48
    show Ends p e below s _ _ _ (T48.setTop (mkF m 117 #[d0, .val (.long x1), .second, d3, .val (.long x4), .second, .val (.long x6), .second, .val (.int x8), .val (.int x9), .val (.ref a_q18), .val (.ref a_q11_24), .unset] [(.int (F5 x4 x6 (5 : Int32))), (.int (5 : Int32)), (.ref a_q11_24)]))
    refine Ends.bastore X48 hx hZ e48 A43 o6 N48 g_q11_24 (g := (mkF m 117 #[d0, .val (.long x1), .second, d3, .val (.long x4), .second, .val (.long x6), .second, .val (.int x8), .val (.int x9), .val (.ref a_q18), .val (.ref a_q11_24), .unset] [(.int (F5 x4 x6 (5 : Int32))), (.int (5 : Int32)), (.ref a_q11_24)])) rfl rfl (hb hby at_117) (fun T49 h49 sl49 X49 e49 N49 W49 A49 => ?_)
    show Ends p e below s _ _ _ (T49.setTop (mkF m 118 #[d0, .val (.long x1), .second, d3, .val (.long x4), .second, .val (.long x6), .second, .val (.int x8), .val (.int x9), .val (.ref a_q18), .val (.ref a_q11_24), .unset] []))
    have E50 := E44.wr W49
    have Fd51 := Fd45.other W49 (Or.inl ne_q18_q11_24)
    have Fd52 := Fd46.other W49 (Or.inl ne_q18_q11_24)
    have Z53 : n0 ≤ h49.size := W49.size.symm ▸ Z47
    refine Ends.step (u' := (T49.setTop (mkF m 120 #[d0, .val (.long x1), .second, d3, .val (.long x4), .second, .val (.long x6), .second, .val (.int x8), .val (.int x9), .val (.ref a_q18), .val (.ref a_q11_24), .unset] [(.ref a_q11_24)]))) ?_ (fun _ k => XS.aload X49.here hx rfl (hb hby at_118) rfl rfl k)
    refine Ends.step (u' := (T49.setTop (mkF m 122 #[d0, .val (.long x1), .second, d3, .val (.long x4), .second, .val (.long x6), .second, .val (.int x8), .val (.int x9), .val (.ref a_q18), .val (.ref a_q11_24), .unset] [(.int (6 : Int32)), (.ref a_q11_24)]))) ?_ (fun _ k => XT.bipushV X49.here hx rfl (6 : Int32) (hb hby at_120) rfl k)
    refine Ends.step (u' := (T49.setTop (mkF m 124 #[d0, .val (.long x1), .second, d3, .val (.long x4), .second, .val (.long x6), .second, .val (.int x8), .val (.int x9), .val (.ref a_q18), .val (.ref a_q11_24), .unset] [(.long x4), (.int (6 : Int32)), (.ref a_q11_24)]))) ?_ (fun _ k => XT.lload X49.here hx rfl (hb hby at_122) rfl k)
    refine Ends.step (u' := (T49.setTop (mkF m 126 #[d0, .val (.long x1), .second, d3, .val (.long x4), .second, .val (.long x6), .second, .val (.int x8), .val (.int x9), .val (.ref a_q18), .val (.ref a_q11_24), .unset] [(.long x6), (.long x4), (.int (6 : Int32)), (.ref a_q11_24)]))) ?_ (fun _ k => XT.lload X49.here hx rfl (hb hby at_124) rfl k)
    refine Ends.step (u' := (T49.setTop (mkF m 128 #[d0, .val (.long x1), .second, d3, .val (.long x4), .second, .val (.long x6), .second, .val (.int x8), .val (.int x9), .val (.ref a_q18), .val (.ref a_q11_24), .unset] [(.int (6 : Int32)), (.long x6), (.long x4), (.int (6 : Int32)), (.ref a_q11_24)]))) ?_ (fun _ k => XT.bipushV X49.here hx rfl (6 : Int32) (hb hby at_126) rfl k)
    refine Ends.callS X49 hx hZ hown (hw _ (List.mem_of_getElem? (i := 22) rfl)) (hw _ (List.mem_of_getElem? (i := 23) rfl)) (hw _ (List.mem_of_getElem? (i := 24) rfl)) (hw _ (List.mem_of_getElem? (i := 25) rfl)) (by decide) (rm5 l Z a0 hw x4 x6 (6 : Int32) h49 n0 Z53) 2 (by decide) (by decide) e49  (g := (mkF m 128 #[d0, .val (.long x1), .second, d3, .val (.long x4), .second, .val (.long x6), .second, .val (.int x8), .val (.int x9), .val (.ref a_q18), .val (.ref a_q11_24), .unset] [(.int (6 : Int32)), (.long x6), (.long x4), (.int (6 : Int32)), (.ref a_q11_24)])) rfl (by rw [hml]; rfl)  [(.long x4), (.long x6), (.int (6 : Int32))] [(.int (6 : Int32)), (.ref a_q11_24)] (lenOf pd_1 rfl) rfl (by show 2 * 0 + _ ≤ _; exact Nat.le_of_eq rfl) (hb hby at_128) rfl (by decide) (by decide) (fun v54 T54 L54 X54 hQ54 => ?_)
    obtain ⟨rfl, Nq54, e54⟩ := hQ54
    have N54 := Fr.app N49 Nq54
    show Ends p e below s _ _ _ (T54.setTop (mkF m 131 #[d0, .val (.long x1), .second, d3, .val (.long x4), .second, .val (.long x6), .second, .val (.int x8), .val (.int x9), .val (.ref a_q18), .val (.ref a_q11_24), .unset] [(.int (F5 x4 x6 (6 : Int32))), (.int (6 : Int32)), (.ref a_q11_24)]))
    refine Ends.bastore X54 hx hZ e54 A49 o7 N54 g_q11_24 (g := (mkF m 131 #[d0, .val (.long x1), .second, d3, .val (.long x4), .second, .val (.long x6), .second, .val (.int x8), .val (.int x9), .val (.ref a_q18), .val (.ref a_q11_24), .unset] [(.int (F5 x4 x6 (6 : Int32))), (.int (6 : Int32)), (.ref a_q11_24)])) rfl rfl (hb hby at_131) (fun T55 h55 sl55 X55 e55 N55 W55 A55 => ?_)
    show Ends p e below s _ _ _ (T55.setTop (mkF m 132 #[d0, .val (.long x1), .second, d3, .val (.long x4), .second, .val (.long x6), .second, .val (.int x8), .val (.int x9), .val (.ref a_q18), .val (.ref a_q11_24), .unset] []))
    have E56 := E50.wr W55
    have Fd57 := Fd51.other W55 (Or.inl ne_q18_q11_24)
    have Fd58 := Fd52.other W55 (Or.inl ne_q18_q11_24)
    have Z59 : n0 ≤ h55.size := W55.size.symm ▸ Z53
    refine Ends.step (u' := (T55.setTop (mkF m 134 #[d0, .val (.long x1), .second, d3, .val (.long x4), .second, .val (.long x6), .second, .val (.int x8), .val (.int x9), .val (.ref a_q18), .val (.ref a_q11_24), .unset] [(.ref a_q11_24)]))) ?_ (fun _ k => XS.aload X55.here hx rfl (hb hby at_132) rfl rfl k)
    refine Ends.step (u' := (T55.setTop (mkF m 136 #[d0, .val (.long x1), .second, d3, .val (.long x4), .second, .val (.long x6), .second, .val (.int x8), .val (.int x9), .val (.ref a_q18), .val (.ref a_q11_24), .unset] [(.int (7 : Int32)), (.ref a_q11_24)]))) ?_ (fun _ k => XT.bipushV X55.here hx rfl (7 : Int32) (hb hby at_134) rfl k)
    refine Ends.step (u' := (T55.setTop (mkF m 138 #[d0, .val (.long x1), .second, d3, .val (.long x4), .second, .val (.long x6), .second, .val (.int x8), .val (.int x9), .val (.ref a_q18), .val (.ref a_q11_24), .unset] [(.long x4), (.int (7 : Int32)), (.ref a_q11_24)]))) ?_ (fun _ k => XT.lload X55.here hx rfl (hb hby at_136) rfl k)
    refine Ends.step (u' := (T55.setTop (mkF m 140 #[d0, .val (.long x1), .second, d3, .val (.long x4), .second, .val (.long x6), .second, .val (.int x8), .val (.int x9), .val (.ref a_q18), .val (.ref a_q11_24), .unset] [(.long x6), (.long x4), (.int (7 : Int32)), (.ref a_q11_24)]))) ?_ (fun _ k => XT.lload X55.here hx rfl (hb hby at_138) rfl k)
    refine Ends.step (u' := (T55.setTop (mkF m 142 #[d0, .val (.long x1), .second, d3, .val (.long x4), .second, .val (.long x6), .second, .val (.int x8), .val (.int x9), .val (.ref a_q18), .val (.ref a_q11_24), .unset] [(.int (7 : Int32)), (.long x6), (.long x4), (.int (7 : Int32)), (.ref a_q11_24)]))) ?_ (fun _ k => XT.bipushV X55.here hx rfl (7 : Int32) (hb hby at_140) rfl k)
    refine Ends.callS X55 hx hZ hown (hw _ (List.mem_of_getElem? (i := 22) rfl)) (hw _ (List.mem_of_getElem? (i := 23) rfl)) (hw _ (List.mem_of_getElem? (i := 24) rfl)) (hw _ (List.mem_of_getElem? (i := 25) rfl)) (by decide) (rm5 l Z a0 hw x4 x6 (7 : Int32) h55 n0 Z59) 2 (by decide) (by decide) e55  (g := (mkF m 142 #[d0, .val (.long x1), .second, d3, .val (.long x4), .second, .val (.long x6), .second, .val (.int x8), .val (.int x9), .val (.ref a_q18), .val (.ref a_q11_24), .unset] [(.int (7 : Int32)), (.long x6), (.long x4), (.int (7 : Int32)), (.ref a_q11_24)])) rfl (by rw [hml]; rfl)  [(.long x4), (.long x6), (.int (7 : Int32))] [(.int (7 : Int32)), (.ref a_q11_24)] (lenOf pd_1 rfl) rfl (by show 2 * 0 + _ ≤ _; exact Nat.le_of_eq rfl) (hb hby at_142) rfl (by decide) (by decide) (fun v60 T60 L60 X60 hQ60 => ?_)
    obtain ⟨rfl, Nq60, e60⟩ := hQ60
    have N60 := Fr.app N55 Nq60
    show Ends p e below s _ _ _ (T60.setTop (mkF m 145 #[d0, .val (.long x1), .second, d3, .val (.long x4), .second, .val (.long x6), .second, .val (.int x8), .val (.int x9), .val (.ref a_q18), .val (.ref a_q11_24), .unset] [(.int (F5 x4 x6 (7 : Int32))), (.int (7 : Int32)), (.ref a_q11_24)]))
    refine Ends.bastore X60 hx hZ e60 A55 o8 N60 g_q11_24 (g := (mkF m 145 #[d0, .val (.long x1), .second, d3, .val (.long x4), .second, .val (.long x6), .second, .val (.int x8), .val (.int x9), .val (.ref a_q18), .val (.ref a_q11_24), .unset] [(.int (F5 x4 x6 (7 : Int32))), (.int (7 : Int32)), (.ref a_q11_24)])) rfl rfl (hb hby at_145) (fun T61 h61 sl61 X61 e61 N61 W61 A61 => ?_)
    show Ends p e below s _ _ _ (T61.setTop (mkF m 146 #[d0, .val (.long x1), .second, d3, .val (.long x4), .second, .val (.long x6), .second, .val (.int x8), .val (.int x9), .val (.ref a_q18), .val (.ref a_q11_24), .unset] []))
    have E62 := E56.wr W61
    have Fd63 := Fd57.other W61 (Or.inl ne_q18_q11_24)
    have Fd64 := Fd58.other W61 (Or.inl ne_q18_q11_24)
    have Z65 : n0 ≤ h61.size := W61.size.symm ▸ Z59
    refine Ends.step (u' := (T61.setTop (mkF m 148 #[d0, .val (.long x1), .second, d3, .val (.long x4), .second, .val (.long x6), .second, .val (.int x8), .val (.int x9), .val (.ref a_q18), .val (.ref a_q11_24), .unset] [(.ref a_q11_24)]))) ?_ (fun _ k => XS.aload X61.here hx rfl (hb hby at_146) rfl rfl k)
    refine Ends.step (u' := (T61.setTop (mkF m 150 #[d0, .val (.long x1), .second, d3, .val (.long x4), .second, .val (.long x6), .second, .val (.int x8), .val (.int x9), .val (.ref a_q18), .val (.ref a_q11_24), .unset] [(.int (8 : Int32)), (.ref a_q11_24)]))) ?_ (fun _ k => XT.bipushV X61.here hx rfl (8 : Int32) (hb hby at_148) rfl k)
    refine Ends.step (u' := (T61.setTop (mkF m 152 #[d0, .val (.long x1), .second, d3, .val (.long x4), .second, .val (.long x6), .second, .val (.int x8), .val (.int x9), .val (.ref a_q18), .val (.ref a_q11_24), .unset] [(.long x4), (.int (8 : Int32)), (.ref a_q11_24)]))) ?_ (fun _ k => XT.lload X61.here hx rfl (hb hby at_150) rfl k)
    refine Ends.step (u' := (T61.setTop (mkF m 154 #[d0, .val (.long x1), .second, d3, .val (.long x4), .second, .val (.long x6), .second, .val (.int x8), .val (.int x9), .val (.ref a_q18), .val (.ref a_q11_24), .unset] [(.long x6), (.long x4), (.int (8 : Int32)), (.ref a_q11_24)]))) ?_ (fun _ k => XT.lload X61.here hx rfl (hb hby at_152) rfl k)
    refine Ends.step (u' := (T61.setTop (mkF m 156 #[d0, .val (.long x1), .second, d3, .val (.long x4), .second, .val (.long x6), .second, .val (.int x8), .val (.int x9), .val (.ref a_q18), .val (.ref a_q11_24), .unset] [(.int (8 : Int32)), (.long x6), (.long x4), (.int (8 : Int32)), (.ref a_q11_24)]))) ?_ (fun _ k => XT.bipushV X61.here hx rfl (8 : Int32) (hb hby at_154) rfl k)
    refine Ends.callS X61 hx hZ hown (hw _ (List.mem_of_getElem? (i := 22) rfl)) (hw _ (List.mem_of_getElem? (i := 23) rfl)) (hw _ (List.mem_of_getElem? (i := 24) rfl)) (hw _ (List.mem_of_getElem? (i := 25) rfl)) (by decide) (rm5 l Z a0 hw x4 x6 (8 : Int32) h61 n0 Z65) 2 (by decide) (by decide) e61  (g := (mkF m 156 #[d0, .val (.long x1), .second, d3, .val (.long x4), .second, .val (.long x6), .second, .val (.int x8), .val (.int x9), .val (.ref a_q18), .val (.ref a_q11_24), .unset] [(.int (8 : Int32)), (.long x6), (.long x4), (.int (8 : Int32)), (.ref a_q11_24)])) rfl (by rw [hml]; rfl)  [(.long x4), (.long x6), (.int (8 : Int32))] [(.int (8 : Int32)), (.ref a_q11_24)] (lenOf pd_1 rfl) rfl (by show 2 * 0 + _ ≤ _; exact Nat.le_of_eq rfl) (hb hby at_156) rfl (by decide) (by decide) (fun v66 T66 L66 X66 hQ66 => ?_)
    obtain ⟨rfl, Nq66, e66⟩ := hQ66
    have N66 := Fr.app N61 Nq66
    show Ends p e below s _ _ _ (T66.setTop (mkF m 159 #[d0, .val (.long x1), .second, d3, .val (.long x4), .second, .val (.long x6), .second, .val (.int x8), .val (.int x9), .val (.ref a_q18), .val (.ref a_q11_24), .unset] [(.int (F5 x4 x6 (8 : Int32))), (.int (8 : Int32)), (.ref a_q11_24)]))
    refine Ends.bastore X66 hx hZ e66 A61 o9 N66 g_q11_24 (g := (mkF m 159 #[d0, .val (.long x1), .second, d3, .val (.long x4), .second, .val (.long x6), .second, .val (.int x8), .val (.int x9), .val (.ref a_q18), .val (.ref a_q11_24), .unset] [(.int (F5 x4 x6 (8 : Int32))), (.int (8 : Int32)), (.ref a_q11_24)])) rfl rfl (hb hby at_159) (fun T67 h67 sl67 X67 e67 N67 W67 A67 => ?_)
    show Ends p e below s _ _ _ (T67.setTop (mkF m 160 #[d0, .val (.long x1), .second, d3, .val (.long x4), .second, .val (.long x6), .second, .val (.int x8), .val (.int x9), .val (.ref a_q18), .val (.ref a_q11_24), .unset] []))
    have E68 := E62.wr W67
    have Fd69 := Fd63.other W67 (Or.inl ne_q18_q11_24)
    have Fd70 := Fd64.other W67 (Or.inl ne_q18_q11_24)
    have Z71 : n0 ≤ h67.size := W67.size.symm ▸ Z65
    refine Ends.step (u' := (T67.setTop (mkF m 162 #[d0, .val (.long x1), .second, d3, .val (.long x4), .second, .val (.long x6), .second, .val (.int x8), .val (.int x9), .val (.ref a_q18), .val (.ref a_q11_24), .unset] [(.ref a_q11_24)]))) ?_ (fun _ k => XS.aload X67.here hx rfl (hb hby at_160) rfl rfl k)
    refine Ends.step (u' := (T67.setTop (mkF m 164 #[d0, .val (.long x1), .second, d3, .val (.long x4), .second, .val (.long x6), .second, .val (.int x8), .val (.int x9), .val (.ref a_q18), .val (.ref a_q11_24), .unset] [(.int (9 : Int32)), (.ref a_q11_24)]))) ?_ (fun _ k => XT.bipushV X67.here hx rfl (9 : Int32) (hb hby at_162) rfl k)
    refine Ends.step (u' := (T67.setTop (mkF m 166 #[d0, .val (.long x1), .second, d3, .val (.long x4), .second, .val (.long x6), .second, .val (.int x8), .val (.int x9), .val (.ref a_q18), .val (.ref a_q11_24), .unset] [(.long x4), (.int (9 : Int32)), (.ref a_q11_24)]))) ?_ (fun _ k => XT.lload X67.here hx rfl (hb hby at_164) rfl k)
    refine Ends.step (u' := (T67.setTop (mkF m 168 #[d0, .val (.long x1), .second, d3, .val (.long x4), .second, .val (.long x6), .second, .val (.int x8), .val (.int x9), .val (.ref a_q18), .val (.ref a_q11_24), .unset] [(.long x6), (.long x4), (.int (9 : Int32)), (.ref a_q11_24)]))) ?_ (fun _ k => XT.lload X67.here hx rfl (hb hby at_166) rfl k)
    refine Ends.step (u' := (T67.setTop (mkF m 170 #[d0, .val (.long x1), .second, d3, .val (.long x4), .second, .val (.long x6), .second, .val (.int x8), .val (.int x9), .val (.ref a_q18), .val (.ref a_q11_24), .unset] [(.int (9 : Int32)), (.long x6), (.long x4), (.int (9 : Int32)), (.ref a_q11_24)]))) ?_ (fun _ k => XT.bipushV X67.here hx rfl (9 : Int32) (hb hby at_168) rfl k)
    refine Ends.callS X67 hx hZ hown (hw _ (List.mem_of_getElem? (i := 22) rfl)) (hw _ (List.mem_of_getElem? (i := 23) rfl)) (hw _ (List.mem_of_getElem? (i := 24) rfl)) (hw _ (List.mem_of_getElem? (i := 25) rfl)) (by decide) (rm5 l Z a0 hw x4 x6 (9 : Int32) h67 n0 Z71) 2 (by decide) (by decide) e67  (g := (mkF m 170 #[d0, .val (.long x1), .second, d3, .val (.long x4), .second, .val (.long x6), .second, .val (.int x8), .val (.int x9), .val (.ref a_q18), .val (.ref a_q11_24), .unset] [(.int (9 : Int32)), (.long x6), (.long x4), (.int (9 : Int32)), (.ref a_q11_24)])) rfl (by rw [hml]; rfl)  [(.long x4), (.long x6), (.int (9 : Int32))] [(.int (9 : Int32)), (.ref a_q11_24)] (lenOf pd_1 rfl) rfl (by show 2 * 0 + _ ≤ _; exact Nat.le_of_eq rfl) (hb hby at_170) rfl (by decide) (by decide) (fun v72 T72 L72 X72 hQ72 => ?_)
    obtain ⟨rfl, Nq72, e72⟩ := hQ72
    have N72 := Fr.app N67 Nq72
    show Ends p e below s _ _ _ (T72.setTop (mkF m 173 #[d0, .val (.long x1), .second, d3, .val (.long x4), .second, .val (.long x6), .second, .val (.int x8), .val (.int x9), .val (.ref a_q18), .val (.ref a_q11_24), .unset] [(.int (F5 x4 x6 (9 : Int32))), (.int (9 : Int32)), (.ref a_q11_24)]))
    refine Ends.bastore X72 hx hZ e72 A67 o10 N72 g_q11_24 (g := (mkF m 173 #[d0, .val (.long x1), .second, d3, .val (.long x4), .second, .val (.long x6), .second, .val (.int x8), .val (.int x9), .val (.ref a_q18), .val (.ref a_q11_24), .unset] [(.int (F5 x4 x6 (9 : Int32))), (.int (9 : Int32)), (.ref a_q11_24)])) rfl rfl (hb hby at_173) (fun T73 h73 sl73 X73 e73 N73 W73 A73 => ?_)
    show Ends p e below s _ _ _ (T73.setTop (mkF m 174 #[d0, .val (.long x1), .second, d3, .val (.long x4), .second, .val (.long x6), .second, .val (.int x8), .val (.int x9), .val (.ref a_q18), .val (.ref a_q11_24), .unset] []))
    have E74 := E68.wr W73
    have Fd75 := Fd69.other W73 (Or.inl ne_q18_q11_24)
    have Fd76 := Fd70.other W73 (Or.inl ne_q18_q11_24)
    have Z77 : n0 ≤ h73.size := W73.size.symm ▸ Z71
    refine Ends.step (u' := (T73.setTop (mkF m 176 #[d0, .val (.long x1), .second, d3, .val (.long x4), .second, .val (.long x6), .second, .val (.int x8), .val (.int x9), .val (.ref a_q18), .val (.ref a_q11_24), .unset] [(.ref a_q11_24)]))) ?_ (fun _ k => XS.aload X73.here hx rfl (hb hby at_174) rfl rfl k)
    refine Ends.step (u' := (T73.setTop (mkF m 178 #[d0, .val (.long x1), .second, d3, .val (.long x4), .second, .val (.long x6), .second, .val (.int x8), .val (.int x9), .val (.ref a_q18), .val (.ref a_q11_24), .unset] [(.int (10 : Int32)), (.ref a_q11_24)]))) ?_ (fun _ k => XT.bipushV X73.here hx rfl (10 : Int32) (hb hby at_176) rfl k)
    refine Ends.step (u' := (T73.setTop (mkF m 180 #[d0, .val (.long x1), .second, d3, .val (.long x4), .second, .val (.long x6), .second, .val (.int x8), .val (.int x9), .val (.ref a_q18), .val (.ref a_q11_24), .unset] [(.long x4), (.int (10 : Int32)), (.ref a_q11_24)]))) ?_ (fun _ k => XT.lload X73.here hx rfl (hb hby at_178) rfl k)
    refine Ends.step (u' := (T73.setTop (mkF m 182 #[d0, .val (.long x1), .second, d3, .val (.long x4), .second, .val (.long x6), .second, .val (.int x8), .val (.int x9), .val (.ref a_q18), .val (.ref a_q11_24), .unset] [(.long x6), (.long x4), (.int (10 : Int32)), (.ref a_q11_24)]))) ?_ (fun _ k => XT.lload X73.here hx rfl (hb hby at_180) rfl k)
    refine Ends.step (u' := (T73.setTop (mkF m 184 #[d0, .val (.long x1), .second, d3, .val (.long x4), .second, .val (.long x6), .second, .val (.int x8), .val (.int x9), .val (.ref a_q18), .val (.ref a_q11_24), .unset] [(.int (10 : Int32)), (.long x6), (.long x4), (.int (10 : Int32)), (.ref a_q11_24)]))) ?_ (fun _ k => XT.bipushV X73.here hx rfl (10 : Int32) (hb hby at_182) rfl k)
    refine Ends.callS X73 hx hZ hown (hw _ (List.mem_of_getElem? (i := 22) rfl)) (hw _ (List.mem_of_getElem? (i := 23) rfl)) (hw _ (List.mem_of_getElem? (i := 24) rfl)) (hw _ (List.mem_of_getElem? (i := 25) rfl)) (by decide) (rm5 l Z a0 hw x4 x6 (10 : Int32) h73 n0 Z77) 2 (by decide) (by decide) e73  (g := (mkF m 184 #[d0, .val (.long x1), .second, d3, .val (.long x4), .second, .val (.long x6), .second, .val (.int x8), .val (.int x9), .val (.ref a_q18), .val (.ref a_q11_24), .unset] [(.int (10 : Int32)), (.long x6), (.long x4), (.int (10 : Int32)), (.ref a_q11_24)])) rfl (by rw [hml]; rfl)  [(.long x4), (.long x6), (.int (10 : Int32))] [(.int (10 : Int32)), (.ref a_q11_24)] (lenOf pd_1 rfl) rfl (by show 2 * 0 + _ ≤ _; exact Nat.le_of_eq rfl) (hb hby at_184) rfl (by decide) (by decide) (fun v78 T78 L78 X78 hQ78 => ?_)
    obtain ⟨rfl, Nq78, e78⟩ := hQ78
    have N78 := Fr.app N73 Nq78
    show Ends p e below s _ _ _ (T78.setTop (mkF m 187 #[d0, .val (.long x1), .second, d3, .val (.long x4), .second, .val (.long x6), .second, .val (.int x8), .val (.int x9), .val (.ref a_q18), .val (.ref a_q11_24), .unset] [(.int (F5 x4 x6 (10 : Int32))), (.int (10 : Int32)), (.ref a_q11_24)]))
    refine Ends.bastore X78 hx hZ e78 A73 o11 N78 g_q11_24 (g := (mkF m 187 #[d0, .val (.long x1), .second, d3, .val (.long x4), .second, .val (.long x6), .second, .val (.int x8), .val (.int x9), .val (.ref a_q18), .val (.ref a_q11_24), .unset] [(.int (F5 x4 x6 (10 : Int32))), (.int (10 : Int32)), (.ref a_q11_24)])) rfl rfl (hb hby at_187) (fun T79 h79 sl79 X79 e79 N79 W79 A79 => ?_)
    show Ends p e below s _ _ _ (T79.setTop (mkF m 188 #[d0, .val (.long x1), .second, d3, .val (.long x4), .second, .val (.long x6), .second, .val (.int x8), .val (.int x9), .val (.ref a_q18), .val (.ref a_q11_24), .unset] []))
    have E80 := E74.wr W79
    have Fd81 := Fd75.other W79 (Or.inl ne_q18_q11_24)
    have Fd82 := Fd76.other W79 (Or.inl ne_q18_q11_24)
    have Z83 : n0 ≤ h79.size := W79.size.symm ▸ Z77
    refine Ends.step (u' := (T79.setTop (mkF m 190 #[d0, .val (.long x1), .second, d3, .val (.long x4), .second, .val (.long x6), .second, .val (.int x8), .val (.int x9), .val (.ref a_q18), .val (.ref a_q11_24), .unset] [(.ref a_q11_24)]))) ?_ (fun _ k => XS.aload X79.here hx rfl (hb hby at_188) rfl rfl k)
    refine Ends.step (u' := (T79.setTop (mkF m 192 #[d0, .val (.long x1), .second, d3, .val (.long x4), .second, .val (.long x6), .second, .val (.int x8), .val (.int x9), .val (.ref a_q18), .val (.ref a_q11_24), .unset] [(.int (11 : Int32)), (.ref a_q11_24)]))) ?_ (fun _ k => XT.bipushV X79.here hx rfl (11 : Int32) (hb hby at_190) rfl k)
    refine Ends.step (u' := (T79.setTop (mkF m 194 #[d0, .val (.long x1), .second, d3, .val (.long x4), .second, .val (.long x6), .second, .val (.int x8), .val (.int x9), .val (.ref a_q18), .val (.ref a_q11_24), .unset] [(.long x4), (.int (11 : Int32)), (.ref a_q11_24)]))) ?_ (fun _ k => XT.lload X79.here hx rfl (hb hby at_192) rfl k)
    refine Ends.step (u' := (T79.setTop (mkF m 196 #[d0, .val (.long x1), .second, d3, .val (.long x4), .second, .val (.long x6), .second, .val (.int x8), .val (.int x9), .val (.ref a_q18), .val (.ref a_q11_24), .unset] [(.long x6), (.long x4), (.int (11 : Int32)), (.ref a_q11_24)]))) ?_ (fun _ k => XT.lload X79.here hx rfl (hb hby at_194) rfl k)
    refine Ends.step (u' := (T79.setTop (mkF m 198 #[d0, .val (.long x1), .second, d3, .val (.long x4), .second, .val (.long x6), .second, .val (.int x8), .val (.int x9), .val (.ref a_q18), .val (.ref a_q11_24), .unset] [(.int (11 : Int32)), (.long x6), (.long x4), (.int (11 : Int32)), (.ref a_q11_24)]))) ?_ (fun _ k => XT.bipushV X79.here hx rfl (11 : Int32) (hb hby at_196) rfl k)
    refine Ends.callS X79 hx hZ hown (hw _ (List.mem_of_getElem? (i := 22) rfl)) (hw _ (List.mem_of_getElem? (i := 23) rfl)) (hw _ (List.mem_of_getElem? (i := 24) rfl)) (hw _ (List.mem_of_getElem? (i := 25) rfl)) (by decide) (rm5 l Z a0 hw x4 x6 (11 : Int32) h79 n0 Z83) 2 (by decide) (by decide) e79  (g := (mkF m 198 #[d0, .val (.long x1), .second, d3, .val (.long x4), .second, .val (.long x6), .second, .val (.int x8), .val (.int x9), .val (.ref a_q18), .val (.ref a_q11_24), .unset] [(.int (11 : Int32)), (.long x6), (.long x4), (.int (11 : Int32)), (.ref a_q11_24)])) rfl (by rw [hml]; rfl)  [(.long x4), (.long x6), (.int (11 : Int32))] [(.int (11 : Int32)), (.ref a_q11_24)] (lenOf pd_1 rfl) rfl (by show 2 * 0 + _ ≤ _; exact Nat.le_of_eq rfl) (hb hby at_198) rfl (by decide) (by decide) (fun v84 T84 L84 X84 hQ84 => ?_)
    obtain ⟨rfl, Nq84, e84⟩ := hQ84
    have N84 := Fr.app N79 Nq84
    show Ends p e below s _ _ _ (T84.setTop (mkF m 201 #[d0, .val (.long x1), .second, d3, .val (.long x4), .second, .val (.long x6), .second, .val (.int x8), .val (.int x9), .val (.ref a_q18), .val (.ref a_q11_24), .unset] [(.int (F5 x4 x6 (11 : Int32))), (.int (11 : Int32)), (.ref a_q11_24)]))
    refine Ends.bastore X84 hx hZ e84 A79 o12 N84 g_q11_24 (g := (mkF m 201 #[d0, .val (.long x1), .second, d3, .val (.long x4), .second, .val (.long x6), .second, .val (.int x8), .val (.int x9), .val (.ref a_q18), .val (.ref a_q11_24), .unset] [(.int (F5 x4 x6 (11 : Int32))), (.int (11 : Int32)), (.ref a_q11_24)])) rfl rfl (hb hby at_201) (fun T85 h85 sl85 X85 e85 N85 W85 A85 => ?_)
    show Ends p e below s _ _ _ (T85.setTop (mkF m 202 #[d0, .val (.long x1), .second, d3, .val (.long x4), .second, .val (.long x6), .second, .val (.int x8), .val (.int x9), .val (.ref a_q18), .val (.ref a_q11_24), .unset] []))
    have E86 := E80.wr W85
    have Fd87 := Fd81.other W85 (Or.inl ne_q18_q11_24)
    have Fd88 := Fd82.other W85 (Or.inl ne_q18_q11_24)
    have Z89 : n0 ≤ h85.size := W85.size.symm ▸ Z83
    refine Ends.step (u' := (T85.setTop (mkF m 204 #[d0, .val (.long x1), .second, d3, .val (.long x4), .second, .val (.long x6), .second, .val (.int x8), .val (.int x9), .val (.ref a_q18), .val (.ref a_q11_24), .unset] [(.ref a_q11_24)]))) ?_ (fun _ k => XS.aload X85.here hx rfl (hb hby at_202) rfl rfl k)
    refine Ends.step (u' := (T85.setTop (mkF m 206 #[d0, .val (.long x1), .second, d3, .val (.long x4), .second, .val (.long x6), .second, .val (.int x8), .val (.int x9), .val (.ref a_q18), .val (.ref a_q11_24), .unset] [(.int (12 : Int32)), (.ref a_q11_24)]))) ?_ (fun _ k => XT.bipushV X85.here hx rfl (12 : Int32) (hb hby at_204) rfl k)
    refine Ends.step (u' := (T85.setTop (mkF m 208 #[d0, .val (.long x1), .second, d3, .val (.long x4), .second, .val (.long x6), .second, .val (.int x8), .val (.int x9), .val (.ref a_q18), .val (.ref a_q11_24), .unset] [(.long x4), (.int (12 : Int32)), (.ref a_q11_24)]))) ?_ (fun _ k => XT.lload X85.here hx rfl (hb hby at_206) rfl k)
    refine Ends.step (u' := (T85.setTop (mkF m 210 #[d0, .val (.long x1), .second, d3, .val (.long x4), .second, .val (.long x6), .second, .val (.int x8), .val (.int x9), .val (.ref a_q18), .val (.ref a_q11_24), .unset] [(.long x6), (.long x4), (.int (12 : Int32)), (.ref a_q11_24)]))) ?_ (fun _ k => XT.lload X85.here hx rfl (hb hby at_208) rfl k)
    refine Ends.step (u' := (T85.setTop (mkF m 212 #[d0, .val (.long x1), .second, d3, .val (.long x4), .second, .val (.long x6), .second, .val (.int x8), .val (.int x9), .val (.ref a_q18), .val (.ref a_q11_24), .unset] [(.int (12 : Int32)), (.long x6), (.long x4), (.int (12 : Int32)), (.ref a_q11_24)]))) ?_ (fun _ k => XT.bipushV X85.here hx rfl (12 : Int32) (hb hby at_210) rfl k)
    refine Ends.callS X85 hx hZ hown (hw _ (List.mem_of_getElem? (i := 22) rfl)) (hw _ (List.mem_of_getElem? (i := 23) rfl)) (hw _ (List.mem_of_getElem? (i := 24) rfl)) (hw _ (List.mem_of_getElem? (i := 25) rfl)) (by decide) (rm5 l Z a0 hw x4 x6 (12 : Int32) h85 n0 Z89) 2 (by decide) (by decide) e85  (g := (mkF m 212 #[d0, .val (.long x1), .second, d3, .val (.long x4), .second, .val (.long x6), .second, .val (.int x8), .val (.int x9), .val (.ref a_q18), .val (.ref a_q11_24), .unset] [(.int (12 : Int32)), (.long x6), (.long x4), (.int (12 : Int32)), (.ref a_q11_24)])) rfl (by rw [hml]; rfl)  [(.long x4), (.long x6), (.int (12 : Int32))] [(.int (12 : Int32)), (.ref a_q11_24)] (lenOf pd_1 rfl) rfl (by show 2 * 0 + _ ≤ _; exact Nat.le_of_eq rfl) (hb hby at_212) rfl (by decide) (by decide) (fun v90 T90 L90 X90 hQ90 => ?_)
    obtain ⟨rfl, Nq90, e90⟩ := hQ90
    have N90 := Fr.app N85 Nq90
    show Ends p e below s _ _ _ (T90.setTop (mkF m 215 #[d0, .val (.long x1), .second, d3, .val (.long x4), .second, .val (.long x6), .second, .val (.int x8), .val (.int x9), .val (.ref a_q18), .val (.ref a_q11_24), .unset] [(.int (F5 x4 x6 (12 : Int32))), (.int (12 : Int32)), (.ref a_q11_24)]))
    refine Ends.bastore X90 hx hZ e90 A85 o13 N90 g_q11_24 (g := (mkF m 215 #[d0, .val (.long x1), .second, d3, .val (.long x4), .second, .val (.long x6), .second, .val (.int x8), .val (.int x9), .val (.ref a_q18), .val (.ref a_q11_24), .unset] [(.int (F5 x4 x6 (12 : Int32))), (.int (12 : Int32)), (.ref a_q11_24)])) rfl rfl (hb hby at_215) (fun T91 h91 sl91 X91 e91 N91 W91 A91 => ?_)
    show Ends p e below s _ _ _ (T91.setTop (mkF m 216 #[d0, .val (.long x1), .second, d3, .val (.long x4), .second, .val (.long x6), .second, .val (.int x8), .val (.int x9), .val (.ref a_q18), .val (.ref a_q11_24), .unset] []))
    have E92 := E86.wr W91
    have Fd93 := Fd87.other W91 (Or.inl ne_q18_q11_24)
    have Fd94 := Fd88.other W91 (Or.inl ne_q18_q11_24)
    have Z95 : n0 ≤ h91.size := W91.size.symm ▸ Z89
    refine Ends.step (u' := (T91.setTop (mkF m 218 #[d0, .val (.long x1), .second, d3, .val (.long x4), .second, .val (.long x6), .second, .val (.int x8), .val (.int x9), .val (.ref a_q18), .val (.ref a_q11_24), .unset] [(.ref a_q11_24)]))) ?_ (fun _ k => XS.aload X91.here hx rfl (hb hby at_216) rfl rfl k)
    refine Ends.step (u' := (T91.setTop (mkF m 220 #[d0, .val (.long x1), .second, d3, .val (.long x4), .second, .val (.long x6), .second, .val (.int x8), .val (.int x9), .val (.ref a_q18), .val (.ref a_q11_24), .unset] [(.int (13 : Int32)), (.ref a_q11_24)]))) ?_ (fun _ k => XT.bipushV X91.here hx rfl (13 : Int32) (hb hby at_218) rfl k)
    refine Ends.step (u' := (T91.setTop (mkF m 222 #[d0, .val (.long x1), .second, d3, .val (.long x4), .second, .val (.long x6), .second, .val (.int x8), .val (.int x9), .val (.ref a_q18), .val (.ref a_q11_24), .unset] [(.long x4), (.int (13 : Int32)), (.ref a_q11_24)]))) ?_ (fun _ k => XT.lload X91.here hx rfl (hb hby at_220) rfl k)
    refine Ends.step (u' := (T91.setTop (mkF m 224 #[d0, .val (.long x1), .second, d3, .val (.long x4), .second, .val (.long x6), .second, .val (.int x8), .val (.int x9), .val (.ref a_q18), .val (.ref a_q11_24), .unset] [(.long x6), (.long x4), (.int (13 : Int32)), (.ref a_q11_24)]))) ?_ (fun _ k => XT.lload X91.here hx rfl (hb hby at_222) rfl k)
    refine Ends.step (u' := (T91.setTop (mkF m 226 #[d0, .val (.long x1), .second, d3, .val (.long x4), .second, .val (.long x6), .second, .val (.int x8), .val (.int x9), .val (.ref a_q18), .val (.ref a_q11_24), .unset] [(.int (13 : Int32)), (.long x6), (.long x4), (.int (13 : Int32)), (.ref a_q11_24)]))) ?_ (fun _ k => XT.bipushV X91.here hx rfl (13 : Int32) (hb hby at_224) rfl k)
    refine Ends.callS X91 hx hZ hown (hw _ (List.mem_of_getElem? (i := 22) rfl)) (hw _ (List.mem_of_getElem? (i := 23) rfl)) (hw _ (List.mem_of_getElem? (i := 24) rfl)) (hw _ (List.mem_of_getElem? (i := 25) rfl)) (by decide) (rm5 l Z a0 hw x4 x6 (13 : Int32) h91 n0 Z95) 2 (by decide) (by decide) e91  (g := (mkF m 226 #[d0, .val (.long x1), .second, d3, .val (.long x4), .second, .val (.long x6), .second, .val (.int x8), .val (.int x9), .val (.ref a_q18), .val (.ref a_q11_24), .unset] [(.int (13 : Int32)), (.long x6), (.long x4), (.int (13 : Int32)), (.ref a_q11_24)])) rfl (by rw [hml]; rfl)  [(.long x4), (.long x6), (.int (13 : Int32))] [(.int (13 : Int32)), (.ref a_q11_24)] (lenOf pd_1 rfl) rfl (by show 2 * 0 + _ ≤ _; exact Nat.le_of_eq rfl) (hb hby at_226) rfl (by decide) (by decide) (fun v96 T96 L96 X96 hQ96 => ?_)
    obtain ⟨rfl, Nq96, e96⟩ := hQ96
    have N96 := Fr.app N91 Nq96
    show Ends p e below s _ _ _ (T96.setTop (mkF m 229 #[d0, .val (.long x1), .second, d3, .val (.long x4), .second, .val (.long x6), .second, .val (.int x8), .val (.int x9), .val (.ref a_q18), .val (.ref a_q11_24), .unset] [(.int (F5 x4 x6 (13 : Int32))), (.int (13 : Int32)), (.ref a_q11_24)]))
    refine Ends.bastore X96 hx hZ e96 A91 o14 N96 g_q11_24 (g := (mkF m 229 #[d0, .val (.long x1), .second, d3, .val (.long x4), .second, .val (.long x6), .second, .val (.int x8), .val (.int x9), .val (.ref a_q18), .val (.ref a_q11_24), .unset] [(.int (F5 x4 x6 (13 : Int32))), (.int (13 : Int32)), (.ref a_q11_24)])) rfl rfl (hb hby at_229) (fun T97 h97 sl97 X97 e97 N97 W97 A97 => ?_)
    show Ends p e below s _ _ _ (T97.setTop (mkF m 230 #[d0, .val (.long x1), .second, d3, .val (.long x4), .second, .val (.long x6), .second, .val (.int x8), .val (.int x9), .val (.ref a_q18), .val (.ref a_q11_24), .unset] []))
    have E98 := E92.wr W97
    have Fd99 := Fd93.other W97 (Or.inl ne_q18_q11_24)
    have Fd100 := Fd94.other W97 (Or.inl ne_q18_q11_24)
    have Z101 : n0 ≤ h97.size := W97.size.symm ▸ Z95
    refine Ends.step (u' := (T97.setTop (mkF m 232 #[d0, .val (.long x1), .second, d3, .val (.long x4), .second, .val (.long x6), .second, .val (.int x8), .val (.int x9), .val (.ref a_q18), .val (.ref a_q11_24), .unset] [(.ref a_q11_24)]))) ?_ (fun _ k => XS.aload X97.here hx rfl (hb hby at_230) rfl rfl k)
    refine Ends.step (u' := (T97.setTop (mkF m 234 #[d0, .val (.long x1), .second, d3, .val (.long x4), .second, .val (.long x6), .second, .val (.int x8), .val (.int x9), .val (.ref a_q18), .val (.ref a_q11_24), .unset] [(.int (14 : Int32)), (.ref a_q11_24)]))) ?_ (fun _ k => XT.bipushV X97.here hx rfl (14 : Int32) (hb hby at_232) rfl k)
    refine Ends.step (u' := (T97.setTop (mkF m 236 #[d0, .val (.long x1), .second, d3, .val (.long x4), .second, .val (.long x6), .second, .val (.int x8), .val (.int x9), .val (.ref a_q18), .val (.ref a_q11_24), .unset] [(.long x4), (.int (14 : Int32)), (.ref a_q11_24)]))) ?_ (fun _ k => XT.lload X97.here hx rfl (hb hby at_234) rfl k)
    refine Ends.step (u' := (T97.setTop (mkF m 238 #[d0, .val (.long x1), .second, d3, .val (.long x4), .second, .val (.long x6), .second, .val (.int x8), .val (.int x9), .val (.ref a_q18), .val (.ref a_q11_24), .unset] [(.long x6), (.long x4), (.int (14 : Int32)), (.ref a_q11_24)]))) ?_ (fun _ k => XT.lload X97.here hx rfl (hb hby at_236) rfl k)
    refine Ends.step (u' := (T97.setTop (mkF m 240 #[d0, .val (.long x1), .second, d3, .val (.long x4), .second, .val (.long x6), .second, .val (.int x8), .val (.int x9), .val (.ref a_q18), .val (.ref a_q11_24), .unset] [(.int (14 : Int32)), (.long x6), (.long x4), (.int (14 : Int32)), (.ref a_q11_24)]))) ?_ (fun _ k => XT.bipushV X97.here hx rfl (14 : Int32) (hb hby at_238) rfl k)
    refine Ends.callS X97 hx hZ hown (hw _ (List.mem_of_getElem? (i := 22) rfl)) (hw _ (List.mem_of_getElem? (i := 23) rfl)) (hw _ (List.mem_of_getElem? (i := 24) rfl)) (hw _ (List.mem_of_getElem? (i := 25) rfl)) (by decide) (rm5 l Z a0 hw x4 x6 (14 : Int32) h97 n0 Z101) 2 (by decide) (by decide) e97  (g := (mkF m 240 #[d0, .val (.long x1), .second, d3, .val (.long x4), .second, .val (.long x6), .second, .val (.int x8), .val (.int x9), .val (.ref a_q18), .val (.ref a_q11_24), .unset] [(.int (14 : Int32)), (.long x6), (.long x4), (.int (14 : Int32)), (.ref a_q11_24)])) rfl (by rw [hml]; rfl)  [(.long x4), (.long x6), (.int (14 : Int32))] [(.int (14 : Int32)), (.ref a_q11_24)] (lenOf pd_1 rfl) rfl (by show 2 * 0 + _ ≤ _; exact Nat.le_of_eq rfl) (hb hby at_240) rfl (by decide) (by decide) (fun v102 T102 L102 X102 hQ102 => ?_)
    obtain ⟨rfl, Nq102, e102⟩ := hQ102
    have N102 := Fr.app N97 Nq102
    show Ends p e below s _ _ _ (T102.setTop (mkF m 243 #[d0, .val (.long x1), .second, d3, .val (.long x4), .second, .val (.long x6), .second, .val (.int x8), .val (.int x9), .val (.ref a_q18), .val (.ref a_q11_24), .unset] [(.int (F5 x4 x6 (14 : Int32))), (.int (14 : Int32)), (.ref a_q11_24)]))
    refine Ends.bastore X102 hx hZ e102 A97 o15 N102 g_q11_24 (g := (mkF m 243 #[d0, .val (.long x1), .second, d3, .val (.long x4), .second, .val (.long x6), .second, .val (.int x8), .val (.int x9), .val (.ref a_q18), .val (.ref a_q11_24), .unset] [(.int (F5 x4 x6 (14 : Int32))), (.int (14 : Int32)), (.ref a_q11_24)])) rfl rfl (hb hby at_243) (fun T103 h103 sl103 X103 e103 N103 W103 A103 => ?_)
    show Ends p e below s _ _ _ (T103.setTop (mkF m 244 #[d0, .val (.long x1), .second, d3, .val (.long x4), .second, .val (.long x6), .second, .val (.int x8), .val (.int x9), .val (.ref a_q18), .val (.ref a_q11_24), .unset] []))
    have E104 := E98.wr W103
    have Fd105 := Fd99.other W103 (Or.inl ne_q18_q11_24)
    have Fd106 := Fd100.other W103 (Or.inl ne_q18_q11_24)
    have Z107 : n0 ≤ h103.size := W103.size.symm ▸ Z101
    refine Ends.step (u' := (T103.setTop (mkF m 246 #[d0, .val (.long x1), .second, d3, .val (.long x4), .second, .val (.long x6), .second, .val (.int x8), .val (.int x9), .val (.ref a_q18), .val (.ref a_q11_24), .unset] [(.ref a_q11_24)]))) ?_ (fun _ k => XS.aload X103.here hx rfl (hb hby at_244) rfl rfl k)
    refine Ends.step (u' := (T103.setTop (mkF m 248 #[d0, .val (.long x1), .second, d3, .val (.long x4), .second, .val (.long x6), .second, .val (.int x8), .val (.int x9), .val (.ref a_q18), .val (.ref a_q11_24), .unset] [(.int (15 : Int32)), (.ref a_q11_24)]))) ?_ (fun _ k => XT.bipushV X103.here hx rfl (15 : Int32) (hb hby at_246) rfl k)
    refine Ends.step (u' := (T103.setTop (mkF m 250 #[d0, .val (.long x1), .second, d3, .val (.long x4), .second, .val (.long x6), .second, .val (.int x8), .val (.int x9), .val (.ref a_q18), .val (.ref a_q11_24), .unset] [(.long x4), (.int (15 : Int32)), (.ref a_q11_24)]))) ?_ (fun _ k => XT.lload X103.here hx rfl (hb hby at_248) rfl k)
    refine Ends.step (u' := (T103.setTop (mkF m 252 #[d0, .val (.long x1), .second, d3, .val (.long x4), .second, .val (.long x6), .second, .val (.int x8), .val (.int x9), .val (.ref a_q18), .val (.ref a_q11_24), .unset] [(.long x6), (.long x4), (.int (15 : Int32)), (.ref a_q11_24)]))) ?_ (fun _ k => XT.lload X103.here hx rfl (hb hby at_250) rfl k)
    refine Ends.step (u' := (T103.setTop (mkF m 254 #[d0, .val (.long x1), .second, d3, .val (.long x4), .second, .val (.long x6), .second, .val (.int x8), .val (.int x9), .val (.ref a_q18), .val (.ref a_q11_24), .unset] [(.int (15 : Int32)), (.long x6), (.long x4), (.int (15 : Int32)), (.ref a_q11_24)]))) ?_ (fun _ k => XT.bipushV X103.here hx rfl (15 : Int32) (hb hby at_252) rfl k)
    refine Ends.callS X103 hx hZ hown (hw _ (List.mem_of_getElem? (i := 22) rfl)) (hw _ (List.mem_of_getElem? (i := 23) rfl)) (hw _ (List.mem_of_getElem? (i := 24) rfl)) (hw _ (List.mem_of_getElem? (i := 25) rfl)) (by decide) (rm5 l Z a0 hw x4 x6 (15 : Int32) h103 n0 Z107) 2 (by decide) (by decide) e103  (g := (mkF m 254 #[d0, .val (.long x1), .second, d3, .val (.long x4), .second, .val (.long x6), .second, .val (.int x8), .val (.int x9), .val (.ref a_q18), .val (.ref a_q11_24), .unset] [(.int (15 : Int32)), (.long x6), (.long x4), (.int (15 : Int32)), (.ref a_q11_24)])) rfl (by rw [hml]; rfl)  [(.long x4), (.long x6), (.int (15 : Int32))] [(.int (15 : Int32)), (.ref a_q11_24)] (lenOf pd_1 rfl) rfl (by show 2 * 0 + _ ≤ _; exact Nat.le_of_eq rfl) (hb hby at_254) rfl (by decide) (by decide) (fun v108 T108 L108 X108 hQ108 => ?_)
    obtain ⟨rfl, Nq108, e108⟩ := hQ108
    have N108 := Fr.app N103 Nq108
    show Ends p e below s _ _ _ (T108.setTop (mkF m 257 #[d0, .val (.long x1), .second, d3, .val (.long x4), .second, .val (.long x6), .second, .val (.int x8), .val (.int x9), .val (.ref a_q18), .val (.ref a_q11_24), .unset] [(.int (F5 x4 x6 (15 : Int32))), (.int (15 : Int32)), (.ref a_q11_24)]))
    refine Ends.bastore X108 hx hZ e108 A103 o16 N108 g_q11_24 (g := (mkF m 257 #[d0, .val (.long x1), .second, d3, .val (.long x4), .second, .val (.long x6), .second, .val (.int x8), .val (.int x9), .val (.ref a_q18), .val (.ref a_q11_24), .unset] [(.int (F5 x4 x6 (15 : Int32))), (.int (15 : Int32)), (.ref a_q11_24)])) rfl rfl (hb hby at_257) (fun T109 h109 sl109 X109 e109 N109 W109 A109 => ?_)
    show Ends p e below s _ _ _ (T109.setTop (mkF m 258 #[d0, .val (.long x1), .second, d3, .val (.long x4), .second, .val (.long x6), .second, .val (.int x8), .val (.int x9), .val (.ref a_q18), .val (.ref a_q11_24), .unset] []))
    have E110 := E104.wr W109
    have Fd111 := Fd105.other W109 (Or.inl ne_q18_q11_24)
    have Fd112 := Fd106.other W109 (Or.inl ne_q18_q11_24)
    have Z113 : n0 ≤ h109.size := W109.size.symm ▸ Z107
    refine Ends.step (u' := (T109.setTop (mkF m 260 #[d0, .val (.long x1), .second, d3, .val (.long x4), .second, .val (.long x6), .second, .val (.int x8), .val (.int x9), .val (.ref a_q18), .val (.ref a_q11_24), .unset] [(.ref a_q18)]))) ?_ (fun _ k => XS.aload X109.here hx rfl (hb hby at_258) rfl rfl k)
    refine Ends.step (u' := (T109.setTop (mkF m 262 #[d0, .val (.long x1), .second, d3, .val (.long x4), .second, .val (.long x6), .second, .val (.int x8), .val (.int x9), .val (.ref a_q18), .val (.ref a_q11_24), .unset] [(.int x8), (.ref a_q18)]))) ?_ (fun _ k => XS.iload X109.here hx rfl (hb hby at_260) rfl k)
    refine Ends.step (u' := (T109.setTop (mkF m 263 #[d0, .val (.long x1), .second, d3, .val (.long x4), .second, .val (.long x6), .second, .val (.int x8), .val (.int x9), .val (.ref a_q18), .val (.ref a_q11_24), .unset] [(.long x1), (.int x8), (.ref a_q18)]))) ?_ (fun _ k => XT.lloadN X109.here hx rfl (hb hby at_262) rfl k)
    refine Ends.step (u' := (T109.setTop (mkF m 265 #[d0, .val (.long x1), .second, d3, .val (.long x4), .second, .val (.long x6), .second, .val (.int x8), .val (.int x9), .val (.ref a_q18), .val (.ref a_q11_24), .unset] [(.int x9), (.long x1), (.int x8), (.ref a_q18)]))) ?_ (fun _ k => XS.iload X109.here hx rfl (hb hby at_263) rfl k)
    refine Ends.callV X109 hx hZ hown (hw _ (List.mem_of_getElem? (i := 26) rfl)) (hw _ (List.mem_of_getElem? (i := 27) rfl)) (hw _ (List.mem_of_getElem? (i := 29) rfl)) (hw _ (List.mem_of_getElem? (i := 28) rfl)) (hw _ (List.mem_of_getElem? (i := 3) rfl)) (hw _ (List.mem_of_getElem? (i := 30) rfl)) (by decide) (rm6 l Z a0 hw K x8 x1 x9 cq18_size cn_q11_24 (upd (upd (upd (upd (upd (upd (upd (upd (upd (upd (upd (upd (upd (upd (upd (upd cf_q11_24 0 (nar .byte (F5 x4 x6 (0 : Int32)))) 1 (nar .byte (F5 x4 x6 (1 : Int32)))) 2 (nar .byte (F5 x4 x6 (2 : Int32)))) 3 (nar .byte (F5 x4 x6 (3 : Int32)))) 4 (nar .byte (F5 x4 x6 (4 : Int32)))) 5 (nar .byte (F5 x4 x6 (5 : Int32)))) 6 (nar .byte (F5 x4 x6 (6 : Int32)))) 7 (nar .byte (F5 x4 x6 (7 : Int32)))) 8 (nar .byte (F5 x4 x6 (8 : Int32)))) 9 (nar .byte (F5 x4 x6 (9 : Int32)))) 10 (nar .byte (F5 x4 x6 (10 : Int32)))) 11 (nar .byte (F5 x4 x6 (11 : Int32)))) 12 (nar .byte (F5 x4 x6 (12 : Int32)))) 13 (nar .byte (F5 x4 x6 (13 : Int32)))) 14 (nar .byte (F5 x4 x6 (14 : Int32)))) 15 (nar .byte (F5 x4 x6 (15 : Int32)))) a_q18 a_q11_24 h109 n0 Z113 E110 Fd111 Fd112 A109 ne_q18_q11_24 g_q11_24 o17) 0 (by decide) (by decide) e109 a_q18 E110 (g := (mkF m 265 #[d0, .val (.long x1), .second, d3, .val (.long x4), .second, .val (.long x6), .second, .val (.int x8), .val (.int x9), .val (.ref a_q18), .val (.ref a_q11_24), .unset] [(.int x9), (.long x1), (.int x8), (.ref a_q18)])) rfl (by rw [hml]; rfl)  [(.int x8), (.long x1), (.int x9)] [] (lenOf pd_4 rfl) rfl (by show 2 * 0 + _ ≤ _; exact Nat.le_of_eq rfl) (hb hby at_265) rfl (by decide) (by decide) (fun v114 T114 L114 X114 hQ114 => ?_)
    obtain ⟨rfl, Nq114, Kq114, A115⟩ := hQ114
    have N114 := Fr.app N109 Nq114
    show Ends p e below s _ _ _ (T114.setTop (mkF m 268 #[d0, .val (.long x1), .second, d3, .val (.long x4), .second, .val (.long x6), .second, .val (.int x8), .val (.int x9), .val (.ref a_q18), .val (.ref a_q11_24), .unset] []))
    have E116 := E110.keep Kq114
    have Fd117 := Fd111.keep Kq114 (ninS ne_q18_q11_24 nin0)
    have Fd118 := Fd112.keep Kq114 (ninS ne_q18_q11_24 nin0)
    have Z119 := Nat.le_trans Z113 Kq114.1
    refine Ends.step (u' := (T114.setTop (mkF m 270 #[d0, .val (.long x1), .second, d3, .val (.long x4), .second, .val (.long x6), .second, .val (.int x8), .val (.int x9), .val (.ref a_q18), .val (.ref a_q11_24), .unset] [(.ref a_q18)]))) ?_ (fun _ k => XS.aload X114.here hx rfl (hb hby at_268) rfl rfl k)
    refine Ends.callV X114 hx hZ hown (hw _ (List.mem_of_getElem? (i := 17) rfl)) (hw _ (List.mem_of_getElem? (i := 18) rfl)) (hw _ (List.mem_of_getElem? (i := 20) rfl)) (hw _ (List.mem_of_getElem? (i := 19) rfl)) (hw _ (List.mem_of_getElem? (i := 3) rfl)) (hw _ (List.mem_of_getElem? (i := 21) rfl)) (by decide) (rm4 l Z a0 hw cq18_size cn_q11_24 (F6 K x8 x1 x9 cq18_size cn_q11_24 (upd (upd (upd (upd (upd (upd (upd (upd (upd (upd (upd (upd (upd (upd (upd (upd cf_q11_24 0 (nar .byte (F5 x4 x6 (0 : Int32)))) 1 (nar .byte (F5 x4 x6 (1 : Int32)))) 2 (nar .byte (F5 x4 x6 (2 : Int32)))) 3 (nar .byte (F5 x4 x6 (3 : Int32)))) 4 (nar .byte (F5 x4 x6 (4 : Int32)))) 5 (nar .byte (F5 x4 x6 (5 : Int32)))) 6 (nar .byte (F5 x4 x6 (6 : Int32)))) 7 (nar .byte (F5 x4 x6 (7 : Int32)))) 8 (nar .byte (F5 x4 x6 (8 : Int32)))) 9 (nar .byte (F5 x4 x6 (9 : Int32)))) 10 (nar .byte (F5 x4 x6 (10 : Int32)))) 11 (nar .byte (F5 x4 x6 (11 : Int32)))) 12 (nar .byte (F5 x4 x6 (12 : Int32)))) 13 (nar .byte (F5 x4 x6 (13 : Int32)))) 14 (nar .byte (F5 x4 x6 (14 : Int32)))) 15 (nar .byte (F5 x4 x6 (15 : Int32))))) a_q18 a_q11_24 T114.heap n0 Z119 E116 Fd117 Fd118 A115) 0 (by decide) (by decide) rfl a_q18 E116 (g := (mkF m 270 #[d0, .val (.long x1), .second, d3, .val (.long x4), .second, .val (.long x6), .second, .val (.int x8), .val (.int x9), .val (.ref a_q18), .val (.ref a_q11_24), .unset] [(.ref a_q18)])) rfl (by rw [hml]; rfl)  [] [] (lenOf pd_3 rfl) rfl (by show 2 * 0 + _ ≤ _; exact Nat.le_of_eq rfl) (hb hby at_270) rfl (by decide) (by decide) (fun v120 T120 L120 X120 hQ120 => ?_)
    obtain ⟨rfl, Nq120, e120⟩ := hQ120
    have N120 := Fr.app N114 Nq120
    show Ends p e below s _ _ _ (T120.setTop (mkF m 273 #[d0, .val (.long x1), .second, d3, .val (.long x4), .second, .val (.long x6), .second, .val (.int x8), .val (.int x9), .val (.ref a_q18), .val (.ref a_q11_24), .unset] [(.ref a_q11_24)]))
    refine Ends.step (u' := (T120.setTop (mkF m 275 #[d0, .val (.long x1), .second, d3, .val (.long x4), .second, .val (.long x6), .second, .val (.int x8), .val (.int x9), .val (.ref a_q18), .val (.ref a_q11_24), .val (.ref a_q11_24)] []))) ?_ (fun _ k => XS.astore X120.here hx rfl (hb hby at_273) rfl rfl (l' := #[d0, .val (.long x1), .second, d3, .val (.long x4), .second, .val (.long x6), .second, .val (.int x8), .val (.int x9), .val (.ref a_q18), .val (.ref a_q11_24), .val (.ref a_q11_24)]) rfl k)
    refine Ends.step (u' := (T120.setTop (mkF m 277 #[d0, .val (.long x1), .second, d3, .val (.long x4), .second, .val (.long x6), .second, .val (.int x8), .val (.int x9), .val (.ref a_q18), .val (.ref a_q11_24), .val (.ref a_q11_24)] [(.ref a_q11_24)]))) ?_ (fun _ k => XS.aload X120.here hx rfl (hb hby at_275) rfl rfl k)
    refine Ends.step (u' := (T120.setTop (mkF m 279 #[d0, .val (.long x1), .second, d3, .val (.long x4), .second, .val (.long x6), .second, .val (.int x8), .val (.int x9), .val (.ref a_q18), .val (.ref a_q11_24), .val (.ref a_q11_24)] [(.ref a_q11_24), (.ref a_q11_24)]))) ?_ (fun _ k => XS.aload X120.here hx rfl (hb hby at_277) rfl rfl k)
    refine Ends.step (u' := (T120.setTop (mkF m 282 #[d0, .val (.long x1), .second, d3, .val (.long x4), .second, .val (.long x6), .second, .val (.int x8), .val (.int x9), .val (.ref a_q18), .val (.ref a_q11_24), .val (.ref a_q11_24)] []))) ?_ (fun _ k => XT.acmpNo X120.here hx rfl (hb hby at_279) rfl rfl rfl (XT.aa_ne_f rfl) k)
    exact b282 T120 _ _ X120 e120 N120 Z119 cq18_size cn_q11_24 (F6 K x8 x1 x9 cq18_size cn_q11_24 (upd (upd (upd (upd (upd (upd (upd (upd (upd (upd (upd (upd (upd (upd (upd (upd cf_q11_24 0 (nar .byte (F5 x4 x6 (0 : Int32)))) 1 (nar .byte (F5 x4 x6 (1 : Int32)))) 2 (nar .byte (F5 x4 x6 (2 : Int32)))) 3 (nar .byte (F5 x4 x6 (3 : Int32)))) 4 (nar .byte (F5 x4 x6 (4 : Int32)))) 5 (nar .byte (F5 x4 x6 (5 : Int32)))) 6 (nar .byte (F5 x4 x6 (6 : Int32)))) 7 (nar .byte (F5 x4 x6 (7 : Int32)))) 8 (nar .byte (F5 x4 x6 (8 : Int32)))) 9 (nar .byte (F5 x4 x6 (9 : Int32)))) 10 (nar .byte (F5 x4 x6 (10 : Int32)))) 11 (nar .byte (F5 x4 x6 (11 : Int32)))) 12 (nar .byte (F5 x4 x6 (12 : Int32)))) 13 (nar .byte (F5 x4 x6 (13 : Int32)))) 14 (nar .byte (F5 x4 x6 (14 : Int32)))) 15 (nar .byte (F5 x4 x6 (15 : Int32))))) x1 x4 x6 x8 x9 (d0) od0 (d3) od3 (.val (.ref a_q11_24)) (Or.inr ⟨_, rfl, rfl⟩) a_q18 g_q18 a_q11_24 g_q11_24 ne_q18_q11_24 E116 Fd117 Fd118 A115 ok
  have b18 : ∀ (T : State) (L : List Loc) (h : Heap) (X : Stand p l e room_1 s m #[(.int p0), (.long p1), (.int p2), (.long p3), (.long p4)] below meth c T L 0 0) (eT : T.heap = h) (N : Fr n0 L) (Zs : n0 ≤ h.size) (x1 : Int64) (x4 : Int64) (x6 : Int64) (x8 : Int32) (x9 : Int32) (d0 : Slot) (od0 : OneS d0) (d3 : Slot) (od3 : OneS d3) (ok : (O0_18 K x1 x4 x6 x8 x9)), Ends p e below s 2 18 (Q0 Z  h0 n0 (F0_18 K x1 x4 x6 x8 x9)) (T.setTop (mkF m 18 #[d0, .val (.long x1), .second, d3, .val (.long x4), .second, .val (.long x6), .second, .val (.int x8), .val (.int x9), .unset, .unset, .unset] [])) := by
    intro T L h X eT N Zs x1 x4 x6 x8 x9 d0 od0 d3 od3 ok
    obtain ⟨o1, okt, okf⟩ := ok
    refine Ends.newO X hx hZ hown (hw _ (List.mem_of_getElem? (i := 1) rfl)) (hw _ (List.mem_of_getElem? (i := 2) rfl)) (hw _ (List.mem_of_getElem? (i := 3) rfl)) eT (g := (mkF m 18 #[d0, .val (.long x1), .second, d3, .val (.long x4), .second, .val (.long x6), .second, .val (.int x8), .val (.int x9), .unset, .unset, .unset] [])) rfl (hb hby at_18) (by decide) (by decide) (fun T121 h121 a121 X121 e121 E121 q121 Y121 D121 => ?_)
    have Fd122 : Fld Z h121 a121 "lakewright/zstd/Sink" "bytes" "[B" .null := D121 (Or.inl (hw _ (List.mem_of_getElem? (i := 16) rfl))) (ty := (.array .byte)) (by decide)
    have Fd123 : Fld Z h121 a121 "lakewright/zstd/Sink" "size" "I" (.int (0 : Int32)) := D121 (Or.inl (hw _ (List.mem_of_getElem? (i := 37) rfl))) (ty := .int) (by decide)
    have g124 : n0 ≤ a121 := q121 ▸ Zs
    have Z125 := Nat.le_trans Zs E121.1
    show Ends p e below s _ _ _ (T121.setTop (mkF m 21 #[d0, .val (.long x1), .second, d3, .val (.long x4), .second, .val (.long x6), .second, .val (.int x8), .val (.int x9), .unset, .unset, .unset] [(.ref a121)]))
    refine Ends.step (u' := (T121.setTop (mkF m 22 #[d0, .val (.long x1), .second, d3, .val (.long x4), .second, .val (.long x6), .second, .val (.int x8), .val (.int x9), .unset, .unset, .unset] [(.ref a121), (.ref a121)]))) ?_ (fun _ k => XS.dup X121.here hx rfl (hb hby at_21) rfl rfl k)
    refine Ends.step (u' := (T121.setTop (mkF m 24 #[d0, .val (.long x1), .second, d3, .val (.long x4), .second, .val (.long x6), .second, .val (.int x8), .val (.int x9), .unset, .unset, .unset] [(.int (16 : Int32)), (.ref a121), (.ref a121)]))) ?_ (fun _ k => XT.bipushV X121.here hx rfl (16 : Int32) (hb hby at_22) rfl k)
    refine Ends.callC X121 hx hZ (y := (⟨"lakewright/zstd/Sink", "<init>", "(I)V"⟩ : MethodName)) rfl hown (hw _ (List.mem_of_getElem? (i := 4) rfl)) (hw _ (List.mem_of_getElem? (i := 5) rfl)) (hw _ (List.mem_of_getElem? (i := 3) rfl)) (hw _ (List.mem_of_getElem? (i := 6) rfl)) (by decide) (rm1 l Z a0 hw (16 : Int32) (0 : Int32) a121 h121 n0 Z125 Y121 Fd122 Fd123 g124 o1) 1 (by decide) (by decide) e121  (g := (mkF m 24 #[d0, .val (.long x1), .second, d3, .val (.long x4), .second, .val (.long x6), .second, .val (.int x8), .val (.int x9), .unset, .unset, .unset] [(.int (16 : Int32)), (.ref a121), (.ref a121)])) rfl (by rw [hml]; rfl) a121 [(.int (16 : Int32))] [(.ref a121)] (lenOf pd_2 rfl) rfl (by show 2 * 0 + _ ≤ _; exact Nat.le_of_eq rfl) (hb hby at_24) rfl (by decide) (by decide) (fun v126 T126 L126 X126 hQ126 => ?_)
    obtain ⟨a126_q11, rfl, Nq126, Kq126, Fd127, Fd128, fr129, A130⟩ := hQ126
    have N126 := Fr.app N Nq126
    show Ends p e below s _ _ _ (T126.setTop (mkF m 27 #[d0, .val (.long x1), .second, d3, .val (.long x4), .second, .val (.long x6), .second, .val (.int x8), .val (.int x9), .unset, .unset, .unset] [(.ref a121)]))
    have E131 := Y121.keep Kq126
    have g132 : n0 ≤ a126_q11 := Nat.le_trans Z125 fr129
    have ne133 : a121 ≠ a126_q11 := Nat.ne_of_lt (Nat.lt_of_lt_of_le Y121.lt fr129)
    have Z134 := Nat.le_trans Z125 Kq126.1
    refine Ends.step (u' := (T126.setTop (mkF m 29 #[d0, .val (.long x1), .second, d3, .val (.long x4), .second, .val (.long x6), .second, .val (.int x8), .val (.int x9), .val (.ref a121), .unset, .unset] []))) ?_ (fun _ k => XS.astore X126.here hx rfl (hb hby at_27) rfl rfl (l' := #[d0, .val (.long x1), .second, d3, .val (.long x4), .second, .val (.long x6), .second, .val (.int x8), .val (.int x9), .val (.ref a121), .unset, .unset]) rfl k)
    refine Ends.step (u' := (T126.setTop (mkF m 31 #[d0, .val (.long x1), .second, d3, .val (.long x4), .second, .val (.long x6), .second, .val (.int x8), .val (.int x9), .val (.ref a121), .unset, .unset] [(.ref a121)]))) ?_ (fun _ k => XS.aload X126.here hx rfl (hb hby at_29) rfl rfl k)
    refine Ends.callV X126 hx hZ hown (hw _ (List.mem_of_getElem? (i := 17) rfl)) (hw _ (List.mem_of_getElem? (i := 18) rfl)) (hw _ (List.mem_of_getElem? (i := 20) rfl)) (hw _ (List.mem_of_getElem? (i := 19) rfl)) (hw _ (List.mem_of_getElem? (i := 3) rfl)) (hw _ (List.mem_of_getElem? (i := 21) rfl)) (by decide) (rm4 l Z a0 hw (0 : Int32) (F1 (16 : Int32) (0 : Int32)).1 (F1 (16 : Int32) (0 : Int32)).2 a121 a126_q11 T126.heap n0 Z134 E131 Fd127 Fd128 A130) 0 (by decide) (by decide) rfl a121 E131 (g := (mkF m 31 #[d0, .val (.long x1), .second, d3, .val (.long x4), .second, .val (.long x6), .second, .val (.int x8), .val (.int x9), .val (.ref a121), .unset, .unset] [(.ref a121)])) rfl (by rw [hml]; rfl)  [] [] (lenOf pd_3 rfl) rfl (by show 2 * 0 + _ ≤ _; exact Nat.le_of_eq rfl) (hb hby at_31) rfl (by decide) (by decide) (fun v135 T135 L135 X135 hQ135 => ?_)
    obtain ⟨rfl, Nq135, e135⟩ := hQ135
    have N135 := Fr.app N126 Nq135
    show Ends p e below s _ _ _ (T135.setTop (mkF m 34 #[d0, .val (.long x1), .second, d3, .val (.long x4), .second, .val (.long x6), .second, .val (.int x8), .val (.int x9), .val (.ref a121), .unset, .unset] [(.ref a126_q11)]))
    refine Ends.step (u' := (T135.setTop (mkF m 36 #[d0, .val (.long x1), .second, d3, .val (.long x4), .second, .val (.long x6), .second, .val (.int x8), .val (.int x9), .val (.ref a121), .val (.ref a126_q11), .unset] []))) ?_ (fun _ k => XS.astore X135.here hx rfl (hb hby at_34) rfl rfl (l' := #[d0, .val (.long x1), .second, d3, .val (.long x4), .second, .val (.long x6), .second, .val (.int x8), .val (.int x9), .val (.ref a121), .val (.ref a126_q11), .unset]) rfl k)
    refine Ends.step (u' := (T135.setTop (mkF m 38 #[d0, .val (.long x1), .second, d3, .val (.long x4), .second, .val (.long x6), .second, .val (.int x8), .val (.int x9), .val (.ref a121), .val (.ref a126_q11), .unset] [(.ref a126_q11)]))) ?_ (fun _ k => XS.aload X135.here hx rfl (hb hby at_36) rfl rfl k)
    refine Ends.arrlen X135 hx hZ e135 A130 (g := (mkF m 38 #[d0, .val (.long x1), .second, d3, .val (.long x4), .second, .val (.long x6), .second, .val (.int x8), .val (.int x9), .val (.ref a121), .val (.ref a126_q11), .unset] [(.ref a126_q11)])) rfl rfl (hb hby at_38) ?_
    show Ends p e below s _ _ _ (T135.setTop (mkF m 39 #[d0, .val (.long x1), .second, d3, .val (.long x4), .second, .val (.long x6), .second, .val (.int x8), .val (.int x9), .val (.ref a121), .val (.ref a126_q11), .unset] [(.int (Nat.toInt32 (F1 (16 : Int32) (0 : Int32)).1))]))
    refine Ends.step (u' := (T135.setTop (mkF m 41 #[d0, .val (.long x1), .second, d3, .val (.long x4), .second, .val (.long x6), .second, .val (.int x8), .val (.int x9), .val (.ref a121), .val (.ref a126_q11), .unset] [(.int (16 : Int32)), (.int (Nat.toInt32 (F1 (16 : Int32) (0 : Int32)).1))]))) ?_ (fun _ k => XT.bipushV X135.here hx rfl (16 : Int32) (hb hby at_39) rfl k)
    by_cases hc41 : (Nat.toInt32 (F1 (16 : Int32) (0 : Int32)).1) = (16 : Int32)
    · refine Eq.mp (congrArg (fun z => Ends p e below s 2 18 (Q0 Z  h0 n0 z) (T135.setTop (mkF m 41 #[d0, .val (.long x1), .second, d3, .val (.long x4), .second, .val (.long x6), .second, .val (.int x8), .val (.int x9), .val (.ref a121), .val (.ref a126_q11), .unset] [(.int (16 : Int32)), (.int (Nat.toInt32 (F1 (16 : Int32) (0 : Int32)).1))]))) (show (F0_18 K x1 x4 x6 x8 x9) = (F0_46 K (0 : Int32) (F1 (16 : Int32) (0 : Int32)).1 (F1 (16 : Int32) (0 : Int32)).2 x1 x4 x6 x8 x9) from (if_pos hc41)).symm) ?_
      refine Ends.step (u' := (T135.setTop (mkF m 46 #[d0, .val (.long x1), .second, d3, .val (.long x4), .second, .val (.long x6), .second, .val (.int x8), .val (.int x9), .val (.ref a121), .val (.ref a126_q11), .unset] []))) ?_ (fun _ k => XS.icmpYes X135.here hx rfl (pc0 := 41) (pc' := 46) rfl (hb hby at_41) rfl (XT.ii_eq_t hc41) (by decide) (by decide) k)
      exact b46 T135 _ _ X135 e135 N135 Z134 (0 : Int32) (F1 (16 : Int32) (0 : Int32)).1 (F1 (16 : Int32) (0 : Int32)).2 x1 x4 x6 x8 x9 (d0) od0 (d3) od3 a121 g124 a126_q11 g132 ne133 E131 Fd127 Fd128 A130 (okt hc41)
    · refine Eq.mp (congrArg (fun z => Ends p e below s 2 18 (Q0 Z  h0 n0 z) (T135.setTop (mkF m 41 #[d0, .val (.long x1), .second, d3, .val (.long x4), .second, .val (.long x6), .second, .val (.int x8), .val (.int x9), .val (.ref a121), .val (.ref a126_q11), .unset] [(.int (16 : Int32)), (.int (Nat.toInt32 (F1 (16 : Int32) (0 : Int32)).1))]))) (show (F0_18 K x1 x4 x6 x8 x9) = (F0_44 K) from (if_neg hc41)).symm) ?_
      refine Ends.step (u' := (T135.setTop (mkF m 44 #[d0, .val (.long x1), .second, d3, .val (.long x4), .second, .val (.long x6), .second, .val (.int x8), .val (.int x9), .val (.ref a121), .val (.ref a126_q11), .unset] []))) ?_ (fun _ k => XS.icmpNo X135.here hx rfl (hb hby at_41) rfl (XT.ii_eq_f hc41) k)
      exact b44 T135 _ _ X135 e135 N135 Z134 (d0) od0 x1 (d3) od3 x4 x6 (.val (.int x8)) (Or.inr ⟨_, rfl, rfl⟩) (.val (.int x9)) (Or.inr ⟨_, rfl, rfl⟩) (.val (.ref a121)) (Or.inr ⟨_, rfl, rfl⟩) (.val (.ref a126_q11)) (Or.inr ⟨_, rfl, rfl⟩)
  have b9 : ∀ (T : State) (L : List Loc) (h : Heap) (X : Stand p l e room_1 s m #[(.int p0), (.long p1), (.int p2), (.long p3), (.long p4)] below meth c T L 0 0) (eT : T.heap = h) (N : Fr n0 L) (Zs : n0 ≤ h.size) (x1 : Int64) (x3 : Int32) (x4 : Int64) (x6 : Int64) (x8 : Int32) (d0 : Slot) (od0 : OneS d0) (ok : (O0_9 K x1 x3 x4 x6 x8)), Ends p e below s 2 18 (Q0 Z  h0 n0 (F0_9 K x1 x3 x4 x6 x8)) (T.setTop (mkF m 9 #[d0, .val (.long x1), .second, .val (.int x3), .val (.long x4), .second, .val (.long x6), .second, .val (.int x8), .unset, .unset, .unset, .unset] [])) := by
    intro T L h X eT N Zs x1 x3 x4 x6 x8 d0 od0 ok
    refine Ends.step (u' := (T.setTop (mkF m 10 #[d0, .val (.long x1), .second, .val (.int x3), .val (.long x4), .second, .val (.long x6), .second, .val (.int x8), .unset, .unset, .unset, .unset] [(.int x3)]))) ?_ (fun _ k => XS.iloadN X.here hx rfl (hb hby at_9) rfl k)
    refine Ends.step (u' := (T.setTop (mkF m 12 #[d0, .val (.long x1), .second, .val (.int x3), .val (.long x4), .second, .val (.long x6), .second, .val (.int x8), .unset, .unset, .unset, .unset] [(.int (2147483647 : Int32)), (.int x3)]))) ?_ (fun _ k => X.ldcI hx hown (mvT hZ (hw _ (List.mem_of_getElem? (i := 0) rfl))) rfl (hb hby at_10) k)
    refine Ends.step (u' := (T.setTop (mkF m 13 #[d0, .val (.long x1), .second, .val (.int x3), .val (.long x4), .second, .val (.long x6), .second, .val (.int x8), .unset, .unset, .unset, .unset] [(.int (x3 &&& (2147483647 : Int32)))]))) ?_ (fun _ k => XS.iand X.here hx rfl (hb hby at_12) rfl k)
    refine Ends.step (u' := (T.setTop (mkF m 15 #[d0, .val (.long x1), .second, .val (.int x3), .val (.long x4), .second, .val (.long x6), .second, .val (.int x8), .unset, .unset, .unset, .unset] [(.int (9 : Int32)), (.int (x3 &&& (2147483647 : Int32)))]))) ?_ (fun _ k => XT.bipushV X.here hx rfl (9 : Int32) (hb hby at_13) rfl k)
    refine Ends.step (u' := (T.setTop (mkF m 16 #[d0, .val (.long x1), .second, .val (.int x3), .val (.long x4), .second, .val (.long x6), .second, .val (.int x8), .unset, .unset, .unset, .unset] [(.int ((x3 &&& (2147483647 : Int32)) % (9 : Int32)))]))) ?_ (fun _ k => iremM X hx rfl (hb hby at_15) rfl (by decide) k)
    refine Ends.step (u' := (T.setTop (mkF m 18 #[d0, .val (.long x1), .second, .val (.int x3), .val (.long x4), .second, .val (.long x6), .second, .val (.int x8), .val (.int ((x3 &&& (2147483647 : Int32)) % (9 : Int32))), .unset, .unset, .unset] []))) ?_ (fun _ k => XS.istore X.here hx rfl (hb hby at_16) rfl (l' := #[d0, .val (.long x1), .second, .val (.int x3), .val (.long x4), .second, .val (.long x6), .second, .val (.int x8), .val (.int ((x3 &&& (2147483647 : Int32)) % (9 : Int32))), .unset, .unset, .unset]) rfl k)
    exact b18 T _ _ X eT N Zs x1 x4 x6 x8 ((x3 &&& (2147483647 : Int32)) % (9 : Int32)) (d0) od0 (.val (.int x3)) (Or.inr ⟨_, rfl, rfl⟩) ok
  refine Ends.step (u' := (s₁.setTop (mkF m 0 #[.val (.int p0), .val (.long p1), .second, .val (.int p2), .val (.long p3), .second, .val (.long p4), .second, .unset, .unset, .unset, .unset, .unset] []))) ?_ (fun _ k => castTop (ef_0 m p0 p1 p2 p3 p4) k)
  refine Ends.step (u' := (s₁.setTop (mkF m 1 #[.val (.int p0), .val (.long p1), .second, .val (.int p2), .val (.long p3), .second, .val (.long p4), .second, .unset, .unset, .unset, .unset, .unset] [(.int p0)]))) ?_ (fun _ k => XS.iloadN X0.here hx rfl (hb hby at_0) rfl k)
  refine Ends.step (u' := (s₁.setTop (mkF m 3 #[.val (.int p0), .val (.long p1), .second, .val (.int p2), .val (.long p3), .second, .val (.long p4), .second, .unset, .unset, .unset, .unset, .unset] [(.int (2147483647 : Int32)), (.int p0)]))) ?_ (fun _ k => X0.ldcI hx hown (mvT hZ (hw _ (List.mem_of_getElem? (i := 0) rfl))) rfl (hb hby at_1) k)
  refine Ends.step (u' := (s₁.setTop (mkF m 4 #[.val (.int p0), .val (.long p1), .second, .val (.int p2), .val (.long p3), .second, .val (.long p4), .second, .unset, .unset, .unset, .unset, .unset] [(.int (p0 &&& (2147483647 : Int32)))]))) ?_ (fun _ k => XS.iand X0.here hx rfl (hb hby at_3) rfl k)
  refine Ends.step (u' := (s₁.setTop (mkF m 6 #[.val (.int p0), .val (.long p1), .second, .val (.int p2), .val (.long p3), .second, .val (.long p4), .second, .unset, .unset, .unset, .unset, .unset] [(.int (9 : Int32)), (.int (p0 &&& (2147483647 : Int32)))]))) ?_ (fun _ k => XT.bipushV X0.here hx rfl (9 : Int32) (hb hby at_4) rfl k)
  refine Ends.step (u' := (s₁.setTop (mkF m 7 #[.val (.int p0), .val (.long p1), .second, .val (.int p2), .val (.long p3), .second, .val (.long p4), .second, .unset, .unset, .unset, .unset, .unset] [(.int ((p0 &&& (2147483647 : Int32)) % (9 : Int32)))]))) ?_ (fun _ k => iremM X0 hx rfl (hb hby at_6) rfl (by decide) k)
  refine Ends.step (u' := (s₁.setTop (mkF m 9 #[.val (.int p0), .val (.long p1), .second, .val (.int p2), .val (.long p3), .second, .val (.long p4), .second, .val (.int ((p0 &&& (2147483647 : Int32)) % (9 : Int32))), .unset, .unset, .unset, .unset] []))) ?_ (fun _ k => XS.istore X0.here hx rfl (hb hby at_7) rfl (l' := #[.val (.int p0), .val (.long p1), .second, .val (.int p2), .val (.long p3), .second, .val (.long p4), .second, .val (.int ((p0 &&& (2147483647 : Int32)) % (9 : Int32))), .unset, .unset, .unset, .unset]) rfl k)
  exact b9 s₁ _ _ X0 e0 N0 Z0 p1 p2 p3 p4 ((p0 &&& (2147483647 : Int32)) % (9 : Int32)) (.val (.int p0)) (Or.inr ⟨_, rfl, rfl⟩) ok
theorem own_toInt (x : Int32) (h : x.toBitVec.toNat < 2 ^ 31) : x.toInt = x.toBitVec.toNat := by
  show x.toBitVec.toInt = _
  rw [BitVec.toInt_eq_toNat_cond, if_pos (by omega)]
theorem own_nonneg (x : Int32) (h : 0 ≤ x.toInt) : x.toBitVec.toNat < 2 ^ 31 := by
  have h' : 0 ≤ x.toBitVec.toInt := h
  rw [BitVec.toInt_eq_toNat_cond] at h'
  split at h' <;> omega
theorem own_band (x c : Int32) (hc : 0 ≤ c.toInt) : 0 ≤ (x &&& c).toInt ∧ (x &&& c).toInt ≤ c.toInt := by
  have hb := own_nonneg c hc
  have e : (x &&& c).toBitVec.toNat = x.toBitVec.toNat &&& c.toBitVec.toNat := by rw [Int32.toBitVec_and, BitVec.toNat_and]
  have l : x.toBitVec.toNat &&& c.toBitVec.toNat ≤ c.toBitVec.toNat := Nat.and_le_right
  rw [own_toInt (x &&& c) (by omega), own_toInt c hb, e]
  omega
theorem own_inb (j : Int32) (n : Nat) (h0 : 0 ≤ j.toInt) (h1 : j.toInt < n) : inb j n := by
  intro h
  rcases h with h | h
  · rw [Int32.lt_iff_toInt_lt] at h
    have : (0 : Int32).toInt = 0 := rfl
    omega
  · simp only [Int32.toNatClampNeg] at h
    omega
theorem own_n_toInt (i : Nat) (h : i < 2 ^ 31) : (Int32.ofNat i).toInt = i := Int32.toInt_ofNat_of_lt h
theorem own_n_lt (i j : Nat) (hi : i < 2 ^ 31) (hj : j < 2 ^ 31) : Int32.ofNat i < Int32.ofNat j ↔ i < j := by
  rw [Int32.lt_iff_toInt_lt, own_n_toInt i hi, own_n_toInt j hj]; omega
theorem own_n_add (i j : Nat) : Int32.ofNat i + Int32.ofNat j = Int32.ofNat (i + j) := (Int32.ofNat_add i j).symm
theorem own_n_ix (i : Nat) (h : i < 2 ^ 31) : (Int32.ofNat i).toNatClampNeg = i := by
  simp only [Int32.toNatClampNeg, own_n_toInt i h]; omega
theorem own_n_inb (i n : Nat) (h : i < n) (hn : n < 2 ^ 31) : inb (Int32.ofNat i) n :=
  own_inb _ _ (by rw [own_n_toInt i (by omega)]; omega) (by rw [own_n_toInt i (by omega)]; omega)
theorem own_n_ex (x : Int32) (h : 0 ≤ x.toInt) : ∃ n : Nat, n < 2 ^ 31 ∧ x = Int32.ofNat n ∧ x.toInt = n := by
  have := Int32.toInt_lt x
  refine ⟨x.toInt.toNat, by omega, ?_, by omega⟩
  apply Int32.toInt_inj.mp
  rw [own_n_toInt _ (by omega)]
  omega
theorem own_pos_mod (x c : Int32) (hc : 0 < c.toInt) : 0 ≤ ((x &&& (2147483647 : Int32)) % c).toInt ∧ ((x &&& (2147483647 : Int32)) % c).toInt < c.toInt := by
  have h := own_band x 2147483647 (by decide)
  rw [Int32.toInt_mod, Int.tmod_eq_emod_of_nonneg h.1]
  exact ⟨Int.emod_nonneg _ (by omega), Int.emod_lt_of_pos _ hc⟩
def own_P (f : Nat → Int32) (base : Nat) (v : Nat → Int32) : Nat → (Nat → Int32)
  | 0 => f
  | q + 1 => upd (own_P f base v q) (base + q) (v q)
theorem own_P_at (f : Nat → Int32) (base : Nat) (v : Nat → Int32) : ∀ q i, own_P f base v q i = if base ≤ i ∧ i < base + q then v (i - base) else f i
  | 0, i => by rw [if_neg (by omega)]; rfl
  | q + 1, i => by
    show (if i = base + q then v q else own_P f base v q i) = _
    rw [own_P_at f base v q i]
    by_cases h : i = base + q
    · rw [if_pos h, if_pos (by omega), show i - base = q by omega]
    · rw [if_neg h]
      by_cases h2 : base ≤ i ∧ i < base + q
      · rw [if_pos h2, if_pos (by omega)]
      · rw [if_neg h2, if_neg (by omega)]
theorem own_un {P : Nat → Int32 → Prop} {f : Nat → Int32} {k : Nat} {v : Int32} (h : ∀ i, i < k → P i (f i)) (hv : P k v) : ∀ i, i < k + 1 → P i (upd f k v i) := by
  intro i hi
  show P i (if i = k then v else f i)
  by_cases q : i = k
  · rw [if_pos q, q]; exact hv
  · rw [if_neg q]; exact h i (by omega)
theorem own_nb (x : Int32) : nar .byte x = x.toInt8.toInt32 := rfl
theorem own_nb2 (x : Int32) : nar .byte (x.toInt8.toInt32) = x.toInt8.toInt32 := by
  rw [own_nb, Int8.toInt8_toInt32]
theorem own_F5b (a b : Int64) (i : Int32) : nar .byte (F5 a b i) = F5 a b i := by
  by_cases c : i < (8 : Int32)
  · have e : F5 a b i = nar .byte (((XT.ushrL a ((8 : Int32) * i)).toInt32).toInt8.toInt32) := if_pos c
    rw [e, own_nb2, own_nb2]
  · have e : F5 a b i = nar .byte (((XT.ushrL b ((8 : Int32) * (i - (8 : Int32)))).toInt32).toInt8.toInt32) := if_neg c
    rw [e, own_nb2, own_nb2]
def own_v (value : Int64) (q : Nat) : Int32 := nar .byte (((XT.ushrL value ((8 : Int32) * Int32.ofNat q)).toInt32).toInt8.toInt32)
theorem own_loop (K : Nat) (sz : Int32) (f : Nat → Int32) (value : Int64) (a cnt : Nat) (hb : a + cnt ≤ 16) : ∀ (r j q : Nat), q + r = cnt → r < j →
    O6_3 K j sz 16 (own_P f a (own_v value) q) (Int32.ofNat a) value (Int32.ofNat cnt) (Int32.ofNat q) ∧ F6_3 K j sz 16 (own_P f a (own_v value) q) (Int32.ofNat a) value (Int32.ofNat cnt) (Int32.ofNat q) = own_P f a (own_v value) cnt
  | r, 0, _, _, z => absurd z (Nat.not_lt_zero r)
  | 0, j + 1, q, e, _ => by
    have e' : q = cnt := by omega
    subst e'
    have c : ¬ Int32.ofNat q < Int32.ofNat q := by rw [own_n_lt _ _ (by omega) (by omega)]; omega
    exact ⟨⟨fun z => absurd z c, fun _ => trivial⟩, if_neg c⟩
  | r + 1, j + 1, q, e, z => by
    have c : Int32.ofNat q < Int32.ofNat cnt := by rw [own_n_lt _ _ (by omega) (by omega)]; omega
    have ih := own_loop K sz f value a cnt hb r j (q + 1) (by omega) (by omega)
    have e1 : Int32.ofNat q + 1 = Int32.ofNat (q + 1) := own_n_add q 1
    have e2 : (Int32.ofNat a + Int32.ofNat q).toNatClampNeg = a + q := by rw [own_n_add]; exact own_n_ix _ (by omega)
    have hb : inb (Int32.ofNat a + Int32.ofNat q) 16 := by rw [own_n_add]; exact own_n_inb _ _ (by omega) (by decide)
    refine ⟨⟨fun _ => ⟨hb, ?_⟩, fun z => absurd c z⟩, (if_pos c).trans ?_⟩
    · rw [e1, e2]; exact ih.1
    · simp only [F6_10]; rw [e1, e2]; exact ih.2
theorem own_ok (f : Nat → Int32) (value f0 f1 : Int64) (a cnt p : Nat) (ha : a ≤ 8) (hc : cnt ≤ 8) (hp : p < 16) (hf : ∀ i, i < 16 → f i = F5 f0 f1 (Int32.ofNat i)) :
    O8 (Int32.ofNat p) (Int32.ofNat a) value (Int32.ofNat cnt) f0 f1 16 (own_P f a (own_v value) cnt) ∧ F8 (Int32.ofNat p) (Int32.ofNat a) value (Int32.ofNat cnt) f0 f1 16 (own_P f a (own_v value) cnt) = 1 := by
  have ep : (Int32.ofNat p).toNatClampNeg = p := own_n_ix _ (by omega)
  have hb : inb (Int32.ofNat p) 16 := own_n_inb _ _ hp (by decide)
  have at_ := own_P_at f a (own_v value) cnt p
  have tI : (Int32.ofNat p - Int32.ofNat a).toInt = (p : Int) - a := by
    rw [Int32.toInt_sub, own_n_toInt p (by omega), own_n_toInt a (by omega)]
    apply Int.bmod_eq_of_le <;> omega
  have z0 : (0 : Int32).toInt = 0 := rfl
  have tail : ∀ w : Int32, own_P f a (own_v value) cnt p = w → O8_41 16 (own_P f a (own_v value) cnt) (Int32.ofNat p) w ∧ F8_41 16 (own_P f a (own_v value) cnt) (Int32.ofNat p) w = 1 := fun w h => by
    have c : own_P f a (own_v value) cnt (Int32.ofNat p).toNatClampNeg = w := by rw [ep]; exact h
    exact ⟨⟨hb, fun _ => trivial, fun _ => trivial⟩, if_pos c⟩
  have old : ¬ (a ≤ p ∧ p < a + cnt) → O8_31 16 (own_P f a (own_v value) cnt) (Int32.ofNat p) f0 f1 ∧ F8_31 16 (own_P f a (own_v value) cnt) (Int32.ofNat p) f0 f1 = 1 := fun h =>
    tail _ (by rw [at_, if_neg h]; exact hf p hp)
  by_cases c1 : Int32.ofNat p - Int32.ofNat a < 0
  · have c1' : p < a := by rw [Int32.lt_iff_toInt_lt, tI, z0] at c1; omega
    have t := old (by omega)
    exact ⟨⟨fun _ => t.1, fun z => absurd c1 z⟩, (if_pos c1).trans t.2⟩
  · have c1' : a ≤ p := by rw [Int32.lt_iff_toInt_lt, tI, z0] at c1; omega
    have ek : Int32.ofNat p - Int32.ofNat a = Int32.ofNat (p - a) := by
      apply Int32.toInt_inj.mp
      rw [tI, own_n_toInt _ (by omega)]; omega
    have t : O8_10 16 (own_P f a (own_v value) cnt) (Int32.ofNat p) value (Int32.ofNat cnt) f0 f1 (Int32.ofNat p - Int32.ofNat a) ∧ F8_10 16 (own_P f a (own_v value) cnt) (Int32.ofNat p) value (Int32.ofNat cnt) f0 f1 (Int32.ofNat p - Int32.ofNat a) = 1 := by
      rw [ek]
      by_cases c2 : Int32.ofNat (p - a) < Int32.ofNat cnt
      · have c2' : p - a < cnt := (own_n_lt _ _ (by omega) (by omega)).mp c2
        have k := tail (((XT.ushrL value ((8 : Int32) * Int32.ofNat (p - a))).toInt32).toInt8.toInt32) (by rw [at_, if_pos (by omega)]; exact own_nb2 _)
        exact ⟨⟨fun _ => k.1, fun z => absurd c2 z⟩, (if_pos c2).trans k.2⟩
      · have c2' : ¬ p - a < cnt := fun z => c2 ((own_n_lt _ _ (by omega) (by omega)).mpr z)
        have k := old (by omega)
        exact ⟨⟨fun z => absurd z c2, fun _ => k.1⟩, (if_neg c2).trans k.2⟩
    exact ⟨⟨fun z => absurd z c1, fun _ => t.1⟩, (if_neg c1).trans t.2⟩
theorem own_nz (z : Int32) (h : z = 1) : ¬ z = 0 := fun q => by rw [h] at q; exact absurd q (by decide)
theorem own_chain (w : Nat → Int32) (value f0 f1 : Int64) (a cnt : Int32) (h : ∀ p, p < 16 → O8 (Int32.ofNat p) a value cnt f0 f1 16 w ∧ F8 (Int32.ofNat p) a value cnt f0 f1 16 w = 1) :
    O0_292 10 16 w value f0 f1 a cnt ∧ F0_292 10 16 w value f0 f1 a cnt = 1 := by
  have q15 : O8 (15 : Int32) a value cnt f0 f1 16 w ∧ F8 (15 : Int32) a value cnt f0 f1 16 w = 1 := h 15 (by decide)
  have t571 : O0_571 10 16 w value f0 f1 a cnt ∧ F0_571 10 16 w value f0 f1 a cnt = 1 := ⟨⟨q15.1, fun _ => trivial, fun _ => trivial⟩, if_neg (own_nz _ q15.2)⟩
  have q14 : O8 (14 : Int32) a value cnt f0 f1 16 w ∧ F8 (14 : Int32) a value cnt f0 f1 16 w = 1 := h 14 (by decide)
  have t552 : O0_552 10 16 w value f0 f1 a cnt ∧ F0_552 10 16 w value f0 f1 a cnt = 1 := ⟨⟨q14.1, fun _ => trivial, fun _ => t571.1⟩, (if_neg (own_nz _ q14.2)).trans t571.2⟩
  have q13 : O8 (13 : Int32) a value cnt f0 f1 16 w ∧ F8 (13 : Int32) a value cnt f0 f1 16 w = 1 := h 13 (by decide)
  have t533 : O0_533 10 16 w value f0 f1 a cnt ∧ F0_533 10 16 w value f0 f1 a cnt = 1 := ⟨⟨q13.1, fun _ => trivial, fun _ => t552.1⟩, (if_neg (own_nz _ q13.2)).trans t552.2⟩
  have q12 : O8 (12 : Int32) a value cnt f0 f1 16 w ∧ F8 (12 : Int32) a value cnt f0 f1 16 w = 1 := h 12 (by decide)
  have t514 : O0_514 10 16 w value f0 f1 a cnt ∧ F0_514 10 16 w value f0 f1 a cnt = 1 := ⟨⟨q12.1, fun _ => trivial, fun _ => t533.1⟩, (if_neg (own_nz _ q12.2)).trans t533.2⟩
  have q11 : O8 (11 : Int32) a value cnt f0 f1 16 w ∧ F8 (11 : Int32) a value cnt f0 f1 16 w = 1 := h 11 (by decide)
  have t495 : O0_495 10 16 w value f0 f1 a cnt ∧ F0_495 10 16 w value f0 f1 a cnt = 1 := ⟨⟨q11.1, fun _ => trivial, fun _ => t514.1⟩, (if_neg (own_nz _ q11.2)).trans t514.2⟩
  have q10 : O8 (10 : Int32) a value cnt f0 f1 16 w ∧ F8 (10 : Int32) a value cnt f0 f1 16 w = 1 := h 10 (by decide)
  have t476 : O0_476 10 16 w value f0 f1 a cnt ∧ F0_476 10 16 w value f0 f1 a cnt = 1 := ⟨⟨q10.1, fun _ => trivial, fun _ => t495.1⟩, (if_neg (own_nz _ q10.2)).trans t495.2⟩
  have q9 : O8 (9 : Int32) a value cnt f0 f1 16 w ∧ F8 (9 : Int32) a value cnt f0 f1 16 w = 1 := h 9 (by decide)
  have t457 : O0_457 10 16 w value f0 f1 a cnt ∧ F0_457 10 16 w value f0 f1 a cnt = 1 := ⟨⟨q9.1, fun _ => trivial, fun _ => t476.1⟩, (if_neg (own_nz _ q9.2)).trans t476.2⟩
  have q8 : O8 (8 : Int32) a value cnt f0 f1 16 w ∧ F8 (8 : Int32) a value cnt f0 f1 16 w = 1 := h 8 (by decide)
  have t438 : O0_438 10 16 w value f0 f1 a cnt ∧ F0_438 10 16 w value f0 f1 a cnt = 1 := ⟨⟨q8.1, fun _ => trivial, fun _ => t457.1⟩, (if_neg (own_nz _ q8.2)).trans t457.2⟩
  have q7 : O8 (7 : Int32) a value cnt f0 f1 16 w ∧ F8 (7 : Int32) a value cnt f0 f1 16 w = 1 := h 7 (by decide)
  have t419 : O0_419 10 16 w value f0 f1 a cnt ∧ F0_419 10 16 w value f0 f1 a cnt = 1 := ⟨⟨q7.1, fun _ => trivial, fun _ => t438.1⟩, (if_neg (own_nz _ q7.2)).trans t438.2⟩
  have q6 : O8 (6 : Int32) a value cnt f0 f1 16 w ∧ F8 (6 : Int32) a value cnt f0 f1 16 w = 1 := h 6 (by decide)
  have t400 : O0_400 10 16 w value f0 f1 a cnt ∧ F0_400 10 16 w value f0 f1 a cnt = 1 := ⟨⟨q6.1, fun _ => trivial, fun _ => t419.1⟩, (if_neg (own_nz _ q6.2)).trans t419.2⟩
  have q5 : O8 (5 : Int32) a value cnt f0 f1 16 w ∧ F8 (5 : Int32) a value cnt f0 f1 16 w = 1 := h 5 (by decide)
  have t382 : O0_382 10 16 w value f0 f1 a cnt ∧ F0_382 10 16 w value f0 f1 a cnt = 1 := ⟨⟨q5.1, fun _ => trivial, fun _ => t400.1⟩, (if_neg (own_nz _ q5.2)).trans t400.2⟩
  have q4 : O8 (4 : Int32) a value cnt f0 f1 16 w ∧ F8 (4 : Int32) a value cnt f0 f1 16 w = 1 := h 4 (by decide)
  have t364 : O0_364 10 16 w value f0 f1 a cnt ∧ F0_364 10 16 w value f0 f1 a cnt = 1 := ⟨⟨q4.1, fun _ => trivial, fun _ => t382.1⟩, (if_neg (own_nz _ q4.2)).trans t382.2⟩
  have q3 : O8 (3 : Int32) a value cnt f0 f1 16 w ∧ F8 (3 : Int32) a value cnt f0 f1 16 w = 1 := h 3 (by decide)
  have t346 : O0_346 10 16 w value f0 f1 a cnt ∧ F0_346 10 16 w value f0 f1 a cnt = 1 := ⟨⟨q3.1, fun _ => trivial, fun _ => t364.1⟩, (if_neg (own_nz _ q3.2)).trans t364.2⟩
  have q2 : O8 (2 : Int32) a value cnt f0 f1 16 w ∧ F8 (2 : Int32) a value cnt f0 f1 16 w = 1 := h 2 (by decide)
  have t328 : O0_328 10 16 w value f0 f1 a cnt ∧ F0_328 10 16 w value f0 f1 a cnt = 1 := ⟨⟨q2.1, fun _ => trivial, fun _ => t346.1⟩, (if_neg (own_nz _ q2.2)).trans t346.2⟩
  have q1 : O8 (1 : Int32) a value cnt f0 f1 16 w ∧ F8 (1 : Int32) a value cnt f0 f1 16 w = 1 := h 1 (by decide)
  have t310 : O0_310 10 16 w value f0 f1 a cnt ∧ F0_310 10 16 w value f0 f1 a cnt = 1 := ⟨⟨q1.1, fun _ => trivial, fun _ => t328.1⟩, (if_neg (own_nz _ q1.2)).trans t328.2⟩
  have q0 : O8 (0 : Int32) a value cnt f0 f1 16 w ∧ F8 (0 : Int32) a value cnt f0 f1 16 w = 1 := h 0 (by decide)
  have t292 : O0_292 10 16 w value f0 f1 a cnt ∧ F0_292 10 16 w value f0 f1 a cnt = 1 := ⟨⟨q0.1, fun _ => trivial, fun _ => t310.1⟩, (if_neg (own_nz _ q0.2)).trans t310.2⟩
  exact t292
theorem own_46 (f : Nat → Int32) (value f0 f1 : Int64) (a cnt : Nat) (ha : a ≤ 8) (hc : cnt ≤ 8) : O0_46 10 0 16 f value f0 f1 (Int32.ofNat a) (Int32.ofNat cnt) ∧ F0_46 10 0 16 f value f0 f1 (Int32.ofNat a) (Int32.ofNat cnt) = 1 := by
  have key : ∀ g : Nat → Int32, (∀ i, i < 16 → g i = F5 f0 f1 (Int32.ofNat i)) → O6 10 (Int32.ofNat a) value (Int32.ofNat cnt) 0 16 g ∧ O0_282 10 0 16 (F6 10 (Int32.ofNat a) value (Int32.ofNat cnt) 0 16 g) value f0 f1 (Int32.ofNat a) (Int32.ofNat cnt) ∧ F0_282 10 0 16 (F6 10 (Int32.ofNat a) value (Int32.ofNat cnt) 0 16 g) value f0 f1 (Int32.ofNat a) (Int32.ofNat cnt) = 1 := by
    intro g hg
    have l := own_loop 10 0 g value a cnt (by omega) cnt 10 0 (by omega) (by omega)
    have e : F6 10 (Int32.ofNat a) value (Int32.ofNat cnt) 0 16 g = own_P g a (own_v value) cnt := l.2
    have t := own_chain (own_P g a (own_v value) cnt) value f0 f1 (Int32.ofNat a) (Int32.ofNat cnt) fun p hp => own_ok g value f0 f1 a cnt p ha hc hp hg
    rw [e]
    exact ⟨l.1, ⟨fun _ => t.1, fun _ => trivial⟩, (if_pos rfl).trans t.2⟩
  have i := fun k (hk : k < 16) => own_n_inb k 16 hk (by decide)
  have w := key _ ((own_un (P := fun i x => x = F5 f0 f1 (Int32.ofNat i)) (own_un (P := fun i x => x = F5 f0 f1 (Int32.ofNat i)) (own_un (P := fun i x => x = F5 f0 f1 (Int32.ofNat i)) (own_un (P := fun i x => x = F5 f0 f1 (Int32.ofNat i)) (own_un (P := fun i x => x = F5 f0 f1 (Int32.ofNat i)) (own_un (P := fun i x => x = F5 f0 f1 (Int32.ofNat i)) (own_un (P := fun i x => x = F5 f0 f1 (Int32.ofNat i)) (own_un (P := fun i x => x = F5 f0 f1 (Int32.ofNat i)) (own_un (P := fun i x => x = F5 f0 f1 (Int32.ofNat i)) (own_un (P := fun i x => x = F5 f0 f1 (Int32.ofNat i)) (own_un (P := fun i x => x = F5 f0 f1 (Int32.ofNat i)) (own_un (P := fun i x => x = F5 f0 f1 (Int32.ofNat i)) (own_un (P := fun i x => x = F5 f0 f1 (Int32.ofNat i)) (own_un (P := fun i x => x = F5 f0 f1 (Int32.ofNat i)) (own_un (P := fun i x => x = F5 f0 f1 (Int32.ofNat i)) (own_un (P := fun i x => x = F5 f0 f1 (Int32.ofNat i)) (f := f) (fun i z => absurd z (Nat.not_lt_zero i)) (own_F5b f0 f1 0)) (own_F5b f0 f1 1)) (own_F5b f0 f1 2)) (own_F5b f0 f1 3)) (own_F5b f0 f1 4)) (own_F5b f0 f1 5)) (own_F5b f0 f1 6)) (own_F5b f0 f1 7)) (own_F5b f0 f1 8)) (own_F5b f0 f1 9)) (own_F5b f0 f1 10)) (own_F5b f0 f1 11)) (own_F5b f0 f1 12)) (own_F5b f0 f1 13)) (own_F5b f0 f1 14)) (own_F5b f0 f1 15)) : ∀ i, i < 16 → _)
  exact ⟨⟨i 0 (by decide), i 1 (by decide), i 2 (by decide), i 3 (by decide), i 4 (by decide), i 5 (by decide), i 6 (by decide), i 7 (by decide), i 8 (by decide), i 9 (by decide), i 10 (by decide), i 11 (by decide), i 12 (by decide), i 13 (by decide), i 14 (by decide), i 15 (by decide), w.1, w.2.1⟩, w.2.2⟩
theorem own_law (i0 : Int32) (i1 : Int64) (i2 : Int32) (i3 : Int64) (i4 : Int64) : ∃ K, O0 K i0 i1 i2 i3 i4 ∧ F0 K i0 i1 i2 i3 i4 = 1 := by
  refine ⟨10, ?_⟩
  have e9 : (9 : Int32).toInt = 9 := rfl
  have ho := own_pos_mod i0 9 (by decide)
  have hc := own_pos_mod i2 9 (by decide)
  obtain ⟨a, a1, ea, a2⟩ := own_n_ex _ ho.1
  obtain ⟨c, c1, ec, c2⟩ := own_n_ex _ hc.1
  have m : F3 (16 : Int32) (16 : Int32) = 16 := by decide
  have n16 : (16 : Int32).toNatClampNeg = 16 := by decide
  have n : (F1 (16 : Int32) (0 : Int32)).1 = 16 := by
    show (F3 (16 : Int32) (16 : Int32)).toNatClampNeg = 16
    rw [m, n16]
  have o1 : O1 (16 : Int32) (0 : Int32) := ⟨by rw [m]; decide, by rw [m, n16]; exact Nat.le_refl _, trivial⟩
  have c16 : Nat.toInt32 (F1 (16 : Int32) (0 : Int32)).1 = (16 : Int32) := by rw [n]; decide
  have t := own_46 (F1 (16 : Int32) (0 : Int32)).2 i1 i3 i4 a c (by omega) (by omega)
  simp only [O0, F0, O0_9, F0_9, ea, ec]
  refine ⟨⟨o1, fun _ => ?_, fun _ => trivial⟩, (if_pos c16).trans ?_⟩
  · rw [n]; exact t.1
  · rw [n]; exact t.2
set_option maxRecDepth 65536 in
set_option maxHeartbeats 40000000 in
theorem comes_1 {Post : Tables → Env → Array Value → State → Outcome → State → Prop} (hpost : ∀ tb e args s v u, (limb_1_1.after args s (.returned v) u = true ∧ limb_1_2.after args s (.returned v) u = true ∧ True) → FrameEnd s (.returned v) u (Jvm.fieldLocs frame_1_writes args s ++ Jvm.arrayLocs frame_1_arrays args s ++ Jvm.staticLocs frame_1_statics s) 16 128 → Post tb e args s (.returned v) u) :
    ArmFor flags0 classFile x code maxLocals ret World_1 tables_1 room_1 Calls_1 rest_1 Pre_1 Post := by
  intro l hfl _ _ p e ha hc hk s m args below hf hA hF happ hP
  obtain ⟨hcalls, hrest, hpre⟩ := hP
  obtain ⟨-, -, -, hnamed, -, -, -, hat⟩ := (Spec.applies_iff hf).mp happ
  obtain ⟨hg, hn⟩ := and_e (Cond.before_iff.mp (show (Jvm.Cond.and given_1 narrow_1).before args s = true from hpre))
  obtain ⟨h1, r0⟩ := and_e hg
  obtain ⟨k0, r1⟩ := and_e r0
  obtain ⟨k1, r2⟩ := and_e r1
  obtain ⟨k2, r3⟩ := and_e r2
  obtain ⟨k3, r4⟩ := and_e r3
  obtain ⟨w0, w1, w2, w3, w4, rfl⟩ : ∃ w0 w1 w2 w3 w4 : Value, args = #[w0, w1, w2, w3, w4] := by
    have hs : args.size = 5 := by simpa [Cond.value, given_1] using h1
    obtain ⟨L⟩ := args
    match L, hs with
    | [w0, w1, w2, w3, w4], _ => exact ⟨w0, w1, w2, w3, w4, rfl⟩
  have hw := fun d (hd : d ∈ tables_1) => atoms_spec (ws := Jvm.Cond.code x code maxLocals ret :: tables_1) hat d (List.mem_cons_of_mem _ hd)
  obtain ⟨i0, e0⟩ := is_v k0
  obtain rfl : w0 = (.int i0) := Option.some.inj e0
  obtain ⟨i1, e1⟩ := isL_v k1
  obtain rfl : w1 = (.long i1) := Option.some.inj e1
  obtain ⟨i2, e2⟩ := is_v k2
  obtain rfl : w2 = (.int i2) := Option.some.inj e2
  obtain ⟨i3, e3⟩ := isL_v k3
  obtain rfl : w3 = (.long i3) := Option.some.inj e3
  obtain ⟨i4, e4⟩ := isL_v r4
  obtain rfl : w4 = (.long i4) := Option.some.inj e4
  obtain ⟨K, ok, val⟩ := own_law i0 i1 i2 i3 i4
  obtain ⟨n, o, h1, h2, h3, _, L, rfl, ⟨rfl, N⟩, hq⟩ := rm0 l s _ hw K i0 i1 i2 i3 i4 s.heap s.heap.size (Nat.le_refl _) ok p e ha hc hk s m _ below hf ((Spec.applies_iff_loose hf).mp happ).1 ⟨rfl, State.Warmed39.refl s, rfl⟩ trivial
  refine ⟨n, _, h1, h2, h3, hpost _ _ _ _ _ _ ⟨Cond.after_iff.mpr rfl, Cond.after_iff.mpr (eq_i res_at (Term.int_eval (1)) (by rw [val])), trivial⟩ ⟨hq.1, hq.2.1, (hq.2.2.sift fun y hy => Or.inr (N y hy)).mono (by decide) (by decide)⟩⟩
theorem main_1_1 : Claimed_1_1 := comes_1 fun _ _ _ _ _ _ h hF => ⟨h.1, hF⟩
theorem main_1_2 : Claimed_1_2 := comes_1 fun _ _ _ _ _ _ h hF => ⟨h.2.1, hF⟩
end Jvm.Pilot.@@N@@
namespace Jvm.Pilot.@@N@@
open Jvm Jvm.ClassFile Sem Op Lib Jvm.Free Jvm.Stand Jvm.Pilot.@@N@@.Jvm.D
/-! MADE BY PROGRAM (witnessworld.py) out of the Statement's table words and the real class files: 10 classes; the members and pool entries that the words name. The judged class is class 1, her method 3. -/
namespace start1
open Jvm.ClassFile
def u (s : String) : CpInfo := .utf8 (stringToUtf16 s)
/-- a pool by its gaps: so many unusable entries, then the entry; so many at the end -/
def gap : Nat → List CpInfo → List CpInfo
  | 0, r => r
  | n + 1, r => .unusable :: gap n r
def poolList (es : List (Nat × CpInfo)) (last : Nat) : List CpInfo := es.foldr (fun e r => gap e.1 (e.2 :: r)) (gap last [])
def pool (es : List (Nat × CpInfo)) (last : Nat) : Array CpInfo := ⟨poolList es last⟩
def fileOf (pool : Array CpInfo) (this : Nat) (attrs : Array Attribute := #[]) (ms : Array MethodInfo := #[]) (fl : Nat := 33) (sup : Nat := 0) (ifs : Array Nat := #[]) (fds : Array FieldInfo := #[]) : ClassFile where
  minorVersion := 0
  majorVersion := 65
  constantPool := pool
  accessFlags := fl
  thisClass := this
  superClass := sup
  interfaces := ifs
  fields := fds
  methods := ms
  attributes := attrs
def plain (name : String) (sup : Option ClassId) : Class where
  name := name
  kind := .ordinary
  loader := none
  accessFlags := 33
  super := sup
  interfaces := #[]
  cf := none
  fields := #[]
  methods := #[]
  instanceTypes := #[]
  staticTypes := #[]
  resolved := #[]
  callSites := []
  init := .initialized
  statics := none
  mirror := none

def pool0 : Array CpInfo := pool [(5, u "<init>"), (0, u "()V"), (1, .class_ 10), (1, u "java/lang/Object")] 113

def k0c0 : Code := { maxStack := 0, maxLocals := 1, code := object_method_1_code, exceptionTable := #[], attributes := #[] }
def k0m0 : Method := { name := "<init>", desc := "()V", sig := { parameters := [], returnType := none }, accessFlags := 1, code := some k0c0 }
/-- java/lang/Object -/
def k0 : Class := { plain "java/lang/Object" none with
  accessFlags := 33
  interfaces := #[]
  cf := some (fileOf pool0 8 #[] #[{ accessFlags := 1, nameIndex := 5, descriptorIndex := 6, attributes := #[] }] 33 0 #[] #[])
  fields := #[]
  methods := #[k0m0]
  instanceTypes := #[]
  staticTypes := #[]
  resolved := Array.replicate 124 none
  statics := none }

def pool1 : Array CpInfo := pool [(2, .class_ 4), (1, u "java/lang/Object"), (0, u "<init>"), (0, u "()V"), (0, .methodref 8 9), (0, .class_ 10), (0, .nameAndType 11 12), (0, u "lakewright/zstd/SinkPutNumberPinLaw"), (0, u "orig"), (0, u "(JJI)B"), (0, .integer 2147483647), (0, .class_ 15), (0, u "lakewright/zstd/Sink"), (0, .methodref 14 17), (0, .nameAndType 5 18), (0, u "(I)V"), (0, .methodref 14 20), (0, .nameAndType 21 22), (0, u "bytes"), (0, u "()[B"), (0, .methodref 14 24), (0, .nameAndType 25 26), (0, u "putNumber"), (0, u "(IJI)V"), (0, .methodref 14 28), (0, .nameAndType 29 30), (0, u "size"), (0, u "()I"), (0, .methodref 8 32), (0, .nameAndType 33 34), (0, u "ok"), (0, u "([BIIJIJJ)Z"), (3, u "law"), (0, u "(IJIJJ)Z")] 4

def k1m0 : Method := { name := "<init>", desc := "()V", sig := { parameters := [], returnType := none }, accessFlags := 1, code := none }
def k1c1 : Code := { maxStack := 5, maxLocals := 5, code := method_2_code, exceptionTable := #[], attributes := #[] }
def k1m1 : Method := { name := "orig", desc := "(JJI)B", sig := { parameters := [.long, .long, .int], returnType := some .byte }, accessFlags := 10, code := some k1c1 }
def k1c2 : Code := { maxStack := 5, maxLocals := 12, code := method_3_code, exceptionTable := #[], attributes := #[] }
def k1m2 : Method := { name := "ok", desc := "([BIIJIJJ)Z", sig := { parameters := [(.array .byte), .int, .int, .long, .int, .long, .long], returnType := some .boolean }, accessFlags := 10, code := some k1c2 }
def k1c3 : Code := { maxStack := 10, maxLocals := 13, code := code, exceptionTable := #[], attributes := #[] }
def k1m3 : Method := { name := "law", desc := "(IJIJJ)Z", sig := { parameters := [.int, .long, .int, .long, .long], returnType := some .boolean }, accessFlags := 9, code := some k1c3 }
/-- lakewright/zstd/SinkPutNumberPinLaw -/
def k1 : Class := { plain "lakewright/zstd/SinkPutNumberPinLaw" (some 0) with
  accessFlags := 49
  interfaces := #[]
  cf := some (fileOf pool1 8 #[] #[{ accessFlags := 1, nameIndex := 5, descriptorIndex := 6, attributes := #[] }, { accessFlags := 10, nameIndex := 11, descriptorIndex := 12, attributes := #[] }, { accessFlags := 10, nameIndex := 33, descriptorIndex := 34, attributes := #[] }, { accessFlags := 9, nameIndex := 38, descriptorIndex := 39, attributes := #[] }] 49 2 #[] #[])
  fields := #[]
  methods := #[k1m0, k1m1, k1m2, k1m3]
  instanceTypes := #[]
  staticTypes := #[]
  resolved := Array.replicate 44 none
  statics := none }

def pool2 : Array CpInfo := pool [(1, .methodref 2 3), (0, .class_ 4), (0, .nameAndType 5 6), (0, u "java/lang/Object"), (0, u "<init>"), (0, u "()V"), (0, .methodref 8 9), (0, .class_ 10), (0, .nameAndType 11 12), (0, u "java/lang/Math"), (0, u "max"), (0, u "(II)I"), (0, .fieldref 14 15), (0, .class_ 16), (0, .nameAndType 17 18), (0, u "lakewright/zstd/Sink"), (0, u "bytes"), (0, u "[B"), (0, .fieldref 14 20), (0, .nameAndType 21 22), (0, u "size"), (0, u "I"), (11, u "(I)V"), (14, u "()[B"), (0, u "()I"), (7, u "putNumber"), (0, u "(IJI)V")] 3

def k2c0 : Code := { maxStack := 3, maxLocals := 2, code := prog_116_method_1_code, exceptionTable := #[], attributes := #[] }
def k2m0 : Method := { name := "<init>", desc := "(I)V", sig := { parameters := [.int], returnType := none }, accessFlags := 0, code := some k2c0 }
def k2c1 : Code := { maxStack := 1, maxLocals := 1, code := prog_116_method_2_code, exceptionTable := #[], attributes := #[] }
def k2m1 : Method := { name := "bytes", desc := "()[B", sig := { parameters := [], returnType := some (.array .byte) }, accessFlags := 0, code := some k2c1 }
def k2c2 : Code := { maxStack := 1, maxLocals := 1, code := prog_116_method_3_code, exceptionTable := #[], attributes := #[] }
def k2m2 : Method := { name := "size", desc := "()I", sig := { parameters := [], returnType := some .int }, accessFlags := 0, code := some k2c2 }
def k2c3 : Code := { maxStack := 6, maxLocals := 6, code := prog_116_method_10_code, exceptionTable := #[], attributes := #[] }
def k2m3 : Method := { name := "putNumber", desc := "(IJI)V", sig := { parameters := [.int, .long, .int], returnType := none }, accessFlags := 0, code := some k2c3 }
/-- lakewright/zstd/Sink -/
def k2 : Class := { plain "lakewright/zstd/Sink" (some 0) with
  accessFlags := 48
  interfaces := #[]
  cf := some (fileOf pool2 14 #[] #[{ accessFlags := 0, nameIndex := 5, descriptorIndex := 34, attributes := #[] }, { accessFlags := 0, nameIndex := 17, descriptorIndex := 49, attributes := #[] }, { accessFlags := 0, nameIndex := 21, descriptorIndex := 50, attributes := #[] }, { accessFlags := 0, nameIndex := 58, descriptorIndex := 59, attributes := #[] }] 48 2 #[] #[{ accessFlags := 2, nameIndex := 17, descriptorIndex := 18, attributes := #[] }, { accessFlags := 2, nameIndex := 21, descriptorIndex := 22, attributes := #[] }])
  fields := #[{ name := "bytes", type := (.array .byte), accessFlags := 2, slot := 0, constantValue := 0 }, { name := "size", type := .int, accessFlags := 2, slot := 1, constantValue := 0 }]
  methods := #[k2m0, k2m1, k2m2, k2m3]
  instanceTypes := #[(.array .byte), .int]
  staticTypes := #[]
  resolved := Array.replicate 63 none
  statics := none }

def pool3 : Array CpInfo := pool [(1, .class_ 2), (0, u "java/lang/Math"), (1, .class_ 6), (1, u "java/lang/Object"), (0, u "<init>"), (0, u "()V"), (89, .class_ 100), (1, u "java/lang/Math$RandomNumberGeneratorHolder"), (71, u "negativeZeroFloatBits"), (0, u "J"), (2, u "negativeZeroDoubleBits"), (21, u "max"), (46, u "$assertionsDisabled"), (0, u "Z"), (88, u "(II)I"), (2, u "twoToTheDoubleScaleDown"), (0, u "D"), (4, u "twoToTheDoubleScaleUp"), (9, u "E"), (3, u "PI"), (2, u "TAU"), (2, u "DEGREES_TO_RADIANS"), (0, u "RADIANS_TO_DEGREES")] 94

def k3m0 : Method := { name := "<init>", desc := "()V", sig := { parameters := [], returnType := none }, accessFlags := 2, code := none }
def k3c1 : Code := { maxStack := 2, maxLocals := 2, code := jdk_29_method_65_code, exceptionTable := #[], attributes := #[] }
def k3m1 : Method := { name := "max", desc := "(II)I", sig := { parameters := [.int, .int], returnType := some .int }, accessFlags := 9, code := some k3c1 }
/-- java/lang/Math -/
def k3 : Class := { plain "java/lang/Math" (some 0) with
  accessFlags := 49
  interfaces := #[]
  cf := some (fileOf pool3 1 #[.nestMembers #[98]] #[{ accessFlags := 2, nameIndex := 7, descriptorIndex := 8, attributes := #[] }, { accessFlags := 9, nameIndex := 198, descriptorIndex := 335, attributes := #[] }] 49 4 #[] #[{ accessFlags := 25, nameIndex := 354, descriptorIndex := 339, attributes := #[] }, { accessFlags := 25, nameIndex := 358, descriptorIndex := 339, attributes := #[] }, { accessFlags := 25, nameIndex := 361, descriptorIndex := 339, attributes := #[] }, { accessFlags := 26, nameIndex := 364, descriptorIndex := 339, attributes := #[] }, { accessFlags := 26, nameIndex := 365, descriptorIndex := 339, attributes := #[] }, { accessFlags := 26, nameIndex := 172, descriptorIndex := 173, attributes := #[] }, { accessFlags := 26, nameIndex := 176, descriptorIndex := 173, attributes := #[] }, { accessFlags := 8, nameIndex := 344, descriptorIndex := 339, attributes := #[] }, { accessFlags := 8, nameIndex := 338, descriptorIndex := 339, attributes := #[] }, { accessFlags := 4120, nameIndex := 245, descriptorIndex := 246, attributes := #[] }])
  fields := #[{ name := "E", type := .double, accessFlags := 25, slot := 0, constantValue := 0 }, { name := "PI", type := .double, accessFlags := 25, slot := 1, constantValue := 0 }, { name := "TAU", type := .double, accessFlags := 25, slot := 2, constantValue := 0 }, { name := "DEGREES_TO_RADIANS", type := .double, accessFlags := 26, slot := 3, constantValue := 0 }, { name := "RADIANS_TO_DEGREES", type := .double, accessFlags := 26, slot := 4, constantValue := 0 }, { name := "negativeZeroFloatBits", type := .long, accessFlags := 26, slot := 5, constantValue := 0 }, { name := "negativeZeroDoubleBits", type := .long, accessFlags := 26, slot := 6, constantValue := 0 }, { name := "twoToTheDoubleScaleUp", type := .double, accessFlags := 8, slot := 7, constantValue := 0 }, { name := "twoToTheDoubleScaleDown", type := .double, accessFlags := 8, slot := 8, constantValue := 0 }, { name := "$assertionsDisabled", type := .boolean, accessFlags := 4120, slot := 9, constantValue := 0 }]
  methods := #[k3m0, k3m1]
  instanceTypes := #[]
  staticTypes := #[.double, .double, .double, .double, .double, .long, .long, .double, .double, .boolean]
  resolved := Array.replicate 460 none
  statics := none }

def pool4 : Array CpInfo := pool [(1, u "java/lang/Cloneable"), (0, .class_ 1), (0, u "java/lang/Object"), (0, .class_ 3)] 3

/-- java/lang/Cloneable -/
def k4 : Class := { plain "java/lang/Cloneable" (some 0) with
  accessFlags := 1537
  interfaces := #[]
  cf := some (fileOf pool4 2 #[] #[] 1537 4 #[] #[])
  fields := #[]
  methods := #[]
  instanceTypes := #[]
  staticTypes := #[]
  resolved := Array.replicate 8 none
  statics := none }

def pool5 : Array CpInfo := pool [(1, u "java/io/Serializable"), (0, .class_ 1), (0, u "java/lang/Object"), (0, .class_ 3)] 3

/-- java/io/Serializable -/
def k5 : Class := { plain "java/io/Serializable" (some 0) with
  accessFlags := 1537
  interfaces := #[]
  cf := some (fileOf pool5 2 #[] #[] 1537 4 #[] #[])
  fields := #[]
  methods := #[]
  instanceTypes := #[]
  staticTypes := #[]
  resolved := Array.replicate 8 none
  statics := none }

/-- the primitive byte -/
def k6 : Class := { plain "byte" none with kind := .primitive 'B', accessFlags := 0x411 }
/-- [B -/
def k7 : Class := { plain "[B" (some 0) with kind := .array 6 .byte, interfaces := #[4, 5], accessFlags := 1041 }

/-- the primitive int -/
def k8 : Class := { plain "int" none with kind := .primitive 'I', accessFlags := 0x411 }
/-- [I -/
def k9 : Class := { plain "[I" (some 0) with kind := .array 8 .int, interfaces := #[4, 5], accessFlags := 1041 }

def heap : Heap := #[]
def classes : Array Class := #[k0, k1, k2, k3, k4, k5, k6, k7, k8, k9]
def interned : List (Array UInt16 × Addr) := []
def slotsUsed : Nat := 0
def theMethod : MethodId := ⟨1, 3⟩
def args0 : Array Value := #[.int 5, .long 7, .int 3, .long 2, .long 9]
def aboutOver (below : List Frame) : State where
  vm := { classes := classes, interned := interned.toArray }
  heap := heap
  slotsUsed := slotsUsed
  threads := #[{ frames := .invoking theMethod args0 :: below }]
def below0 : List Frame := [.native { method := ⟨0, 0⟩, args := #[] }]
def about1 : State := aboutOver below0
def p0 : Program := .bare "" "" ""
def e0 : Env := launch0.env 0 0 0
theorem w_frames : about1.frames = Frame.invoking theMethod args0 :: below0 := rfl
set_option maxRecDepth 65536 in
theorem w_args : argsFit about1.vm theMethod args0 = true := by decide +kernel
set_option maxRecDepth 65536 in
theorem w_heap : heapFits about1 = true := by decide +kernel
set_option maxRecDepth 65536 in
theorem w_runnable : about1.curStatus? = some .runnable := by decide +kernel
set_option maxRecDepth 65536 in
theorem w_alone : about1.alone = true := by decide +kernel
set_option maxRecDepth 65536 in
theorem w_named : about1.methodNamed? x = some theMethod := by decide +kernel
set_option maxRecDepth 65536 in
theorem w_hears : about1.hears theMethod below0 = true := by decide +kernel
set_option maxRecDepth 65536 in
theorem w_ripe : about1.ripe theMethod args0 below0 = true := by decide +kernel
theorem w_running : about1.status = .running := rfl
set_option maxRecDepth 65536 in
theorem w_room : about1.hasRoom e0.platform room_1 = true :=
  launch0.hasRoom_least _ room_1 (by decide +kernel) (by decide +kernel) (by decide +kernel) (by decide +kernel) (by decide +kernel) (by decide +kernel)
theorem allAtoms_all (ts : List Jvm.Cond) (a : Array Jvm.Value) (st : Jvm.State) : (allAtoms ts).before a st = ts.all (fun c => c.before a st) := by
  induction ts with
  | nil => rfl
  | cons c t ih =>
    show (Jvm.Cond.and c (allAtoms t)).before a st = _
    rw [Jvm.Cond.before_and, ih, List.all_cons]
def words1 : List Jvm.Cond := Jvm.Cond.code x code maxLocals ret :: tables_1
/-- a 'code' word, met by the world's own term for the bytes: nothing is compared byte by byte -/
theorem code_word {y : MethodName} {bytes : ByteArray} {mx : Nat} {rt : Option FieldType} {a : Array Value} {s : State} {m : MethodId} {meth : Method} {c : Code} (h1 : s.methodNamed? y = some m) (h2 : s.vm.method? m = some meth) (h3 : meth.code = some c) (h4 : c.code = bytes)
    (h5 : (c.maxLocals == mx && c.exceptionTable.isEmpty && decide (c.maxStack ≤ mostOperands) && decide (meth.sig.returnType = rt) && !meth.locks && decide (parseMethodDescriptor y.desc = some meth.sig)) = true) : (Jvm.Cond.code y bytes mx rt).before a s = true := by
  simp only [Bool.and_eq_true, beq_iff_eq, Bool.not_eq_true', decide_eq_true_eq] at h5
  obtain ⟨⟨⟨⟨⟨g1, g2⟩, g3⟩, g4⟩, g5⟩, g6⟩ := h5
  simp [Cond.before, Cond.holds, Cond.value, h1, h2, h3, h4, g1, g2, g3, g4, g5, g6]
def isCode : Jvm.Cond → Bool
  | .code _ _ _ _ => true
  | _ => false
theorem all_split {L : List Jvm.Cond} {P : Jvm.Cond → Bool} (h1 : L.all (fun c => isCode c || P c) = true) (h2 : ∀ c ∈ L.filter isCode, P c = true) : L.all P = true := by
  refine List.all_eq_true.mpr fun c hc => ?_
  have h := List.all_eq_true.mp h1 c hc
  rcases Bool.eq_false_or_eq_true (isCode c) with hi | hi
  · exact h2 c (List.mem_filter.mpr ⟨hc, hi⟩)
  · simpa [hi] using h
set_option maxRecDepth 65536 in
theorem w_c0 : (Jvm.Cond.code x code maxLocals ret).before args0 about1 = true := code_word (m := ⟨1, 3⟩) (meth := k1m3) (c := k1c3) (by decide +kernel) rfl rfl rfl (by decide +kernel)
set_option maxRecDepth 65536 in
theorem w_c1 : (Jvm.Cond.code ({ cls := "lakewright/zstd/Sink", name := "<init>", desc := "(I)V" } : Jvm.MethodName) prog_116_method_1_code (2 : Nat) (Option.none : Option Jvm.ClassFile.FieldType)).before args0 about1 = true := code_word (m := ⟨2, 0⟩) (meth := k2m0) (c := k2c0) (by decide +kernel) rfl rfl rfl (by decide +kernel)
set_option maxRecDepth 65536 in
theorem w_c2 : (Jvm.Cond.code ({ cls := "java/lang/Object", name := "<init>", desc := "()V" } : Jvm.MethodName) object_method_1_code (1 : Nat) (Option.none : Option Jvm.ClassFile.FieldType)).before args0 about1 = true := code_word (m := ⟨0, 0⟩) (meth := k0m0) (c := k0c0) (by decide +kernel) rfl rfl rfl (by decide +kernel)
set_option maxRecDepth 65536 in
theorem w_c3 : (Jvm.Cond.code ({ cls := "java/lang/Math", name := "max", desc := "(II)I" } : Jvm.MethodName) jdk_29_method_65_code (2 : Nat) (Option.some Jvm.ClassFile.FieldType.int)).before args0 about1 = true := code_word (m := ⟨3, 1⟩) (meth := k3m1) (c := k3c1) (by decide +kernel) rfl rfl rfl (by decide +kernel)
set_option maxRecDepth 65536 in
theorem w_c4 : (Jvm.Cond.code ({ cls := "lakewright/zstd/Sink", name := "bytes", desc := "()[B" } : Jvm.MethodName) prog_116_method_2_code (1 : Nat) (Option.some (Jvm.ClassFile.FieldType.array Jvm.ClassFile.FieldType.byte))).before args0 about1 = true := code_word (m := ⟨2, 1⟩) (meth := k2m1) (c := k2c1) (by decide +kernel) rfl rfl rfl (by decide +kernel)
set_option maxRecDepth 65536 in
theorem w_c5 : (Jvm.Cond.code ({ cls := "lakewright/zstd/SinkPutNumberPinLaw", name := "orig", desc := "(JJI)B" } : Jvm.MethodName) method_2_code (5 : Nat) (Option.some Jvm.ClassFile.FieldType.byte)).before args0 about1 = true := code_word (m := ⟨1, 1⟩) (meth := k1m1) (c := k1c1) (by decide +kernel) rfl rfl rfl (by decide +kernel)
set_option maxRecDepth 65536 in
theorem w_c6 : (Jvm.Cond.code ({ cls := "lakewright/zstd/Sink", name := "putNumber", desc := "(IJI)V" } : Jvm.MethodName) prog_116_method_10_code (6 : Nat) (Option.none : Option Jvm.ClassFile.FieldType)).before args0 about1 = true := code_word (m := ⟨2, 3⟩) (meth := k2m3) (c := k2c3) (by decide +kernel) rfl rfl rfl (by decide +kernel)
set_option maxRecDepth 65536 in
theorem w_c7 : (Jvm.Cond.code ({ cls := "lakewright/zstd/Sink", name := "size", desc := "()I" } : Jvm.MethodName) prog_116_method_3_code (1 : Nat) (Option.some Jvm.ClassFile.FieldType.int)).before args0 about1 = true := code_word (m := ⟨2, 2⟩) (meth := k2m2) (c := k2c2) (by decide +kernel) rfl rfl rfl (by decide +kernel)
set_option maxRecDepth 65536 in
theorem w_c8 : (Jvm.Cond.code ({ cls := "lakewright/zstd/SinkPutNumberPinLaw", name := "ok", desc := "([BIIJIJJ)Z" } : Jvm.MethodName) method_3_code (12 : Nat) (Option.some Jvm.ClassFile.FieldType.boolean)).before args0 about1 = true := code_word (m := ⟨1, 2⟩) (meth := k1m2) (c := k1c2) (by decide +kernel) rfl rfl rfl (by decide +kernel)
def codes1 : List Jvm.Cond := [Jvm.Cond.code x code maxLocals ret, Jvm.Cond.code ({ cls := "lakewright/zstd/Sink", name := "<init>", desc := "(I)V" } : Jvm.MethodName) prog_116_method_1_code (2 : Nat) (Option.none : Option Jvm.ClassFile.FieldType), Jvm.Cond.code ({ cls := "java/lang/Object", name := "<init>", desc := "()V" } : Jvm.MethodName) object_method_1_code (1 : Nat) (Option.none : Option Jvm.ClassFile.FieldType), Jvm.Cond.code ({ cls := "java/lang/Math", name := "max", desc := "(II)I" } : Jvm.MethodName) jdk_29_method_65_code (2 : Nat) (Option.some Jvm.ClassFile.FieldType.int), Jvm.Cond.code ({ cls := "lakewright/zstd/Sink", name := "bytes", desc := "()[B" } : Jvm.MethodName) prog_116_method_2_code (1 : Nat) (Option.some (Jvm.ClassFile.FieldType.array Jvm.ClassFile.FieldType.byte)), Jvm.Cond.code ({ cls := "lakewright/zstd/SinkPutNumberPinLaw", name := "orig", desc := "(JJI)B" } : Jvm.MethodName) method_2_code (5 : Nat) (Option.some Jvm.ClassFile.FieldType.byte), Jvm.Cond.code ({ cls := "lakewright/zstd/Sink", name := "putNumber", desc := "(IJI)V" } : Jvm.MethodName) prog_116_method_10_code (6 : Nat) (Option.none : Option Jvm.ClassFile.FieldType), Jvm.Cond.code ({ cls := "lakewright/zstd/Sink", name := "size", desc := "()I" } : Jvm.MethodName) prog_116_method_3_code (1 : Nat) (Option.some Jvm.ClassFile.FieldType.int), Jvm.Cond.code ({ cls := "lakewright/zstd/SinkPutNumberPinLaw", name := "ok", desc := "([BIIJIJJ)Z" } : Jvm.MethodName) method_3_code (12 : Nat) (Option.some Jvm.ClassFile.FieldType.boolean)]
set_option maxRecDepth 65536 in
theorem codes_eq : words1.filter isCode = codes1 := rfl
theorem w_codes : ∀ c ∈ words1.filter isCode, c.before args0 about1 = true := by
  rw [codes_eq]
  intro c hc
  simp only [codes1, List.mem_cons, List.not_mem_nil, or_false] at hc
  rcases hc with rfl | rfl | rfl | rfl | rfl | rfl | rfl | rfl | rfl
  · exact w_c0
  · exact w_c1
  · exact w_c2
  · exact w_c3
  · exact w_c4
  · exact w_c5
  · exact w_c6
  · exact w_c7
  · exact w_c8
set_option maxRecDepth 65536 in
theorem w_t1 : (words1.take 24).all (fun c => isCode c || c.before args0 about1) = true := by decide +kernel
set_option maxRecDepth 65536 in
theorem w_t2 : (words1.drop 24).all (fun c => isCode c || c.before args0 about1) = true := by decide +kernel
theorem w_tables : (allAtoms (Jvm.Cond.code x code maxLocals ret :: tables_1)).before args0 about1 = true := by
  rw [allAtoms_all]
  show words1.all (fun c => c.before args0 about1) = true
  refine all_split ?_ w_codes
  rw [← List.take_append_drop 24 words1, List.all_append, w_t1, w_t2]
  rfl
set_option maxRecDepth 65536 in
theorem w_case : (Jvm.Cond.and given_1 narrow_1).before args0 about1 = true := by decide +kernel
theorem w_applies : (headSpec (Jvm.Cond.code x code maxLocals ret :: tables_1) room_1).applies x e0.platform about1 = true :=
  (Spec.applies_iff w_frames).mpr ⟨w_running, w_runnable, w_alone, w_named, w_hears, w_ripe, w_room, w_tables⟩
theorem atStart : AtStart classFile x code maxLocals ret World_1 tables_1 room_1 Calls_1 rest_1 Pre_1 launch0 p0 e0 about1 theMethod args0 below0 :=
  ⟨lists_1, trivial, launch0.admits_env _ _ _, launch0.least_env, fairChoices_fair.cas, fairChoices_fair.clock, w_frames, w_args, w_heap, w_applies, trivial, trivial, w_case⟩
end start1
theorem witness_1 : WitnessClaimed_1 := ⟨start1.p0, start1.e0, start1.about1, start1.theMethod, start1.args0, start1.below0, start1.atStart⟩
end Jvm.Pilot.@@N@@
