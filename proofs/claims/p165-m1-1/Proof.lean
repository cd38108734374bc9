import JvmDerived
import JvmDerived.Pilot.@@N@@Statement
import JvmDerived.Pilot.@@N@@Code
set_option linter.unusedVariables false
set_option linter.unusedSimpArgs false
namespace Jvm.RoadKit
open Sem ClassFile Op Lib Jvm.Stand Jvm.Free Jvm.LawKit
section New
variable {p : Program} {l : Launch} {e : Env} {R : Room} {s : State} {m : MethodId} {args : Array Value} {below : List Frame} {meth : Method} {c : Code} {T : State} {locs : List Loc} {cells slots : Nat}
theorem retI (X : Stand p l e R s m args below meth c T locs cells slots) (hx : p.tables.exec = Jvm.exec) {pc : Nat} {Ls : Array Slot} {z : Int32} {rest : List Value} (hret : meth.sig.returnType = some .int) (hd : decode c.code pc = .ok (.ireturn, 1)) {fs : List Frame}
    (hl : ∀ (f : JFrame) (acts : List Action), f.method = m → f.locked = none → f.entered = [] → (doReturn e (T.setTop f) acts (some (.int z))).1 = T.setFrames fs) : Steps p.tables e below (T.setTop (mkF m pc Ls (.int z :: rest))) (T.setFrames fs) := by
  have hm' : T.vm.method? m = some meth := X.method'
  have hn : narrow .int (.int z) = .int z := rfl
  show Steps p.tables e below (T.setTop { method := m, pc := pc, locals := Ls, stack := _ :: rest, locked := none }) _
  jvm_step X.here [X.here.top, hx, hd, hm', hret, hn]
  first | (intro acts; rw [hl _ acts rfl rfl rfl]) | rw [hl _ _ rfl rfl rfl]
  exact Steps.refl _
end New
end Jvm.RoadKit
namespace Jvm.Pilot.@@N@@
open Jvm Jvm.ClassFile Sem Op Lib Jvm.Free Jvm.Stand Jvm.LawKit Jvm.RoadKit Bundle Jvm.Pilot.@@N@@.Jvm.D
/-! ### the frame of this text: 'Ends': the run from u ends in a return that Q says -/
section OwnFrame
variable {p : Program} {l : Launch} {e : Env} {R : Room} {s : State} {m : MethodId} {args : Array Value} {below : List Frame} {meth : Method} {c : Code} {T : State} {locs : List Loc} {cells slots cs ss : Nat} {Z : State} {a0 : Array Value} {h h' : Heap} {Q : Option Value → Heap → List Loc → Prop} {u u' : State}
def Ends (p : Program) (e : Env) (below : List Frame) (s : State) (cs ss : Nat) (Q : Option Value → Heap → List Loc → Prop) (u : State) : Prop :=
  ∃ t v L, Steps p.tables e below u t ∧ t.status = .running ∧ Ended t below (.returned v) ∧ Q v t.heap L ∧ s.WarmedH t.vm ∧ s.sameButNew ({ t with vm := s.vm } : State) L cs ss
theorem Ends.step (h : Ends p e below s cs ss Q u') (k : ∀ t, Steps p.tables e below u' t → Steps p.tables e below u t) : Ends p e below s cs ss Q u := by
  obtain ⟨t, v, L, h1, r⟩ := h; exact ⟨t, v, L, k t h1, r⟩
theorem Ends.ret (X : Stand p l e R s m args below meth c T locs cells slots) {v : Option Value} (hv : meth.sig.returnType = none → v = none) (hlk : meth.locks = false)
    (k : ∀ fs, (∀ (f : JFrame) (acts : List Action), f.method = m → f.locked = none → f.entered = [] → (doReturn e (T.setTop f) acts v).1 = T.setFrames fs) → Steps p.tables e below u (T.setFrames fs))
    (hc : cells ≤ cs) (hs : slots ≤ ss) (hq : Q v T.heap locs) : Ends p e below s cs ss Q u := by
  obtain ⟨fs, hr, hrun, hended, hW, hsame⟩ := X.leave (v := v) hv hlk
  exact ⟨T.setFrames fs, v, locs, k fs hr, hrun, hended, hq, hW, hsame.mono hc hs⟩
/-- what a body promises -/
abbrev Meets (l : Launch) (Z : State) (y : MethodName) (bytes : ByteArray) (maxL : Nat) (ret : Option FieldType) (ws : List Jvm.Cond) (rm : Room) (as' : Array Value) (h : Heap) (Q : Option Value → Heap → List Loc → Prop) (cs ss : Nat) : Prop :=
  MetFree l y (head1 (Jvm.Cond.code y bytes maxL ret :: ws) rm) (fun a U => a = as' ∧ Z.Warmed39 U.vm ∧ U.heap = h) (fun _ _ _ _ _ => True) (fun _ U o U' => ∃ v L, o = .returned v ∧ Q v U'.heap L ∧ FrameEnd U o U' L cs ss)
theorem Meets.of {y : MethodName} {bytes : ByteArray} {maxL : Nat} {ret : Option FieldType} {ws : List Jvm.Cond} {rm : Room} {as' : Array Value} (pn : plainFor y = true)
    (k : ∀ (p : Program) (e : Env) (s : State) (m : MethodId) (below : List Frame) (meth : Method) (c : Code) (s₁ : State), p.tables.exec = Jvm.exec → c.code = bytes → c.maxLocals = maxL → Z.Warmed39 s.vm → s.vm.findClass y.cls = some m.cls → meth.name = y.name → meth.sig.returnType = ret → meth.locks = false →
      Stand p l e rm s m as' below meth c s₁ [] 0 0 → s₁.heap = h → Ends p e below s cs ss Q (s₁.setTop (entryFrame m as' maxL))) : Meets l Z y bytes maxL ret ws rm as' h Q cs ss := by
  refine MetFree.of_bodySF pn hisR ?_
  intro p e s m args below meth c s₁ Bd hml0 hP hK
  obtain ⟨rfl, hZ, hh⟩ := hP
  obtain ⟨t, v, L, h1, h2, h3, h4, h5, h6⟩ := k p e s m below meth c s₁ Bd.exec Bd.bytes hml0 hZ (findClass_of_methodNamed Bd.named) (name_of_methodNamed Bd.named Bd.method).1 Bd.returns (BodyLoose.notSynchronized Bd) (Stand.of_body Bd) (by rw [← hh, Bd.state]; rfl)
  exact ⟨t, .returned v, h1, h2, h3, v, L, rfl, h4, ⟨_, rfl⟩, h5, h6⟩
theorem Ends.callS (X : Stand p l e R s m args below meth c T locs cells slots) (hx : p.tables.exec = Jvm.exec) (hZ : Z.Warmed39 s.vm) {own : String} {index : Nat} {y : MethodName} {bytes : ByteArray} {maxL : Nat} {ret : Option FieldType}
    (hown : s.vm.findClass own = some m.cls) (w1 : (Jvm.Cond.methodLink own index y).before a0 Z = true) (w2 : (Jvm.Cond.static y).before a0 Z = true) (w3 : (Jvm.Cond.initialized y.cls).before a0 Z = true) (w4 : (Jvm.Cond.code y bytes maxL ret).before a0 Z = true)
    (hy : y.cls ≠ "java/lang/invoke/MethodHandle" ∧ y.cls ≠ "java/lang/invoke/VarHandle") {rm : Room} {as' : Array Value} {Q' : Option Value → Heap → List Loc → Prop} (hM : Meets l Z y bytes maxL ret [] rm as' h Q' rm.cells rm.slots)
    (W : Nat) (hf : rm.frames + 1 ≤ R.frames) (hl : W + (maxL + 11) + rm.locals ≤ R.locals) (eT : T.heap = h) {g : JFrame} (hg : g.method = m) (hsize : g.locals.size = c.maxLocals) (argsL rest : List Value)
    (hlen : ∀ sig, parseMethodDescriptor y.desc = some sig → argsL.length = sig.parameters.length) (hstack : g.stack = argsL.reverse ++ rest) (hW : 2 * g.monitorRoom + (rest.map fun v => v.category).sum ≤ W) (hdg : decode c.code g.pc = .ok (.invokestatic index, 3))
    (ha : argsL.toArray = as') (hc : cells + rm.cells ≤ R.cells) (hs : slots + rm.slots ≤ R.slots)
    (k : ∀ v T' L, Stand p l e R s m args below meth c T' (locs ++ L) (cells + rm.cells) (slots + rm.slots) → Q' v T'.heap L → Ends p e below s cs ss Q (T'.setTop { g with pc := g.pc + 3, stack := v.toList ++ rest })) : Ends p e below s cs ss Q (T.setTop g) := by
  obtain ⟨v, _, ⟨T', L', k', n'⟩, -, X', ⟨Lc, hQ, rfl, rfl, rfl⟩, st⟩ := Jvm.LawKit.callS X hx (y := y) hown (mvT hZ w1) (mvT hZ w2) (mvT hZ w3) (mvT hZ w4) hy (backOf (W := W) hM hZ w4 w3 hf hl) hg hsize (argsL := argsL) (rest := rest) hlen hstack hW hdg (fun _ _ => ⟨ha, eT, hc, hs⟩)
  exact (k v T' Lc X' hQ).step st
theorem Ends.callC (X : Stand p l e R s m args below meth c T locs cells slots) (hx : p.tables.exec = Jvm.exec) (hZ : Z.Warmed39 s.vm) {own : String} {index : Nat} {y : MethodName} {bytes : ByteArray} {maxL : Nat} (hy1 : y.name = "<init>")
    (hown : s.vm.findClass own = some m.cls) (w1 : (Jvm.Cond.methodLink own index y).before a0 Z = true) (w2 : (Jvm.Cond.instanceMethod y).before a0 Z = true) (w3 : (Jvm.Cond.initialized y.cls).before a0 Z = true) (w4 : (Jvm.Cond.code y bytes maxL none).before a0 Z = true)
    (hy : y.cls ≠ "java/lang/invoke/MethodHandle" ∧ y.cls ≠ "java/lang/invoke/VarHandle") {rm : Room} {as' : Array Value} {Q' : Option Value → Heap → List Loc → Prop} (hM : Meets l Z y bytes maxL none [] rm as' h Q' rm.cells rm.slots)
    (W : Nat) (hf : rm.frames + 1 ≤ R.frames) (hl : W + (maxL + 11) + rm.locals ≤ R.locals) (eT : T.heap = h) {g : JFrame} (hg : g.method = m) (hsize : g.locals.size = c.maxLocals) (a : Addr) (argsL rest : List Value)
    (hlen : ∀ sig, parseMethodDescriptor y.desc = some sig → argsL.length = sig.parameters.length) (hstack : g.stack = argsL.reverse ++ .ref a :: rest) (hW : 2 * g.monitorRoom + (rest.map fun v => v.category).sum ≤ W) (hdg : decode c.code g.pc = .ok (.invokespecial index, 3))
    (ha : (.ref a :: argsL).toArray = as') (hc : cells + rm.cells ≤ R.cells) (hs : slots + rm.slots ≤ R.slots)
    (k : ∀ v T' L, Stand p l e R s m args below meth c T' (locs ++ L) (cells + rm.cells) (slots + rm.slots) → Q' v T'.heap L → Ends p e below s cs ss Q (T'.setTop { g with pc := g.pc + 3, stack := v.toList ++ rest })) : Ends p e below s cs ss Q (T.setTop g) := by
  obtain ⟨v, _, ⟨T', L', k', n'⟩, -, X', ⟨Lc, hQ, rfl, rfl, rfl⟩, st⟩ := X.specialBack hx (y := y) hy1 hown (mvT hZ w1) (mvT hZ w2) (mvT hZ w4) hy (backOf (W := W) hM hZ w4 w3 hf hl) hg hsize (Steps.refl _) (a := a) (argsL := argsL) (rest := rest) hlen hstack hW hdg (fun _ _ => ⟨ha, eT, hc, hs⟩)
  exact (k v T' Lc X' hQ).step (fun _ q => st.trans q)
theorem Ends.callV (X : Stand p l e R s m args below meth c T locs cells slots) (hx : p.tables.exec = Jvm.exec) (hZ : Z.Warmed39 s.vm) {own C : String} {index : Nat} {y : MethodName} {bytes : ByteArray} {maxL : Nat} {ret : Option FieldType}
    (hown : s.vm.findClass own = some m.cls) (w1 : (Jvm.Cond.methodLink own index y).before a0 Z = true) (wd : (Jvm.Cond.declares y).before a0 Z = true) (wsel : (Jvm.Cond.selects C y y).before a0 Z = true) (w2 : (Jvm.Cond.instanceMethod y).before a0 Z = true) (w3 : (Jvm.Cond.initialized y.cls).before a0 Z = true) (w4 : (Jvm.Cond.code y bytes maxL ret).before a0 Z = true)
    (hy : y.cls ≠ "java/lang/invoke/MethodHandle" ∧ y.cls ≠ "java/lang/invoke/VarHandle") {rm : Room} {as' : Array Value} {Q' : Option Value → Heap → List Loc → Prop} (hM : Meets l Z y bytes maxL ret [] rm as' h Q' rm.cells rm.slots)
    (W : Nat) (hf : rm.frames + 1 ≤ R.frames) (hl : W + (maxL + 11) + rm.locals ≤ R.locals) (eT : T.heap = h) (a : Addr) (E : Exa Z h a C) {g : JFrame} (hg : g.method = m) (hsize : g.locals.size = c.maxLocals) (argsL rest : List Value)
    (hlen : ∀ sig, parseMethodDescriptor y.desc = some sig → argsL.length = sig.parameters.length) (hstack : g.stack = argsL.reverse ++ .ref a :: rest) (hW : 2 * g.monitorRoom + (rest.map fun v => v.category).sum ≤ W) (hdg : decode c.code g.pc = .ok (.invokevirtual index, 3))
    (ha : (.ref a :: argsL).toArray = as') (hc : cells + rm.cells ≤ R.cells) (hs : slots + rm.slots ≤ R.slots)
    (k : ∀ v T' L, Stand p l e R s m args below meth c T' (locs ++ L) (cells + rm.cells) (slots + rm.slots) → Q' v T'.heap L → Ends p e below s cs ss Q (T'.setTop { g with pc := g.pc + 3, stack := v.toList ++ rest })) : Ends p e below s cs ss Q (T.setTop g) := by
  obtain ⟨cq, kq, q1, q2, q3⟩ := isOf (T := T) hZ eT E
  obtain ⟨v, _, ⟨T', L', k', n'⟩, -, X', ⟨Lc, hQ, rfl, rfl, rfl⟩, st⟩ := X.virtualBack hx (y := y) (z := y) hown (mvT hZ w1) (mvT hZ wd) (notFace_of_selects (args := #[]) (mvT hZ wsel)) (mvT hZ wsel) (mvT hZ w2) hy (backOf (W := W) hM hZ w4 w3 hf hl) q1 q3 hg hsize (Steps.refl _) (argsL := argsL) (rest := rest) hlen hstack hW hdg (fun _ _ => ⟨ha, eT, hc, hs⟩)
  exact (k v T' Lc X' hQ).step (fun _ q => st.trans q)
/-! ### arrays of small numbers: what each place holds, as a function -/
def Ar (Z : State) (h : Heap) (a : Addr) (ty : FieldType) (n : Nat) (f : Nat → Int32) : Prop := ∃ cl : Cell, Arr Z h a cl ty ∧ cl.slots.size = n ∧ n < 2 ^ 31 ∧ ∀ i, i < n → cl.slots[i]? = some (.int (f i))
def upd (f : Nat → Int32) (j : Nat) (v : Int32) : Nat → Int32 := fun i => if i = j then v else f i
def inb (j : Int32) (n : Nat) : Prop := ¬ (j < 0 ∨ n ≤ j.toNatClampNeg)
variable {a b : Addr} {ty : FieldType} {n sl : Nat} {f : Nat → Int32} {v : Value} {wsA : List Addr}
theorem Ar.lt (A : Ar Z h a ty n f) : a < h.size := by obtain ⟨cl, A1, -⟩ := A; exact A1.lt
theorem Ar.ext (A : Ar Z h a ty n f) (E : Ext h h') : Ar Z h' a ty n f := by obtain ⟨cl, A1, r⟩ := A; exact ⟨cl, A1.ext E, r⟩
theorem Ar.other (A : Ar Z h b ty n f) (W : Wr h h' a sl v) (q : b ≠ a) : Ar Z h' b ty n f := by obtain ⟨cl, A1, r⟩ := A; exact ⟨cl, A1.other W q, r⟩
theorem Ar.keep (A : Ar Z h a ty n f) (K : Keep h h' wsA) (q : a ∉ wsA) : Ar Z h' a ty n f := by obtain ⟨cl, A1, r⟩ := A; exact ⟨cl, ⟨K.2.1 a cl A1.1 q, A1.2⟩, r⟩
theorem Ar.small (A : Ar Z h a ty n f) : n < 2 ^ 31 := by obtain ⟨cl, A1, -, r, -⟩ := A; exact r
theorem Ar.set {j : Int32} {x : Int32} (A : Ar Z h a ty n f) (W : Wr h h' a j.toNatClampNeg (.int x)) : Ar Z h' a ty n (upd f j.toNatClampNeg x) := by
  obtain ⟨cl, A1, r1, r2, r3⟩ := A
  refine ⟨_, A1.same W, by rw [sz_set]; exact r1, r2, fun i hi => ?_⟩
  by_cases q : i = j.toNatClampNeg
  · subst q; simp [Cell.setSlot, upd, r1, hi]
  · simp only [Cell.setSlot, upd, if_neg q]; rw [Array.getElem?_setIfInBounds_ne (fun z => q z.symm)]; exact r3 i hi
theorem Ar.new {cA : ClassId} {k : Int32} (A : Arr Z h a (newA cA ty k) ty) (q : ¬ k < 0) (hd : defaultValue ty = .int 0) : Ar Z h a ty k.toNatClampNeg (fun _ => 0) :=
  ⟨_, A, sz_new _ _ _, (back32 q).2, fun i hi => by simp [newA, hi, hd]⟩
theorem Ends.newA (X : Stand p l e R s m args below meth c T locs cells slots) (hx : p.tables.exec = Jvm.exec) (hZ : Z.Warmed39 s.vm) {aty : ArrayType} (w : (Jvm.Cond.arrayClass (newarray.typeOf aty)).before a0 Z = true) (eT : T.heap = h) {g : JFrame} (hg : g.method = m) (hd : decode c.code g.pc = .ok (.newarray aty, 2)) {k : Int32} {rest : List Value} (hs : g.stack = .int k :: rest)
    (hdf : defaultValue (newarray.typeOf aty) = .int 0) (hn : ¬ k < 0) (cap : Nat) (hcap : k.toNatClampNeg ≤ cap) (hb : cap * 8 ≤ 536870912) (hc : cells + 1 ≤ R.cells) (hl : slots + cap ≤ R.slots)
    (kk : ∀ T' h' a, Stand p l e R s m args below meth c T' locs (cells + 1) (slots + cap) → T'.heap = h' → Ext h h' → h.size = a → Ar Z h' a (newarray.typeOf aty) k.toNatClampNeg (fun _ => 0) → Ends p e below s cs ss Q (T'.setTop { g with pc := g.pc + 2, stack := .ref a :: rest })) : Ends p e below s cs ss Q (T.setTop g) := by
  obtain ⟨T', h', cA, X', e', E, A, st⟩ := newP X hx hZ w eT hg hd hs hn hcap hb hc hl
  exact (kk T' h' h.size X' e' E rfl (Ar.new A hn hdf)).step st
theorem Ends.iaload (X : Stand p l e R s m args below meth c T locs cells slots) (hx : p.tables.exec = Jvm.exec) (hZ : Z.Warmed39 s.vm) (eT : T.heap = h) (A : Ar Z h a .int n f) {j : Int32} (hj : inb j n) {g : JFrame} (hg : g.method = m) {rest : List Value} (hs : g.stack = .int j :: .ref a :: rest) (hd : decode c.code g.pc = .ok (.iaload, 1))
    (k : Ends p e below s cs ss Q (T.setTop { g with pc := g.pc + 1, stack := .int (f j.toNatClampNeg) :: rest })) : Ends p e below s cs ss Q (T.setTop g) := by
  obtain ⟨cl, A1, r1, -, r3⟩ := A
  subst r1
  exact k.step (X.iaload hx (by rw [eT]; exact A1.1) (State.isArrayOf_alike hZ.alike A1.2.1) A1.2.2 hj (r3 _ (Nat.lt_of_not_le fun q => hj (Or.inr q))) hg hs hd)
theorem Ends.baload (X : Stand p l e R s m args below meth c T locs cells slots) (hx : p.tables.exec = Jvm.exec) (hZ : Z.Warmed39 s.vm) (eT : T.heap = h) (A : Ar Z h a .byte n f) {j : Int32} (hj : inb j n) {g : JFrame} (hg : g.method = m) {rest : List Value} (hs : g.stack = .int j :: .ref a :: rest) (hd : decode c.code g.pc = .ok (.baload, 1))
    (k : Ends p e below s cs ss Q (T.setTop { g with pc := g.pc + 1, stack := .int (f j.toNatClampNeg) :: rest })) : Ends p e below s cs ss Q (T.setTop g) := by
  obtain ⟨cl, A1, r1, -, r3⟩ := A
  subst r1
  exact k.step (X.baloadBytes hx (by rw [eT]; exact A1.1) (State.isArrayOf_alike hZ.alike A1.2.1) A1.2.2 hj (r3 _ (Nat.lt_of_not_le fun q => hj (Or.inr q))) hg hs hd)
theorem Ends.arrlen (X : Stand p l e R s m args below meth c T locs cells slots) (hx : p.tables.exec = Jvm.exec) (hZ : Z.Warmed39 s.vm) (eT : T.heap = h) (A : Ar Z h a ty n f) {g : JFrame} (hg : g.method = m) {rest : List Value} (hs : g.stack = .ref a :: rest) (hd : decode c.code g.pc = .ok (.arraylength, 1))
    (k : Ends p e below s cs ss Q (T.setTop { g with pc := g.pc + 1, stack := .int (Nat.toInt32 n) :: rest })) : Ends p e below s cs ss Q (T.setTop g) := by
  obtain ⟨cl, A1, r1, -, r3⟩ := A
  subst r1
  exact k.step (X.arraylength hx (by rw [eT]; exact A1.1) (State.isArrayOf_alike hZ.alike A1.2.1) hg hs hd)
theorem Ends.iastore (X : Stand p l e R s m args below meth c T locs cells slots) (hx : p.tables.exec = Jvm.exec) (hZ : Z.Warmed39 s.vm) (eT : T.heap = h) (A : Ar Z h a .int n f) {j x : Int32} (hj : inb j n) {n0 : Nat} (N : Fr n0 locs) (ge : n0 ≤ a) {g : JFrame} (hg : g.method = m) {rest : List Value} (hs : g.stack = .int x :: .int j :: .ref a :: rest) (hd : decode c.code g.pc = .ok (.iastore, 1))
    (k : ∀ T' h' sl, Stand p l e R s m args below meth c T' (locs ++ [⟨a, sl⟩]) cells slots → T'.heap = h' → Fr n0 (locs ++ [⟨a, sl⟩]) → Wr h h' a sl (.int x) → Ar Z h' a .int n (upd f j.toNatClampNeg x) → Ends p e below s cs ss Q (T'.setTop { g with pc := g.pc + 1, stack := rest })) : Ends p e below s cs ss Q (T.setTop g) := by
  obtain ⟨cl, A1, r1, r2, r3⟩ := A
  obtain ⟨T', h', X', e', W, st⟩ := stI X hx hZ eT A1 (by rw [r1]; exact hj) hg hs hd
  exact (k T' h' _ X' e' (Fr.snoc X' N ge) W (Ar.set ⟨cl, A1, r1, r2, r3⟩ W)).step st
theorem Ends.bastore (X : Stand p l e R s m args below meth c T locs cells slots) (hx : p.tables.exec = Jvm.exec) (hZ : Z.Warmed39 s.vm) (eT : T.heap = h) (A : Ar Z h a .byte n f) {j x : Int32} (hj : inb j n) {n0 : Nat} (N : Fr n0 locs) (ge : n0 ≤ a) {g : JFrame} (hg : g.method = m) {rest : List Value} (hs : g.stack = .int x :: .int j :: .ref a :: rest) (hd : decode c.code g.pc = .ok (.bastore, 1))
    (k : ∀ T' h' sl, Stand p l e R s m args below meth c T' (locs ++ [⟨a, sl⟩]) cells slots → T'.heap = h' → Fr n0 (locs ++ [⟨a, sl⟩]) → Wr h h' a sl (.int (nar .byte x)) → Ar Z h' a .byte n (upd f j.toNatClampNeg (nar .byte x)) → Ends p e below s cs ss Q (T'.setTop { g with pc := g.pc + 1, stack := rest })) : Ends p e below s cs ss Q (T.setTop g) := by
  obtain ⟨cl, A1, r1, r2, r3⟩ := A
  obtain ⟨T', h', X', e', W, st⟩ := stB X hx hZ eT A1 (by rw [r1]; exact hj) hg hs hd
  exact (k T' h' _ X' e' (Fr.snoc X' N ge) W (Ar.set ⟨cl, A1, r1, r2, r3⟩ W)).step st
theorem Ends.getF (X : Stand p l e R s m args below meth c T locs cells slots) (hx : p.tables.exec = Jvm.exec) (hZ : Z.Warmed39 s.vm) {own O fn d : String} {index : Nat} (hown : s.vm.findClass own = some m.cls) (w : (Jvm.Cond.fieldLink own index O fn d).before a0 Z = true) (eT : T.heap = h) (F : Fld Z h a O fn d v) {g : JFrame} (hg : g.method = m) {rest : List Value} (hs : g.stack = .ref a :: rest) (hd : decode c.code g.pc = .ok (.getfield index, 3))
    (k : ∀ T', Stand p l e R s m args below meth c T' locs cells slots → T'.heap = h → Ends p e below s cs ss Q (T'.setTop { g with pc := g.pc + 3, stack := v :: rest })) : Ends p e below s cs ss Q (T.setTop g) := by
  obtain ⟨T', X', e', st⟩ := Jvm.RoadKit.getF X hx hZ hown (host := "") (Or.inl w) Via.refl eT F hg hs hd
  exact (k T' X' e').step st
theorem Ends.putF (X : Stand p l e R s m args below meth c T locs cells slots) (hx : p.tables.exec = Jvm.exec) (hZ : Z.Warmed39 s.vm) {own O fn d : String} {index kk : Nat} {tf : FieldType} {old : Value} (hown : s.vm.findClass own = some m.cls) (w : (Jvm.Cond.fieldLink own index O fn d).before a0 Z = true) (eT : T.heap = h) (F : Fld Z h a O fn d old) (E : Exa Z h a O) (L : (Jvm.Cond.lays O O fn d).before a0 Z = true ∨ ((Jvm.Cond.laysFinal O O fn d).before a0 Z = true ∧ own = O ∧ meth.name = "<init>")) (wi : (Jvm.Cond.instantiable O kk).before a0 Z = true)
    (hty : parseFieldDescriptor d = some tf) (hn : narrow tf v = v) (hf : fits tf v = true) {n0 : Nat} (N : Fr n0 locs) (ge : n0 ≤ a) {g : JFrame} (hg : g.method = m) {rest : List Value} (hs : g.stack = v :: .ref a :: rest) (hd : decode c.code g.pc = .ok (.putfield index, 3))
    (k : ∀ T' h', Stand p l e R s m args below meth c T' (locs ++ [⟨a, Jvm.RoadKit.slotOf Z O fn d⟩]) cells slots → T'.heap = h' → Fr n0 (locs ++ [⟨a, Jvm.RoadKit.slotOf Z O fn d⟩]) → Wr h h' a (Jvm.RoadKit.slotOf Z O fn d) v → Ends p e below s cs ss Q (T'.setTop { g with pc := g.pc + 3, stack := rest })) : Ends p e below s cs ss Q (T.setTop g) := by
  obtain ⟨T', h', X', e', W, st⟩ := Jvm.RoadKit.putF X hx hZ hown (host := "") (Or.inl w) Via.refl eT F E L wi hty hn hf hg hs hd
  exact (k T' h' X' e' (Fr.snoc X' N ge) W).step st
theorem Ends.newO (X : Stand p l e R s m args below meth c T locs cells slots) (hx : p.tables.exec = Jvm.exec) (hZ : Z.Warmed39 s.vm) {own C : String} {index k : Nat} (hown : s.vm.findClass own = some m.cls) (w : (Jvm.Cond.classLink own index C).before a0 Z = true) (wi : (Jvm.Cond.instantiable C k).before a0 Z = true) (wz : (Jvm.Cond.initialized C).before a0 Z = true) (eT : T.heap = h)
    {g : JFrame} (hg : g.method = m) (hd : decode c.code g.pc = .ok (.new index, 3)) (hc : cells + 1 ≤ R.cells) (hl : slots + k ≤ R.slots)
    (kk : ∀ T' h' a, Stand p l e R s m args below meth c T' locs (cells + 1) (slots + k) → T'.heap = h' → Ext h h' → h.size = a → Exa Z h' a C → (∀ {O nm d : String} {ty : FieldType}, Laid Z a0 C O nm d → parseFieldDescriptor d = some ty → Fld Z h' a O nm d (defaultValue ty)) → Ends p e below s cs ss Q (T'.setTop { g with pc := g.pc + 3, stack := .ref a :: g.stack })) : Ends p e below s cs ss Q (T.setTop g) := by
  obtain ⟨T', h', X', e', E, A, D, -, st⟩ := Jvm.RoadKit.newO X hx hZ hown w wi wz eT hg hd hc hl
  exact (kk T' h' _ X' e' E rfl A D).step st
theorem Ends.initO (X : Stand p l e R s m args below meth c T locs cells slots) (hx : p.tables.exec = Jvm.exec) (hZ : Z.Warmed39 s.vm) {own : String} {idx : Nat} (hown : s.vm.findClass own = some m.cls) (w1 : (Jvm.Cond.methodLink own idx Lib.objectInit).before a0 Z = true) (w2 : (Jvm.Cond.instanceMethod Lib.objectInit).before a0 Z = true)
    (w3 : (Jvm.Cond.code Lib.objectInit ⟨#[0xb1]⟩ 1 none).before a0 Z = true) (eT : T.heap = h) {g : JFrame} (hg : g.method = m) (hsize : g.locals.size = c.maxLocals) {rest : List Value} (hs : g.stack = .ref a :: rest) (hd : decode c.code g.pc = .ok (.invokespecial idx, 3))
    (hf : 1 ≤ R.frames) (W : Nat) (hW : 2 * g.monitorRoom + (rest.map fun v => v.category).sum ≤ W) (hl : W + 12 ≤ R.locals)
    (k : ∀ T', Stand p l e R s m args below meth c T' locs cells slots → T'.heap = h → Ends p e below s cs ss Q (T'.setTop { g with pc := g.pc + 3, stack := rest })) : Ends p e below s cs ss Q (T.setTop g) := by
  obtain ⟨T', X', e', st⟩ := Jvm.RoadKit.initO X hx hZ hown w1 w2 w3 eT hg hsize hs hd hf hW hl
  exact (k T' X' e').step st
def OneS (o : Slot) : Prop := o = .unset ∨ ∃ w, o = .val w ∧ w.category = 1
theorem storeL {ls : Array Slot} {i : Nat} {x : Int64} {o o' : Slot} (h1 : ls[i]? = some o) (h2 : ls[i + 1]? = some o') (p1 : OneS o) (p2 : OneS o') : storeLocals ls i (.long x) = some ((ls.setIfInBounds i (.val (.long x))).setIfInBounds (i + 1) .second) := by
  have l1 : i < ls.size := (Array.getElem?_eq_some_iff.mp h1).1
  have l2 : i + 1 < ls.size := (Array.getElem?_eq_some_iff.mp h2).1
  have e2 : (ls.setIfInBounds i (.val (.long x)))[i + 1]? = some o' := by rw [Array.getElem?_setIfInBounds_ne (by omega)]; exact h2
  have q : storeSelf ls i (.long x) = some ((ls.setIfInBounds i (.val (.long x))).setIfInBounds (i + 1) .second) := by
    have cat : (Value.long x).category = 2 := rfl
    simp only [storeSelf, setAt, if_pos l1, cat, if_true, Option.bind_eq_bind, Option.bind_some, e2]
    rcases p2 with rfl | ⟨w, rfl, hw⟩
    · simp [l2]
    · simp [l2, hw]
  simp only [storeLocals, h1, Option.bind_eq_bind, Option.bind_some]
  rcases p1 with rfl | ⟨w, rfl, hw⟩
  · exact q
  · simp only [hw]; exact q
end OwnFrame
-- body 1
def F1_196 (t0 : Int32) : Int32 := (nar .boolean t0)
def F1_191  : Int32 := (F1_196 (1 : Int32))
def F1_195  : Int32 := (F1_196 (0 : Int32))
def F1_185 (x0 : Int32) : Int32 := if (983039 : Int32) < x0 then F1_195 else F1_191
def F1_179 (x0 : Int32) : Int32 := if x0 < (65536 : Int32) then F1_195 else (F1_185 x0)
def F1_173 (x0 : Int32) : Int32 := if (65533 : Int32) < x0 then (F1_179 x0) else F1_191
def F1_167 (x0 : Int32) : Int32 := if x0 < (65008 : Int32) then (F1_179 x0) else (F1_173 x0)
def F1_161 (x0 : Int32) : Int32 := if (64975 : Int32) < x0 then (F1_167 x0) else F1_191
def F1_155 (x0 : Int32) : Int32 := if x0 < (63744 : Int32) then (F1_167 x0) else (F1_161 x0)
def F1_149 (x0 : Int32) : Int32 := if (55295 : Int32) < x0 then (F1_155 x0) else F1_191
def F1_142 (x0 : Int32) : Int32 := if x0 < (12289 : Int32) then (F1_155 x0) else (F1_149 x0)
def F1_135 (x0 : Int32) : Int32 := if (12271 : Int32) < x0 then (F1_142 x0) else F1_191
def F1_128 (x0 : Int32) : Int32 := if x0 < (11264 : Int32) then (F1_142 x0) else (F1_135 x0)
def F1_121 (x0 : Int32) : Int32 := if (8591 : Int32) < x0 then (F1_128 x0) else F1_191
def F1_114 (x0 : Int32) : Int32 := if x0 < (8304 : Int32) then (F1_128 x0) else (F1_121 x0)
def F1_107 (x0 : Int32) : Int32 := if (8205 : Int32) < x0 then (F1_114 x0) else F1_191
def F1_100 (x0 : Int32) : Int32 := if x0 < (8204 : Int32) then (F1_114 x0) else (F1_107 x0)
def F1_93 (x0 : Int32) : Int32 := if (8191 : Int32) < x0 then (F1_100 x0) else F1_191
def F1_86 (x0 : Int32) : Int32 := if x0 < (895 : Int32) then (F1_100 x0) else (F1_93 x0)
def F1_79 (x0 : Int32) : Int32 := if (893 : Int32) < x0 then (F1_86 x0) else F1_191
def F1_72 (x0 : Int32) : Int32 := if x0 < (880 : Int32) then (F1_86 x0) else (F1_79 x0)
def F1_65 (x0 : Int32) : Int32 := if (767 : Int32) < x0 then (F1_72 x0) else F1_191
def F1_58 (x0 : Int32) : Int32 := if x0 < (248 : Int32) then (F1_72 x0) else (F1_65 x0)
def F1_51 (x0 : Int32) : Int32 := if (246 : Int32) < x0 then (F1_58 x0) else F1_191
def F1_44 (x0 : Int32) : Int32 := if x0 < (216 : Int32) then (F1_58 x0) else (F1_51 x0)
def F1_37 (x0 : Int32) : Int32 := if (214 : Int32) < x0 then (F1_44 x0) else F1_191
def F1_30 (x0 : Int32) : Int32 := if x0 < (192 : Int32) then (F1_44 x0) else (F1_37 x0)
def F1_24 (x0 : Int32) : Int32 := if x0 = (95 : Int32) then F1_191 else (F1_30 x0)
def F1_18 (x0 : Int32) : Int32 := if (90 : Int32) < x0 then (F1_24 x0) else F1_191
def F1_12 (x0 : Int32) : Int32 := if x0 < (65 : Int32) then (F1_24 x0) else (F1_18 x0)
def F1_6 (x0 : Int32) : Int32 := if (122 : Int32) < x0 then (F1_12 x0) else F1_191
def F1 (p0 : Int32) : Int32 := if p0 < (97 : Int32) then (F1_12 p0) else (F1_6 p0)
-- body 2
def F2_12  : Int32 := (nar .boolean (0 : Int32))
def F2_26  : Int32 := (nar .boolean (0 : Int32))
def F2_34  : Int32 := (nar .boolean (0 : Int32))
def F2_49  : Int32 := (nar .boolean (0 : Int32))
def F2_65  : Int32 := (nar .boolean (0 : Int32))
def F2_81  : Int32 := (nar .boolean (0 : Int32))
def F2_90  : Int32 := (nar .boolean (0 : Int32))
def F2_106  : Int32 := (nar .boolean (0 : Int32))
def F2_122  : Int32 := (nar .boolean (0 : Int32))
def F2_138  : Int32 := (nar .boolean (0 : Int32))
def F2_154  : Int32 := (nar .boolean (0 : Int32))
def F2_168  : Int32 := (nar .boolean (0 : Int32))
def F2_182  : Int32 := (nar .boolean (0 : Int32))
def F2_196  : Int32 := (nar .boolean (0 : Int32))
def F2_198  : Int32 := (nar .boolean (1 : Int32))
def F2_190 (x0 : Int32) : Int32 := if (65535 : Int32) < x0 then F2_198 else F2_196
def F2_184 (x0 : Int32) : Int32 := if x0 < (65534 : Int32) then F2_198 else (F2_190 x0)
def F2_176 (x0 : Int32) : Int32 := if (65007 : Int32) < x0 then (F2_184 x0) else F2_182
def F2_170 (x0 : Int32) : Int32 := if x0 < (64976 : Int32) then (F2_184 x0) else (F2_176 x0)
def F2_162 (x0 : Int32) : Int32 := if (63743 : Int32) < x0 then (F2_170 x0) else F2_168
def F2_156 (x0 : Int32) : Int32 := if x0 < (55296 : Int32) then (F2_170 x0) else (F2_162 x0)
def F2_147 (x0 : Int32) : Int32 := if (12288 : Int32) < x0 then (F2_156 x0) else F2_154
def F2_140 (x0 : Int32) : Int32 := if x0 < (12272 : Int32) then (F2_156 x0) else (F2_147 x0)
def F2_131 (x0 : Int32) : Int32 := if (11263 : Int32) < x0 then (F2_140 x0) else F2_138
def F2_124 (x0 : Int32) : Int32 := if x0 < (8592 : Int32) then (F2_140 x0) else (F2_131 x0)
def F2_115 (x0 : Int32) : Int32 := if (8303 : Int32) < x0 then (F2_124 x0) else F2_122
def F2_108 (x0 : Int32) : Int32 := if x0 < (8206 : Int32) then (F2_124 x0) else (F2_115 x0)
def F2_99 (x0 : Int32) : Int32 := if (8203 : Int32) < x0 then (F2_108 x0) else F2_106
def F2_92 (x0 : Int32) : Int32 := if x0 < (8192 : Int32) then (F2_108 x0) else (F2_99 x0)
def F2_83 (x0 : Int32) : Int32 := if x0 = (894 : Int32) then F2_90 else (F2_92 x0)
def F2_74 (x0 : Int32) : Int32 := if (879 : Int32) < x0 then (F2_83 x0) else F2_81
def F2_67 (x0 : Int32) : Int32 := if x0 < (768 : Int32) then (F2_83 x0) else (F2_74 x0)
def F2_58 (x0 : Int32) : Int32 := if x0 = (247 : Int32) then F2_65 else (F2_67 x0)
def F2_51 (x0 : Int32) : Int32 := if x0 = (215 : Int32) then F2_65 else (F2_58 x0)
def F2_42 (x0 : Int32) : Int32 := if (191 : Int32) < x0 then (F2_51 x0) else F2_49
def F2_36 (x0 : Int32) : Int32 := if x0 < (123 : Int32) then (F2_51 x0) else (F2_42 x0)
def F2_28 (x0 : Int32) : Int32 := if x0 = (96 : Int32) then F2_34 else (F2_36 x0)
def F2_20 (x0 : Int32) : Int32 := if (94 : Int32) < x0 then (F2_28 x0) else F2_26
def F2_14 (x0 : Int32) : Int32 := if x0 < (91 : Int32) then (F2_28 x0) else (F2_20 x0)
def F2_6 (x0 : Int32) : Int32 := if (983039 : Int32) < x0 then F2_12 else (F2_14 x0)
def F2 (p0 : Int32) : Int32 := if p0 < (65 : Int32) then F2_12 else (F2_6 p0)
-- body 0
def F0_70 (t0 : Int32) : Int32 := (nar .boolean t0)
def F0_65  : Int32 := (F0_70 (1 : Int32))
def F0_69  : Int32 := (F0_70 (0 : Int32))
def F0_52 (x4 : Int32) : Int32 := if (F1 x4) = (F2 x4) then F0_65 else F0_69
def F0_41 (x3 : Int32) (x4 : Int32) : Int32 := if (F1 x3) = (F2 x3) then (F0_52 x4) else F0_69
def F0_30 (x2 : Int32) (x3 : Int32) (x4 : Int32) : Int32 := if (F1 x2) = (F2 x2) then (F0_41 x3 x4) else F0_69
def F0_19 (x1 : Int32) (x2 : Int32) (x3 : Int32) (x4 : Int32) : Int32 := if (F1 x1) = (F2 x1) then (F0_30 x2 x3 x4) else F0_69
def F0_13 (x0 : Int32) (x1 : Int32) (x2 : Int32) (x3 : Int32) : Int32 := (F0_19 x1 x2 x3 (x0 &&& (1048575 : Int32)))
def F0_8 (x0 : Int32) (x1 : Int32) (x2 : Int32) : Int32 := (F0_13 x0 x1 x2 (x0 &&& (65535 : Int32)))
def F0 (p0 : Int32) : Int32 := (F0_8 p0 p0 (p0 &&& (1023 : Int32)))
theorem pd_0 : parseMethodDescriptor "(I)Z" = some ⟨[.int], (some .boolean)⟩ := by decide +kernel
theorem d1_0 : decode prog_24_method_5_code 0 = .ok (.iload_n 0, 1) := by decide +kernel
theorem d1_1 : decode prog_24_method_5_code 1 = .ok (.bipush 97, 2) := by decide +kernel
theorem d1_3 : decode prog_24_method_5_code 3 = .ok (.if_icmp .lt 9, 3) := by decide +kernel
theorem d1_6 : decode prog_24_method_5_code 6 = .ok (.iload_n 0, 1) := by decide +kernel
theorem d1_7 : decode prog_24_method_5_code 7 = .ok (.bipush 122, 2) := by decide +kernel
theorem d1_9 : decode prog_24_method_5_code 9 = .ok (.if_icmp .le 182, 3) := by decide +kernel
theorem d1_12 : decode prog_24_method_5_code 12 = .ok (.iload_n 0, 1) := by decide +kernel
theorem d1_13 : decode prog_24_method_5_code 13 = .ok (.bipush 65, 2) := by decide +kernel
theorem d1_15 : decode prog_24_method_5_code 15 = .ok (.if_icmp .lt 9, 3) := by decide +kernel
theorem d1_18 : decode prog_24_method_5_code 18 = .ok (.iload_n 0, 1) := by decide +kernel
theorem d1_19 : decode prog_24_method_5_code 19 = .ok (.bipush 90, 2) := by decide +kernel
theorem d1_21 : decode prog_24_method_5_code 21 = .ok (.if_icmp .le 170, 3) := by decide +kernel
theorem d1_24 : decode prog_24_method_5_code 24 = .ok (.iload_n 0, 1) := by decide +kernel
theorem d1_25 : decode prog_24_method_5_code 25 = .ok (.bipush 95, 2) := by decide +kernel
theorem d1_27 : decode prog_24_method_5_code 27 = .ok (.if_icmp .eq 164, 3) := by decide +kernel
theorem d1_30 : decode prog_24_method_5_code 30 = .ok (.iload_n 0, 1) := by decide +kernel
theorem d1_31 : decode prog_24_method_5_code 31 = .ok (.sipush 192, 3) := by decide +kernel
theorem d1_34 : decode prog_24_method_5_code 34 = .ok (.if_icmp .lt 10, 3) := by decide +kernel
theorem d1_37 : decode prog_24_method_5_code 37 = .ok (.iload_n 0, 1) := by decide +kernel
theorem d1_38 : decode prog_24_method_5_code 38 = .ok (.sipush 214, 3) := by decide +kernel
theorem d1_41 : decode prog_24_method_5_code 41 = .ok (.if_icmp .le 150, 3) := by decide +kernel
theorem d1_44 : decode prog_24_method_5_code 44 = .ok (.iload_n 0, 1) := by decide +kernel
theorem d1_45 : decode prog_24_method_5_code 45 = .ok (.sipush 216, 3) := by decide +kernel
theorem d1_48 : decode prog_24_method_5_code 48 = .ok (.if_icmp .lt 10, 3) := by decide +kernel
theorem d1_51 : decode prog_24_method_5_code 51 = .ok (.iload_n 0, 1) := by decide +kernel
theorem d1_52 : decode prog_24_method_5_code 52 = .ok (.sipush 246, 3) := by decide +kernel
theorem d1_55 : decode prog_24_method_5_code 55 = .ok (.if_icmp .le 136, 3) := by decide +kernel
theorem d1_58 : decode prog_24_method_5_code 58 = .ok (.iload_n 0, 1) := by decide +kernel
theorem d1_59 : decode prog_24_method_5_code 59 = .ok (.sipush 248, 3) := by decide +kernel
theorem d1_62 : decode prog_24_method_5_code 62 = .ok (.if_icmp .lt 10, 3) := by decide +kernel
theorem d1_65 : decode prog_24_method_5_code 65 = .ok (.iload_n 0, 1) := by decide +kernel
theorem d1_66 : decode prog_24_method_5_code 66 = .ok (.sipush 767, 3) := by decide +kernel
theorem d1_69 : decode prog_24_method_5_code 69 = .ok (.if_icmp .le 122, 3) := by decide +kernel
theorem d1_72 : decode prog_24_method_5_code 72 = .ok (.iload_n 0, 1) := by decide +kernel
theorem d1_73 : decode prog_24_method_5_code 73 = .ok (.sipush 880, 3) := by decide +kernel
theorem d1_76 : decode prog_24_method_5_code 76 = .ok (.if_icmp .lt 10, 3) := by decide +kernel
theorem d1_79 : decode prog_24_method_5_code 79 = .ok (.iload_n 0, 1) := by decide +kernel
theorem d1_80 : decode prog_24_method_5_code 80 = .ok (.sipush 893, 3) := by decide +kernel
theorem d1_83 : decode prog_24_method_5_code 83 = .ok (.if_icmp .le 108, 3) := by decide +kernel
theorem d1_86 : decode prog_24_method_5_code 86 = .ok (.iload_n 0, 1) := by decide +kernel
theorem d1_87 : decode prog_24_method_5_code 87 = .ok (.sipush 895, 3) := by decide +kernel
theorem d1_90 : decode prog_24_method_5_code 90 = .ok (.if_icmp .lt 10, 3) := by decide +kernel
theorem d1_93 : decode prog_24_method_5_code 93 = .ok (.iload_n 0, 1) := by decide +kernel
theorem d1_94 : decode prog_24_method_5_code 94 = .ok (.sipush 8191, 3) := by decide +kernel
theorem d1_97 : decode prog_24_method_5_code 97 = .ok (.if_icmp .le 94, 3) := by decide +kernel
theorem d1_100 : decode prog_24_method_5_code 100 = .ok (.iload_n 0, 1) := by decide +kernel
theorem d1_101 : decode prog_24_method_5_code 101 = .ok (.sipush 8204, 3) := by decide +kernel
theorem d1_104 : decode prog_24_method_5_code 104 = .ok (.if_icmp .lt 10, 3) := by decide +kernel
theorem d1_107 : decode prog_24_method_5_code 107 = .ok (.iload_n 0, 1) := by decide +kernel
theorem d1_108 : decode prog_24_method_5_code 108 = .ok (.sipush 8205, 3) := by decide +kernel
theorem d1_111 : decode prog_24_method_5_code 111 = .ok (.if_icmp .le 80, 3) := by decide +kernel
theorem d1_114 : decode prog_24_method_5_code 114 = .ok (.iload_n 0, 1) := by decide +kernel
theorem d1_115 : decode prog_24_method_5_code 115 = .ok (.sipush 8304, 3) := by decide +kernel
theorem d1_118 : decode prog_24_method_5_code 118 = .ok (.if_icmp .lt 10, 3) := by decide +kernel
theorem d1_121 : decode prog_24_method_5_code 121 = .ok (.iload_n 0, 1) := by decide +kernel
theorem d1_122 : decode prog_24_method_5_code 122 = .ok (.sipush 8591, 3) := by decide +kernel
theorem d1_125 : decode prog_24_method_5_code 125 = .ok (.if_icmp .le 66, 3) := by decide +kernel
theorem d1_128 : decode prog_24_method_5_code 128 = .ok (.iload_n 0, 1) := by decide +kernel
theorem d1_129 : decode prog_24_method_5_code 129 = .ok (.sipush 11264, 3) := by decide +kernel
theorem d1_132 : decode prog_24_method_5_code 132 = .ok (.if_icmp .lt 10, 3) := by decide +kernel
theorem d1_135 : decode prog_24_method_5_code 135 = .ok (.iload_n 0, 1) := by decide +kernel
theorem d1_136 : decode prog_24_method_5_code 136 = .ok (.sipush 12271, 3) := by decide +kernel
theorem d1_139 : decode prog_24_method_5_code 139 = .ok (.if_icmp .le 52, 3) := by decide +kernel
theorem d1_142 : decode prog_24_method_5_code 142 = .ok (.iload_n 0, 1) := by decide +kernel
theorem d1_143 : decode prog_24_method_5_code 143 = .ok (.sipush 12289, 3) := by decide +kernel
theorem d1_146 : decode prog_24_method_5_code 146 = .ok (.if_icmp .lt 9, 3) := by decide +kernel
theorem d1_149 : decode prog_24_method_5_code 149 = .ok (.iload_n 0, 1) := by decide +kernel
theorem d1_150 : decode prog_24_method_5_code 150 = .ok (.ldc 41, 2) := by decide +kernel
theorem d1_152 : decode prog_24_method_5_code 152 = .ok (.if_icmp .le 39, 3) := by decide +kernel
theorem d1_155 : decode prog_24_method_5_code 155 = .ok (.iload_n 0, 1) := by decide +kernel
theorem d1_156 : decode prog_24_method_5_code 156 = .ok (.ldc 42, 2) := by decide +kernel
theorem d1_158 : decode prog_24_method_5_code 158 = .ok (.if_icmp .lt 9, 3) := by decide +kernel
theorem d1_161 : decode prog_24_method_5_code 161 = .ok (.iload_n 0, 1) := by decide +kernel
theorem d1_162 : decode prog_24_method_5_code 162 = .ok (.ldc 43, 2) := by decide +kernel
theorem d1_164 : decode prog_24_method_5_code 164 = .ok (.if_icmp .le 27, 3) := by decide +kernel
theorem d1_167 : decode prog_24_method_5_code 167 = .ok (.iload_n 0, 1) := by decide +kernel
theorem d1_168 : decode prog_24_method_5_code 168 = .ok (.ldc 44, 2) := by decide +kernel
theorem d1_170 : decode prog_24_method_5_code 170 = .ok (.if_icmp .lt 9, 3) := by decide +kernel
theorem d1_173 : decode prog_24_method_5_code 173 = .ok (.iload_n 0, 1) := by decide +kernel
theorem d1_174 : decode prog_24_method_5_code 174 = .ok (.ldc 45, 2) := by decide +kernel
theorem d1_176 : decode prog_24_method_5_code 176 = .ok (.if_icmp .le 15, 3) := by decide +kernel
theorem d1_179 : decode prog_24_method_5_code 179 = .ok (.iload_n 0, 1) := by decide +kernel
theorem d1_180 : decode prog_24_method_5_code 180 = .ok (.ldc 46, 2) := by decide +kernel
theorem d1_182 : decode prog_24_method_5_code 182 = .ok (.if_icmp .lt 13, 3) := by decide +kernel
theorem d1_185 : decode prog_24_method_5_code 185 = .ok (.iload_n 0, 1) := by decide +kernel
theorem d1_186 : decode prog_24_method_5_code 186 = .ok (.ldc 47, 2) := by decide +kernel
theorem d1_188 : decode prog_24_method_5_code 188 = .ok (.if_icmp .gt 7, 3) := by decide +kernel
theorem d1_191 : decode prog_24_method_5_code 191 = .ok (.iconst 1, 1) := by decide +kernel
theorem d1_192 : decode prog_24_method_5_code 192 = .ok (.goto 4, 3) := by decide +kernel
theorem d1_195 : decode prog_24_method_5_code 195 = .ok (.iconst 0, 1) := by decide +kernel
theorem d1_196 : decode prog_24_method_5_code 196 = .ok (.ireturn, 1) := by decide +kernel
theorem pn_1 : plainFor (⟨"com/example/kuopio/kuopio/XmlChars", "isNameStartChar", "(I)Z"⟩ : MethodName) = true := by first | exact plainFor_of_name (by first | (simp [plainName, overriddenIn]; done) | decide +kernel) | decide +kernel
theorem ef_1 (m : MethodId) (y0 : Int32) : entryFrame m #[(.int y0)] 1 = mkF m 0 #[.val (.int y0)] [] := by first | (simp [entryFrame, mkF, argsToLocals, Value.category]; done) | rfl
def Q1 (Z : State)   (h0 : Heap) (n0 : Nat) (ans : Int32) (v : Option Value) (h : Heap) (L : List Loc) : Prop := v = some (.int ans) ∧ Fr n0 L ∧ h = h0
set_option maxRecDepth 65536 in
set_option maxHeartbeats 40000000 in
theorem rm1 (l : Launch) (Z : State) (a0 : Array Value) (hw : ∀ d ∈ tables_1, d.before a0 Z = true) (p0 : Int32)  (h0 : Heap) (n0 : Nat) (Z0 : n0 ≤ h0.size)  :
    Meets l Z (⟨"com/example/kuopio/kuopio/XmlChars", "isNameStartChar", "(I)Z"⟩ : MethodName) prog_24_method_5_code 1 (some .boolean) [] ({ frames := 0, cells := 0, slots := 0, locals := 0 } : Room) #[(.int p0)] h0 (Q1 Z  h0 n0 (F1 p0)) 0 0 := by
  refine Meets.of pn_1 ?_
  intro p e s m below meth c s₁ hx hby hml hZ hown hnm hret hlk X0 e0
  have hml : c.maxLocals = 1 := hml
  have hown : s.vm.findClass "com/example/kuopio/kuopio/XmlChars" = some m.cls := hown
  have N0 := Fr.nil n0
  have b196 : ∀ (T : State) (L : List Loc) (X : Stand p l e ({ frames := 0, cells := 0, slots := 0, locals := 0 } : Room) s m #[(.int p0)] below meth c T L 0 0) (eT : T.heap = h0) (N : Fr n0 L) (t0 : Int32) (d0 : Slot) (od0 : OneS d0), Ends p e below s 0 0 (Q1 Z  h0 n0 (F1_196 t0)) (T.setTop (mkF m 196 #[d0] [(.int t0)])) := by
    intro T L X eT N t0 d0 od0
    exact Ends.ret X (v := some (.int (nar .boolean t0))) (fun q => by rw [hret] at q; cases q) hlk (fun fs hr => retN X hx (t := .boolean) hret (by simp) (hb hby d1_196) hr) (by decide) (by decide) ⟨rfl, N, eT⟩
  have b191 : ∀ (T : State) (L : List Loc) (X : Stand p l e ({ frames := 0, cells := 0, slots := 0, locals := 0 } : Room) s m #[(.int p0)] below meth c T L 0 0) (eT : T.heap = h0) (N : Fr n0 L) (d0 : Slot) (od0 : OneS d0), Ends p e below s 0 0 (Q1 Z  h0 n0 F1_191) (T.setTop (mkF m 191 #[d0] [])) := by
    intro T L X eT N d0 od0
    refine Ends.step (u' := (T.setTop (mkF m 192 #[d0] [(.int (1 : Int32))]))) ?_ (fun _ k => XT.iconstV X.here hx rfl (1 : Int32) (hb hby d1_191) rfl k)
    refine Ends.step (u' := (T.setTop (mkF m 196 #[d0] [(.int (1 : Int32))]))) ?_ (fun _ k => XS.goto X.here hx rfl (pc0 := 192) (pc' := 196) rfl (hb hby d1_192) (by decide) (by decide) k)
    exact b196 T _ X eT N (1 : Int32) (d0) od0
  have b195 : ∀ (T : State) (L : List Loc) (X : Stand p l e ({ frames := 0, cells := 0, slots := 0, locals := 0 } : Room) s m #[(.int p0)] below meth c T L 0 0) (eT : T.heap = h0) (N : Fr n0 L) (d0 : Slot) (od0 : OneS d0), Ends p e below s 0 0 (Q1 Z  h0 n0 F1_195) (T.setTop (mkF m 195 #[d0] [])) := by
    intro T L X eT N d0 od0
    refine Ends.step (u' := (T.setTop (mkF m 196 #[d0] [(.int (0 : Int32))]))) ?_ (fun _ k => XT.iconstV X.here hx rfl (0 : Int32) (hb hby d1_195) rfl k)
    exact b196 T _ X eT N (0 : Int32) (d0) od0
  have b185 : ∀ (T : State) (L : List Loc) (X : Stand p l e ({ frames := 0, cells := 0, slots := 0, locals := 0 } : Room) s m #[(.int p0)] below meth c T L 0 0) (eT : T.heap = h0) (N : Fr n0 L) (x0 : Int32), Ends p e below s 0 0 (Q1 Z  h0 n0 (F1_185 x0)) (T.setTop (mkF m 185 #[.val (.int x0)] [])) := by
    intro T L X eT N x0
    refine Ends.step (u' := (T.setTop (mkF m 186 #[.val (.int x0)] [(.int x0)]))) ?_ (fun _ k => XS.iloadN X.here hx rfl (hb hby d1_185) rfl k)
    refine Ends.step (u' := (T.setTop (mkF m 188 #[.val (.int x0)] [(.int (983039 : Int32)), (.int x0)]))) ?_ (fun _ k => X.ldcI hx hown (mvT hZ (hw _ (List.mem_of_getElem? (i := 20) rfl))) rfl (hb hby d1_186) k)
    by_cases hc188 : (983039 : Int32) < x0
    · refine Eq.mp (congrArg (fun z => Ends p e below s 0 0 (Q1 Z  h0 n0 z) (T.setTop (mkF m 188 #[.val (.int x0)] [(.int (983039 : Int32)), (.int x0)]))) (show (F1_185 x0) = F1_195 from (if_pos hc188)).symm) ?_
      refine Ends.step (u' := (T.setTop (mkF m 195 #[.val (.int x0)] []))) ?_ (fun _ k => XS.icmpYes X.here hx rfl (pc0 := 188) (pc' := 195) rfl (hb hby d1_188) rfl (XT.ii_gt_t hc188) (by decide) (by decide) k)
      exact b195 T _ X eT N (.val (.int x0)) (Or.inr ⟨_, rfl, rfl⟩)
    · refine Eq.mp (congrArg (fun z => Ends p e below s 0 0 (Q1 Z  h0 n0 z) (T.setTop (mkF m 188 #[.val (.int x0)] [(.int (983039 : Int32)), (.int x0)]))) (show (F1_185 x0) = F1_191 from (if_neg hc188)).symm) ?_
      refine Ends.step (u' := (T.setTop (mkF m 191 #[.val (.int x0)] []))) ?_ (fun _ k => XS.icmpNo X.here hx rfl (hb hby d1_188) rfl (XT.ii_gt_f hc188) k)
      exact b191 T _ X eT N (.val (.int x0)) (Or.inr ⟨_, rfl, rfl⟩)
  have b179 : ∀ (T : State) (L : List Loc) (X : Stand p l e ({ frames := 0, cells := 0, slots := 0, locals := 0 } : Room) s m #[(.int p0)] below meth c T L 0 0) (eT : T.heap = h0) (N : Fr n0 L) (x0 : Int32), Ends p e below s 0 0 (Q1 Z  h0 n0 (F1_179 x0)) (T.setTop (mkF m 179 #[.val (.int x0)] [])) := by
    intro T L X eT N x0
    refine Ends.step (u' := (T.setTop (mkF m 180 #[.val (.int x0)] [(.int x0)]))) ?_ (fun _ k => XS.iloadN X.here hx rfl (hb hby d1_179) rfl k)
    refine Ends.step (u' := (T.setTop (mkF m 182 #[.val (.int x0)] [(.int (65536 : Int32)), (.int x0)]))) ?_ (fun _ k => X.ldcI hx hown (mvT hZ (hw _ (List.mem_of_getElem? (i := 8) rfl))) rfl (hb hby d1_180) k)
    by_cases hc182 : x0 < (65536 : Int32)
    · refine Eq.mp (congrArg (fun z => Ends p e below s 0 0 (Q1 Z  h0 n0 z) (T.setTop (mkF m 182 #[.val (.int x0)] [(.int (65536 : Int32)), (.int x0)]))) (show (F1_179 x0) = F1_195 from (if_pos hc182)).symm) ?_
      refine Ends.step (u' := (T.setTop (mkF m 195 #[.val (.int x0)] []))) ?_ (fun _ k => XS.icmpYes X.here hx rfl (pc0 := 182) (pc' := 195) rfl (hb hby d1_182) rfl (XT.ii_lt_t hc182) (by decide) (by decide) k)
      exact b195 T _ X eT N (.val (.int x0)) (Or.inr ⟨_, rfl, rfl⟩)
    · refine Eq.mp (congrArg (fun z => Ends p e below s 0 0 (Q1 Z  h0 n0 z) (T.setTop (mkF m 182 #[.val (.int x0)] [(.int (65536 : Int32)), (.int x0)]))) (show (F1_179 x0) = (F1_185 x0) from (if_neg hc182)).symm) ?_
      refine Ends.step (u' := (T.setTop (mkF m 185 #[.val (.int x0)] []))) ?_ (fun _ k => XS.icmpNo X.here hx rfl (hb hby d1_182) rfl (XT.ii_lt_f hc182) k)
      exact b185 T _ X eT N x0
  have b173 : ∀ (T : State) (L : List Loc) (X : Stand p l e ({ frames := 0, cells := 0, slots := 0, locals := 0 } : Room) s m #[(.int p0)] below meth c T L 0 0) (eT : T.heap = h0) (N : Fr n0 L) (x0 : Int32), Ends p e below s 0 0 (Q1 Z  h0 n0 (F1_173 x0)) (T.setTop (mkF m 173 #[.val (.int x0)] [])) := by
    intro T L X eT N x0
    refine Ends.step (u' := (T.setTop (mkF m 174 #[.val (.int x0)] [(.int x0)]))) ?_ (fun _ k => XS.iloadN X.here hx rfl (hb hby d1_173) rfl k)
    refine Ends.step (u' := (T.setTop (mkF m 176 #[.val (.int x0)] [(.int (65533 : Int32)), (.int x0)]))) ?_ (fun _ k => X.ldcI hx hown (mvT hZ (hw _ (List.mem_of_getElem? (i := 19) rfl))) rfl (hb hby d1_174) k)
    by_cases hc176 : (65533 : Int32) < x0
    · refine Eq.mp (congrArg (fun z => Ends p e below s 0 0 (Q1 Z  h0 n0 z) (T.setTop (mkF m 176 #[.val (.int x0)] [(.int (65533 : Int32)), (.int x0)]))) (show (F1_173 x0) = (F1_179 x0) from (if_pos hc176)).symm) ?_
      refine Ends.step (u' := (T.setTop (mkF m 179 #[.val (.int x0)] []))) ?_ (fun _ k => XS.icmpNo X.here hx rfl (hb hby d1_176) rfl (XT.ii_le_f hc176) k)
      exact b179 T _ X eT N x0
    · refine Eq.mp (congrArg (fun z => Ends p e below s 0 0 (Q1 Z  h0 n0 z) (T.setTop (mkF m 176 #[.val (.int x0)] [(.int (65533 : Int32)), (.int x0)]))) (show (F1_173 x0) = F1_191 from (if_neg hc176)).symm) ?_
      refine Ends.step (u' := (T.setTop (mkF m 191 #[.val (.int x0)] []))) ?_ (fun _ k => XS.icmpYes X.here hx rfl (pc0 := 176) (pc' := 191) rfl (hb hby d1_176) rfl (XT.ii_le_t hc176) (by decide) (by decide) k)
      exact b191 T _ X eT N (.val (.int x0)) (Or.inr ⟨_, rfl, rfl⟩)
  have b167 : ∀ (T : State) (L : List Loc) (X : Stand p l e ({ frames := 0, cells := 0, slots := 0, locals := 0 } : Room) s m #[(.int p0)] below meth c T L 0 0) (eT : T.heap = h0) (N : Fr n0 L) (x0 : Int32), Ends p e below s 0 0 (Q1 Z  h0 n0 (F1_167 x0)) (T.setTop (mkF m 167 #[.val (.int x0)] [])) := by
    intro T L X eT N x0
    refine Ends.step (u' := (T.setTop (mkF m 168 #[.val (.int x0)] [(.int x0)]))) ?_ (fun _ k => XS.iloadN X.here hx rfl (hb hby d1_167) rfl k)
    refine Ends.step (u' := (T.setTop (mkF m 170 #[.val (.int x0)] [(.int (65008 : Int32)), (.int x0)]))) ?_ (fun _ k => X.ldcI hx hown (mvT hZ (hw _ (List.mem_of_getElem? (i := 7) rfl))) rfl (hb hby d1_168) k)
    by_cases hc170 : x0 < (65008 : Int32)
    · refine Eq.mp (congrArg (fun z => Ends p e below s 0 0 (Q1 Z  h0 n0 z) (T.setTop (mkF m 170 #[.val (.int x0)] [(.int (65008 : Int32)), (.int x0)]))) (show (F1_167 x0) = (F1_179 x0) from (if_pos hc170)).symm) ?_
      refine Ends.step (u' := (T.setTop (mkF m 179 #[.val (.int x0)] []))) ?_ (fun _ k => XS.icmpYes X.here hx rfl (pc0 := 170) (pc' := 179) rfl (hb hby d1_170) rfl (XT.ii_lt_t hc170) (by decide) (by decide) k)
      exact b179 T _ X eT N x0
    · refine Eq.mp (congrArg (fun z => Ends p e below s 0 0 (Q1 Z  h0 n0 z) (T.setTop (mkF m 170 #[.val (.int x0)] [(.int (65008 : Int32)), (.int x0)]))) (show (F1_167 x0) = (F1_173 x0) from (if_neg hc170)).symm) ?_
      refine Ends.step (u' := (T.setTop (mkF m 173 #[.val (.int x0)] []))) ?_ (fun _ k => XS.icmpNo X.here hx rfl (hb hby d1_170) rfl (XT.ii_lt_f hc170) k)
      exact b173 T _ X eT N x0
  have b161 : ∀ (T : State) (L : List Loc) (X : Stand p l e ({ frames := 0, cells := 0, slots := 0, locals := 0 } : Room) s m #[(.int p0)] below meth c T L 0 0) (eT : T.heap = h0) (N : Fr n0 L) (x0 : Int32), Ends p e below s 0 0 (Q1 Z  h0 n0 (F1_161 x0)) (T.setTop (mkF m 161 #[.val (.int x0)] [])) := by
    intro T L X eT N x0
    refine Ends.step (u' := (T.setTop (mkF m 162 #[.val (.int x0)] [(.int x0)]))) ?_ (fun _ k => XS.iloadN X.here hx rfl (hb hby d1_161) rfl k)
    refine Ends.step (u' := (T.setTop (mkF m 164 #[.val (.int x0)] [(.int (64975 : Int32)), (.int x0)]))) ?_ (fun _ k => X.ldcI hx hown (mvT hZ (hw _ (List.mem_of_getElem? (i := 18) rfl))) rfl (hb hby d1_162) k)
    by_cases hc164 : (64975 : Int32) < x0
    · refine Eq.mp (congrArg (fun z => Ends p e below s 0 0 (Q1 Z  h0 n0 z) (T.setTop (mkF m 164 #[.val (.int x0)] [(.int (64975 : Int32)), (.int x0)]))) (show (F1_161 x0) = (F1_167 x0) from (if_pos hc164)).symm) ?_
      refine Ends.step (u' := (T.setTop (mkF m 167 #[.val (.int x0)] []))) ?_ (fun _ k => XS.icmpNo X.here hx rfl (hb hby d1_164) rfl (XT.ii_le_f hc164) k)
      exact b167 T _ X eT N x0
    · refine Eq.mp (congrArg (fun z => Ends p e below s 0 0 (Q1 Z  h0 n0 z) (T.setTop (mkF m 164 #[.val (.int x0)] [(.int (64975 : Int32)), (.int x0)]))) (show (F1_161 x0) = F1_191 from (if_neg hc164)).symm) ?_
      refine Ends.step (u' := (T.setTop (mkF m 191 #[.val (.int x0)] []))) ?_ (fun _ k => XS.icmpYes X.here hx rfl (pc0 := 164) (pc' := 191) rfl (hb hby d1_164) rfl (XT.ii_le_t hc164) (by decide) (by decide) k)
      exact b191 T _ X eT N (.val (.int x0)) (Or.inr ⟨_, rfl, rfl⟩)
  have b155 : ∀ (T : State) (L : List Loc) (X : Stand p l e ({ frames := 0, cells := 0, slots := 0, locals := 0 } : Room) s m #[(.int p0)] below meth c T L 0 0) (eT : T.heap = h0) (N : Fr n0 L) (x0 : Int32), Ends p e below s 0 0 (Q1 Z  h0 n0 (F1_155 x0)) (T.setTop (mkF m 155 #[.val (.int x0)] [])) := by
    intro T L X eT N x0
    refine Ends.step (u' := (T.setTop (mkF m 156 #[.val (.int x0)] [(.int x0)]))) ?_ (fun _ k => XS.iloadN X.here hx rfl (hb hby d1_155) rfl k)
    refine Ends.step (u' := (T.setTop (mkF m 158 #[.val (.int x0)] [(.int (63744 : Int32)), (.int x0)]))) ?_ (fun _ k => X.ldcI hx hown (mvT hZ (hw _ (List.mem_of_getElem? (i := 6) rfl))) rfl (hb hby d1_156) k)
    by_cases hc158 : x0 < (63744 : Int32)
    · refine Eq.mp (congrArg (fun z => Ends p e below s 0 0 (Q1 Z  h0 n0 z) (T.setTop (mkF m 158 #[.val (.int x0)] [(.int (63744 : Int32)), (.int x0)]))) (show (F1_155 x0) = (F1_167 x0) from (if_pos hc158)).symm) ?_
      refine Ends.step (u' := (T.setTop (mkF m 167 #[.val (.int x0)] []))) ?_ (fun _ k => XS.icmpYes X.here hx rfl (pc0 := 158) (pc' := 167) rfl (hb hby d1_158) rfl (XT.ii_lt_t hc158) (by decide) (by decide) k)
      exact b167 T _ X eT N x0
    · refine Eq.mp (congrArg (fun z => Ends p e below s 0 0 (Q1 Z  h0 n0 z) (T.setTop (mkF m 158 #[.val (.int x0)] [(.int (63744 : Int32)), (.int x0)]))) (show (F1_155 x0) = (F1_161 x0) from (if_neg hc158)).symm) ?_
      refine Ends.step (u' := (T.setTop (mkF m 161 #[.val (.int x0)] []))) ?_ (fun _ k => XS.icmpNo X.here hx rfl (hb hby d1_158) rfl (XT.ii_lt_f hc158) k)
      exact b161 T _ X eT N x0
  have b149 : ∀ (T : State) (L : List Loc) (X : Stand p l e ({ frames := 0, cells := 0, slots := 0, locals := 0 } : Room) s m #[(.int p0)] below meth c T L 0 0) (eT : T.heap = h0) (N : Fr n0 L) (x0 : Int32), Ends p e below s 0 0 (Q1 Z  h0 n0 (F1_149 x0)) (T.setTop (mkF m 149 #[.val (.int x0)] [])) := by
    intro T L X eT N x0
    refine Ends.step (u' := (T.setTop (mkF m 150 #[.val (.int x0)] [(.int x0)]))) ?_ (fun _ k => XS.iloadN X.here hx rfl (hb hby d1_149) rfl k)
    refine Ends.step (u' := (T.setTop (mkF m 152 #[.val (.int x0)] [(.int (55295 : Int32)), (.int x0)]))) ?_ (fun _ k => X.ldcI hx hown (mvT hZ (hw _ (List.mem_of_getElem? (i := 17) rfl))) rfl (hb hby d1_150) k)
    by_cases hc152 : (55295 : Int32) < x0
    · refine Eq.mp (congrArg (fun z => Ends p e below s 0 0 (Q1 Z  h0 n0 z) (T.setTop (mkF m 152 #[.val (.int x0)] [(.int (55295 : Int32)), (.int x0)]))) (show (F1_149 x0) = (F1_155 x0) from (if_pos hc152)).symm) ?_
      refine Ends.step (u' := (T.setTop (mkF m 155 #[.val (.int x0)] []))) ?_ (fun _ k => XS.icmpNo X.here hx rfl (hb hby d1_152) rfl (XT.ii_le_f hc152) k)
      exact b155 T _ X eT N x0
    · refine Eq.mp (congrArg (fun z => Ends p e below s 0 0 (Q1 Z  h0 n0 z) (T.setTop (mkF m 152 #[.val (.int x0)] [(.int (55295 : Int32)), (.int x0)]))) (show (F1_149 x0) = F1_191 from (if_neg hc152)).symm) ?_
      refine Ends.step (u' := (T.setTop (mkF m 191 #[.val (.int x0)] []))) ?_ (fun _ k => XS.icmpYes X.here hx rfl (pc0 := 152) (pc' := 191) rfl (hb hby d1_152) rfl (XT.ii_le_t hc152) (by decide) (by decide) k)
      exact b191 T _ X eT N (.val (.int x0)) (Or.inr ⟨_, rfl, rfl⟩)
  have b142 : ∀ (T : State) (L : List Loc) (X : Stand p l e ({ frames := 0, cells := 0, slots := 0, locals := 0 } : Room) s m #[(.int p0)] below meth c T L 0 0) (eT : T.heap = h0) (N : Fr n0 L) (x0 : Int32), Ends p e below s 0 0 (Q1 Z  h0 n0 (F1_142 x0)) (T.setTop (mkF m 142 #[.val (.int x0)] [])) := by
    intro T L X eT N x0
    refine Ends.step (u' := (T.setTop (mkF m 143 #[.val (.int x0)] [(.int x0)]))) ?_ (fun _ k => XS.iloadN X.here hx rfl (hb hby d1_142) rfl k)
    refine Ends.step (u' := (T.setTop (mkF m 146 #[.val (.int x0)] [(.int (12289 : Int32)), (.int x0)]))) ?_ (fun _ k => XT.sipushV X.here hx rfl (12289 : Int32) (hb hby d1_143) rfl k)
    by_cases hc146 : x0 < (12289 : Int32)
    · refine Eq.mp (congrArg (fun z => Ends p e below s 0 0 (Q1 Z  h0 n0 z) (T.setTop (mkF m 146 #[.val (.int x0)] [(.int (12289 : Int32)), (.int x0)]))) (show (F1_142 x0) = (F1_155 x0) from (if_pos hc146)).symm) ?_
      refine Ends.step (u' := (T.setTop (mkF m 155 #[.val (.int x0)] []))) ?_ (fun _ k => XS.icmpYes X.here hx rfl (pc0 := 146) (pc' := 155) rfl (hb hby d1_146) rfl (XT.ii_lt_t hc146) (by decide) (by decide) k)
      exact b155 T _ X eT N x0
    · refine Eq.mp (congrArg (fun z => Ends p e below s 0 0 (Q1 Z  h0 n0 z) (T.setTop (mkF m 146 #[.val (.int x0)] [(.int (12289 : Int32)), (.int x0)]))) (show (F1_142 x0) = (F1_149 x0) from (if_neg hc146)).symm) ?_
      refine Ends.step (u' := (T.setTop (mkF m 149 #[.val (.int x0)] []))) ?_ (fun _ k => XS.icmpNo X.here hx rfl (hb hby d1_146) rfl (XT.ii_lt_f hc146) k)
      exact b149 T _ X eT N x0
  have b135 : ∀ (T : State) (L : List Loc) (X : Stand p l e ({ frames := 0, cells := 0, slots := 0, locals := 0 } : Room) s m #[(.int p0)] below meth c T L 0 0) (eT : T.heap = h0) (N : Fr n0 L) (x0 : Int32), Ends p e below s 0 0 (Q1 Z  h0 n0 (F1_135 x0)) (T.setTop (mkF m 135 #[.val (.int x0)] [])) := by
    intro T L X eT N x0
    refine Ends.step (u' := (T.setTop (mkF m 136 #[.val (.int x0)] [(.int x0)]))) ?_ (fun _ k => XS.iloadN X.here hx rfl (hb hby d1_135) rfl k)
    refine Ends.step (u' := (T.setTop (mkF m 139 #[.val (.int x0)] [(.int (12271 : Int32)), (.int x0)]))) ?_ (fun _ k => XT.sipushV X.here hx rfl (12271 : Int32) (hb hby d1_136) rfl k)
    by_cases hc139 : (12271 : Int32) < x0
    · refine Eq.mp (congrArg (fun z => Ends p e below s 0 0 (Q1 Z  h0 n0 z) (T.setTop (mkF m 139 #[.val (.int x0)] [(.int (12271 : Int32)), (.int x0)]))) (show (F1_135 x0) = (F1_142 x0) from (if_pos hc139)).symm) ?_
      refine Ends.step (u' := (T.setTop (mkF m 142 #[.val (.int x0)] []))) ?_ (fun _ k => XS.icmpNo X.here hx rfl (hb hby d1_139) rfl (XT.ii_le_f hc139) k)
      exact b142 T _ X eT N x0
    · refine Eq.mp (congrArg (fun z => Ends p e below s 0 0 (Q1 Z  h0 n0 z) (T.setTop (mkF m 139 #[.val (.int x0)] [(.int (12271 : Int32)), (.int x0)]))) (show (F1_135 x0) = F1_191 from (if_neg hc139)).symm) ?_
      refine Ends.step (u' := (T.setTop (mkF m 191 #[.val (.int x0)] []))) ?_ (fun _ k => XS.icmpYes X.here hx rfl (pc0 := 139) (pc' := 191) rfl (hb hby d1_139) rfl (XT.ii_le_t hc139) (by decide) (by decide) k)
      exact b191 T _ X eT N (.val (.int x0)) (Or.inr ⟨_, rfl, rfl⟩)
  have b128 : ∀ (T : State) (L : List Loc) (X : Stand p l e ({ frames := 0, cells := 0, slots := 0, locals := 0 } : Room) s m #[(.int p0)] below meth c T L 0 0) (eT : T.heap = h0) (N : Fr n0 L) (x0 : Int32), Ends p e below s 0 0 (Q1 Z  h0 n0 (F1_128 x0)) (T.setTop (mkF m 128 #[.val (.int x0)] [])) := by
    intro T L X eT N x0
    refine Ends.step (u' := (T.setTop (mkF m 129 #[.val (.int x0)] [(.int x0)]))) ?_ (fun _ k => XS.iloadN X.here hx rfl (hb hby d1_128) rfl k)
    refine Ends.step (u' := (T.setTop (mkF m 132 #[.val (.int x0)] [(.int (11264 : Int32)), (.int x0)]))) ?_ (fun _ k => XT.sipushV X.here hx rfl (11264 : Int32) (hb hby d1_129) rfl k)
    by_cases hc132 : x0 < (11264 : Int32)
    · refine Eq.mp (congrArg (fun z => Ends p e below s 0 0 (Q1 Z  h0 n0 z) (T.setTop (mkF m 132 #[.val (.int x0)] [(.int (11264 : Int32)), (.int x0)]))) (show (F1_128 x0) = (F1_142 x0) from (if_pos hc132)).symm) ?_
      refine Ends.step (u' := (T.setTop (mkF m 142 #[.val (.int x0)] []))) ?_ (fun _ k => XS.icmpYes X.here hx rfl (pc0 := 132) (pc' := 142) rfl (hb hby d1_132) rfl (XT.ii_lt_t hc132) (by decide) (by decide) k)
      exact b142 T _ X eT N x0
    · refine Eq.mp (congrArg (fun z => Ends p e below s 0 0 (Q1 Z  h0 n0 z) (T.setTop (mkF m 132 #[.val (.int x0)] [(.int (11264 : Int32)), (.int x0)]))) (show (F1_128 x0) = (F1_135 x0) from (if_neg hc132)).symm) ?_
      refine Ends.step (u' := (T.setTop (mkF m 135 #[.val (.int x0)] []))) ?_ (fun _ k => XS.icmpNo X.here hx rfl (hb hby d1_132) rfl (XT.ii_lt_f hc132) k)
      exact b135 T _ X eT N x0
  have b121 : ∀ (T : State) (L : List Loc) (X : Stand p l e ({ frames := 0, cells := 0, slots := 0, locals := 0 } : Room) s m #[(.int p0)] below meth c T L 0 0) (eT : T.heap = h0) (N : Fr n0 L) (x0 : Int32), Ends p e below s 0 0 (Q1 Z  h0 n0 (F1_121 x0)) (T.setTop (mkF m 121 #[.val (.int x0)] [])) := by
    intro T L X eT N x0
    refine Ends.step (u' := (T.setTop (mkF m 122 #[.val (.int x0)] [(.int x0)]))) ?_ (fun _ k => XS.iloadN X.here hx rfl (hb hby d1_121) rfl k)
    refine Ends.step (u' := (T.setTop (mkF m 125 #[.val (.int x0)] [(.int (8591 : Int32)), (.int x0)]))) ?_ (fun _ k => XT.sipushV X.here hx rfl (8591 : Int32) (hb hby d1_122) rfl k)
    by_cases hc125 : (8591 : Int32) < x0
    · refine Eq.mp (congrArg (fun z => Ends p e below s 0 0 (Q1 Z  h0 n0 z) (T.setTop (mkF m 125 #[.val (.int x0)] [(.int (8591 : Int32)), (.int x0)]))) (show (F1_121 x0) = (F1_128 x0) from (if_pos hc125)).symm) ?_
      refine Ends.step (u' := (T.setTop (mkF m 128 #[.val (.int x0)] []))) ?_ (fun _ k => XS.icmpNo X.here hx rfl (hb hby d1_125) rfl (XT.ii_le_f hc125) k)
      exact b128 T _ X eT N x0
    · refine Eq.mp (congrArg (fun z => Ends p e below s 0 0 (Q1 Z  h0 n0 z) (T.setTop (mkF m 125 #[.val (.int x0)] [(.int (8591 : Int32)), (.int x0)]))) (show (F1_121 x0) = F1_191 from (if_neg hc125)).symm) ?_
      refine Ends.step (u' := (T.setTop (mkF m 191 #[.val (.int x0)] []))) ?_ (fun _ k => XS.icmpYes X.here hx rfl (pc0 := 125) (pc' := 191) rfl (hb hby d1_125) rfl (XT.ii_le_t hc125) (by decide) (by decide) k)
      exact b191 T _ X eT N (.val (.int x0)) (Or.inr ⟨_, rfl, rfl⟩)
  have b114 : ∀ (T : State) (L : List Loc) (X : Stand p l e ({ frames := 0, cells := 0, slots := 0, locals := 0 } : Room) s m #[(.int p0)] below meth c T L 0 0) (eT : T.heap = h0) (N : Fr n0 L) (x0 : Int32), Ends p e below s 0 0 (Q1 Z  h0 n0 (F1_114 x0)) (T.setTop (mkF m 114 #[.val (.int x0)] [])) := by
    intro T L X eT N x0
    refine Ends.step (u' := (T.setTop (mkF m 115 #[.val (.int x0)] [(.int x0)]))) ?_ (fun _ k => XS.iloadN X.here hx rfl (hb hby d1_114) rfl k)
    refine Ends.step (u' := (T.setTop (mkF m 118 #[.val (.int x0)] [(.int (8304 : Int32)), (.int x0)]))) ?_ (fun _ k => XT.sipushV X.here hx rfl (8304 : Int32) (hb hby d1_115) rfl k)
    by_cases hc118 : x0 < (8304 : Int32)
    · refine Eq.mp (congrArg (fun z => Ends p e below s 0 0 (Q1 Z  h0 n0 z) (T.setTop (mkF m 118 #[.val (.int x0)] [(.int (8304 : Int32)), (.int x0)]))) (show (F1_114 x0) = (F1_128 x0) from (if_pos hc118)).symm) ?_
      refine Ends.step (u' := (T.setTop (mkF m 128 #[.val (.int x0)] []))) ?_ (fun _ k => XS.icmpYes X.here hx rfl (pc0 := 118) (pc' := 128) rfl (hb hby d1_118) rfl (XT.ii_lt_t hc118) (by decide) (by decide) k)
      exact b128 T _ X eT N x0
    · refine Eq.mp (congrArg (fun z => Ends p e below s 0 0 (Q1 Z  h0 n0 z) (T.setTop (mkF m 118 #[.val (.int x0)] [(.int (8304 : Int32)), (.int x0)]))) (show (F1_114 x0) = (F1_121 x0) from (if_neg hc118)).symm) ?_
      refine Ends.step (u' := (T.setTop (mkF m 121 #[.val (.int x0)] []))) ?_ (fun _ k => XS.icmpNo X.here hx rfl (hb hby d1_118) rfl (XT.ii_lt_f hc118) k)
      exact b121 T _ X eT N x0
  have b107 : ∀ (T : State) (L : List Loc) (X : Stand p l e ({ frames := 0, cells := 0, slots := 0, locals := 0 } : Room) s m #[(.int p0)] below meth c T L 0 0) (eT : T.heap = h0) (N : Fr n0 L) (x0 : Int32), Ends p e below s 0 0 (Q1 Z  h0 n0 (F1_107 x0)) (T.setTop (mkF m 107 #[.val (.int x0)] [])) := by
    intro T L X eT N x0
    refine Ends.step (u' := (T.setTop (mkF m 108 #[.val (.int x0)] [(.int x0)]))) ?_ (fun _ k => XS.iloadN X.here hx rfl (hb hby d1_107) rfl k)
    refine Ends.step (u' := (T.setTop (mkF m 111 #[.val (.int x0)] [(.int (8205 : Int32)), (.int x0)]))) ?_ (fun _ k => XT.sipushV X.here hx rfl (8205 : Int32) (hb hby d1_108) rfl k)
    by_cases hc111 : (8205 : Int32) < x0
    · refine Eq.mp (congrArg (fun z => Ends p e below s 0 0 (Q1 Z  h0 n0 z) (T.setTop (mkF m 111 #[.val (.int x0)] [(.int (8205 : Int32)), (.int x0)]))) (show (F1_107 x0) = (F1_114 x0) from (if_pos hc111)).symm) ?_
      refine Ends.step (u' := (T.setTop (mkF m 114 #[.val (.int x0)] []))) ?_ (fun _ k => XS.icmpNo X.here hx rfl (hb hby d1_111) rfl (XT.ii_le_f hc111) k)
      exact b114 T _ X eT N x0
    · refine Eq.mp (congrArg (fun z => Ends p e below s 0 0 (Q1 Z  h0 n0 z) (T.setTop (mkF m 111 #[.val (.int x0)] [(.int (8205 : Int32)), (.int x0)]))) (show (F1_107 x0) = F1_191 from (if_neg hc111)).symm) ?_
      refine Ends.step (u' := (T.setTop (mkF m 191 #[.val (.int x0)] []))) ?_ (fun _ k => XS.icmpYes X.here hx rfl (pc0 := 111) (pc' := 191) rfl (hb hby d1_111) rfl (XT.ii_le_t hc111) (by decide) (by decide) k)
      exact b191 T _ X eT N (.val (.int x0)) (Or.inr ⟨_, rfl, rfl⟩)
  have b100 : ∀ (T : State) (L : List Loc) (X : Stand p l e ({ frames := 0, cells := 0, slots := 0, locals := 0 } : Room) s m #[(.int p0)] below meth c T L 0 0) (eT : T.heap = h0) (N : Fr n0 L) (x0 : Int32), Ends p e below s 0 0 (Q1 Z  h0 n0 (F1_100 x0)) (T.setTop (mkF m 100 #[.val (.int x0)] [])) := by
    intro T L X eT N x0
    refine Ends.step (u' := (T.setTop (mkF m 101 #[.val (.int x0)] [(.int x0)]))) ?_ (fun _ k => XS.iloadN X.here hx rfl (hb hby d1_100) rfl k)
    refine Ends.step (u' := (T.setTop (mkF m 104 #[.val (.int x0)] [(.int (8204 : Int32)), (.int x0)]))) ?_ (fun _ k => XT.sipushV X.here hx rfl (8204 : Int32) (hb hby d1_101) rfl k)
    by_cases hc104 : x0 < (8204 : Int32)
    · refine Eq.mp (congrArg (fun z => Ends p e below s 0 0 (Q1 Z  h0 n0 z) (T.setTop (mkF m 104 #[.val (.int x0)] [(.int (8204 : Int32)), (.int x0)]))) (show (F1_100 x0) = (F1_114 x0) from (if_pos hc104)).symm) ?_
      refine Ends.step (u' := (T.setTop (mkF m 114 #[.val (.int x0)] []))) ?_ (fun _ k => XS.icmpYes X.here hx rfl (pc0 := 104) (pc' := 114) rfl (hb hby d1_104) rfl (XT.ii_lt_t hc104) (by decide) (by decide) k)
      exact b114 T _ X eT N x0
    · refine Eq.mp (congrArg (fun z => Ends p e below s 0 0 (Q1 Z  h0 n0 z) (T.setTop (mkF m 104 #[.val (.int x0)] [(.int (8204 : Int32)), (.int x0)]))) (show (F1_100 x0) = (F1_107 x0) from (if_neg hc104)).symm) ?_
      refine Ends.step (u' := (T.setTop (mkF m 107 #[.val (.int x0)] []))) ?_ (fun _ k => XS.icmpNo X.here hx rfl (hb hby d1_104) rfl (XT.ii_lt_f hc104) k)
      exact b107 T _ X eT N x0
  have b93 : ∀ (T : State) (L : List Loc) (X : Stand p l e ({ frames := 0, cells := 0, slots := 0, locals := 0 } : Room) s m #[(.int p0)] below meth c T L 0 0) (eT : T.heap = h0) (N : Fr n0 L) (x0 : Int32), Ends p e below s 0 0 (Q1 Z  h0 n0 (F1_93 x0)) (T.setTop (mkF m 93 #[.val (.int x0)] [])) := by
    intro T L X eT N x0
    refine Ends.step (u' := (T.setTop (mkF m 94 #[.val (.int x0)] [(.int x0)]))) ?_ (fun _ k => XS.iloadN X.here hx rfl (hb hby d1_93) rfl k)
    refine Ends.step (u' := (T.setTop (mkF m 97 #[.val (.int x0)] [(.int (8191 : Int32)), (.int x0)]))) ?_ (fun _ k => XT.sipushV X.here hx rfl (8191 : Int32) (hb hby d1_94) rfl k)
    by_cases hc97 : (8191 : Int32) < x0
    · refine Eq.mp (congrArg (fun z => Ends p e below s 0 0 (Q1 Z  h0 n0 z) (T.setTop (mkF m 97 #[.val (.int x0)] [(.int (8191 : Int32)), (.int x0)]))) (show (F1_93 x0) = (F1_100 x0) from (if_pos hc97)).symm) ?_
      refine Ends.step (u' := (T.setTop (mkF m 100 #[.val (.int x0)] []))) ?_ (fun _ k => XS.icmpNo X.here hx rfl (hb hby d1_97) rfl (XT.ii_le_f hc97) k)
      exact b100 T _ X eT N x0
    · refine Eq.mp (congrArg (fun z => Ends p e below s 0 0 (Q1 Z  h0 n0 z) (T.setTop (mkF m 97 #[.val (.int x0)] [(.int (8191 : Int32)), (.int x0)]))) (show (F1_93 x0) = F1_191 from (if_neg hc97)).symm) ?_
      refine Ends.step (u' := (T.setTop (mkF m 191 #[.val (.int x0)] []))) ?_ (fun _ k => XS.icmpYes X.here hx rfl (pc0 := 97) (pc' := 191) rfl (hb hby d1_97) rfl (XT.ii_le_t hc97) (by decide) (by decide) k)
      exact b191 T _ X eT N (.val (.int x0)) (Or.inr ⟨_, rfl, rfl⟩)
  have b86 : ∀ (T : State) (L : List Loc) (X : Stand p l e ({ frames := 0, cells := 0, slots := 0, locals := 0 } : Room) s m #[(.int p0)] below meth c T L 0 0) (eT : T.heap = h0) (N : Fr n0 L) (x0 : Int32), Ends p e below s 0 0 (Q1 Z  h0 n0 (F1_86 x0)) (T.setTop (mkF m 86 #[.val (.int x0)] [])) := by
    intro T L X eT N x0
    refine Ends.step (u' := (T.setTop (mkF m 87 #[.val (.int x0)] [(.int x0)]))) ?_ (fun _ k => XS.iloadN X.here hx rfl (hb hby d1_86) rfl k)
    refine Ends.step (u' := (T.setTop (mkF m 90 #[.val (.int x0)] [(.int (895 : Int32)), (.int x0)]))) ?_ (fun _ k => XT.sipushV X.here hx rfl (895 : Int32) (hb hby d1_87) rfl k)
    by_cases hc90 : x0 < (895 : Int32)
    · refine Eq.mp (congrArg (fun z => Ends p e below s 0 0 (Q1 Z  h0 n0 z) (T.setTop (mkF m 90 #[.val (.int x0)] [(.int (895 : Int32)), (.int x0)]))) (show (F1_86 x0) = (F1_100 x0) from (if_pos hc90)).symm) ?_
      refine Ends.step (u' := (T.setTop (mkF m 100 #[.val (.int x0)] []))) ?_ (fun _ k => XS.icmpYes X.here hx rfl (pc0 := 90) (pc' := 100) rfl (hb hby d1_90) rfl (XT.ii_lt_t hc90) (by decide) (by decide) k)
      exact b100 T _ X eT N x0
    · refine Eq.mp (congrArg (fun z => Ends p e below s 0 0 (Q1 Z  h0 n0 z) (T.setTop (mkF m 90 #[.val (.int x0)] [(.int (895 : Int32)), (.int x0)]))) (show (F1_86 x0) = (F1_93 x0) from (if_neg hc90)).symm) ?_
      refine Ends.step (u' := (T.setTop (mkF m 93 #[.val (.int x0)] []))) ?_ (fun _ k => XS.icmpNo X.here hx rfl (hb hby d1_90) rfl (XT.ii_lt_f hc90) k)
      exact b93 T _ X eT N x0
  have b79 : ∀ (T : State) (L : List Loc) (X : Stand p l e ({ frames := 0, cells := 0, slots := 0, locals := 0 } : Room) s m #[(.int p0)] below meth c T L 0 0) (eT : T.heap = h0) (N : Fr n0 L) (x0 : Int32), Ends p e below s 0 0 (Q1 Z  h0 n0 (F1_79 x0)) (T.setTop (mkF m 79 #[.val (.int x0)] [])) := by
    intro T L X eT N x0
    refine Ends.step (u' := (T.setTop (mkF m 80 #[.val (.int x0)] [(.int x0)]))) ?_ (fun _ k => XS.iloadN X.here hx rfl (hb hby d1_79) rfl k)
    refine Ends.step (u' := (T.setTop (mkF m 83 #[.val (.int x0)] [(.int (893 : Int32)), (.int x0)]))) ?_ (fun _ k => XT.sipushV X.here hx rfl (893 : Int32) (hb hby d1_80) rfl k)
    by_cases hc83 : (893 : Int32) < x0
    · refine Eq.mp (congrArg (fun z => Ends p e below s 0 0 (Q1 Z  h0 n0 z) (T.setTop (mkF m 83 #[.val (.int x0)] [(.int (893 : Int32)), (.int x0)]))) (show (F1_79 x0) = (F1_86 x0) from (if_pos hc83)).symm) ?_
      refine Ends.step (u' := (T.setTop (mkF m 86 #[.val (.int x0)] []))) ?_ (fun _ k => XS.icmpNo X.here hx rfl (hb hby d1_83) rfl (XT.ii_le_f hc83) k)
      exact b86 T _ X eT N x0
    · refine Eq.mp (congrArg (fun z => Ends p e below s 0 0 (Q1 Z  h0 n0 z) (T.setTop (mkF m 83 #[.val (.int x0)] [(.int (893 : Int32)), (.int x0)]))) (show (F1_79 x0) = F1_191 from (if_neg hc83)).symm) ?_
      refine Ends.step (u' := (T.setTop (mkF m 191 #[.val (.int x0)] []))) ?_ (fun _ k => XS.icmpYes X.here hx rfl (pc0 := 83) (pc' := 191) rfl (hb hby d1_83) rfl (XT.ii_le_t hc83) (by decide) (by decide) k)
      exact b191 T _ X eT N (.val (.int x0)) (Or.inr ⟨_, rfl, rfl⟩)
  have b72 : ∀ (T : State) (L : List Loc) (X : Stand p l e ({ frames := 0, cells := 0, slots := 0, locals := 0 } : Room) s m #[(.int p0)] below meth c T L 0 0) (eT : T.heap = h0) (N : Fr n0 L) (x0 : Int32), Ends p e below s 0 0 (Q1 Z  h0 n0 (F1_72 x0)) (T.setTop (mkF m 72 #[.val (.int x0)] [])) := by
    intro T L X eT N x0
    refine Ends.step (u' := (T.setTop (mkF m 73 #[.val (.int x0)] [(.int x0)]))) ?_ (fun _ k => XS.iloadN X.here hx rfl (hb hby d1_72) rfl k)
    refine Ends.step (u' := (T.setTop (mkF m 76 #[.val (.int x0)] [(.int (880 : Int32)), (.int x0)]))) ?_ (fun _ k => XT.sipushV X.here hx rfl (880 : Int32) (hb hby d1_73) rfl k)
    by_cases hc76 : x0 < (880 : Int32)
    · refine Eq.mp (congrArg (fun z => Ends p e below s 0 0 (Q1 Z  h0 n0 z) (T.setTop (mkF m 76 #[.val (.int x0)] [(.int (880 : Int32)), (.int x0)]))) (show (F1_72 x0) = (F1_86 x0) from (if_pos hc76)).symm) ?_
      refine Ends.step (u' := (T.setTop (mkF m 86 #[.val (.int x0)] []))) ?_ (fun _ k => XS.icmpYes X.here hx rfl (pc0 := 76) (pc' := 86) rfl (hb hby d1_76) rfl (XT.ii_lt_t hc76) (by decide) (by decide) k)
      exact b86 T _ X eT N x0
    · refine Eq.mp (congrArg (fun z => Ends p e below s 0 0 (Q1 Z  h0 n0 z) (T.setTop (mkF m 76 #[.val (.int x0)] [(.int (880 : Int32)), (.int x0)]))) (show (F1_72 x0) = (F1_79 x0) from (if_neg hc76)).symm) ?_
      refine Ends.step (u' := (T.setTop (mkF m 79 #[.val (.int x0)] []))) ?_ (fun _ k => XS.icmpNo X.here hx rfl (hb hby d1_76) rfl (XT.ii_lt_f hc76) k)
      exact b79 T _ X eT N x0
  have b65 : ∀ (T : State) (L : List Loc) (X : Stand p l e ({ frames := 0, cells := 0, slots := 0, locals := 0 } : Room) s m #[(.int p0)] below meth c T L 0 0) (eT : T.heap = h0) (N : Fr n0 L) (x0 : Int32), Ends p e below s 0 0 (Q1 Z  h0 n0 (F1_65 x0)) (T.setTop (mkF m 65 #[.val (.int x0)] [])) := by
    intro T L X eT N x0
    refine Ends.step (u' := (T.setTop (mkF m 66 #[.val (.int x0)] [(.int x0)]))) ?_ (fun _ k => XS.iloadN X.here hx rfl (hb hby d1_65) rfl k)
    refine Ends.step (u' := (T.setTop (mkF m 69 #[.val (.int x0)] [(.int (767 : Int32)), (.int x0)]))) ?_ (fun _ k => XT.sipushV X.here hx rfl (767 : Int32) (hb hby d1_66) rfl k)
    by_cases hc69 : (767 : Int32) < x0
    · refine Eq.mp (congrArg (fun z => Ends p e below s 0 0 (Q1 Z  h0 n0 z) (T.setTop (mkF m 69 #[.val (.int x0)] [(.int (767 : Int32)), (.int x0)]))) (show (F1_65 x0) = (F1_72 x0) from (if_pos hc69)).symm) ?_
      refine Ends.step (u' := (T.setTop (mkF m 72 #[.val (.int x0)] []))) ?_ (fun _ k => XS.icmpNo X.here hx rfl (hb hby d1_69) rfl (XT.ii_le_f hc69) k)
      exact b72 T _ X eT N x0
    · refine Eq.mp (congrArg (fun z => Ends p e below s 0 0 (Q1 Z  h0 n0 z) (T.setTop (mkF m 69 #[.val (.int x0)] [(.int (767 : Int32)), (.int x0)]))) (show (F1_65 x0) = F1_191 from (if_neg hc69)).symm) ?_
      refine Ends.step (u' := (T.setTop (mkF m 191 #[.val (.int x0)] []))) ?_ (fun _ k => XS.icmpYes X.here hx rfl (pc0 := 69) (pc' := 191) rfl (hb hby d1_69) rfl (XT.ii_le_t hc69) (by decide) (by decide) k)
      exact b191 T _ X eT N (.val (.int x0)) (Or.inr ⟨_, rfl, rfl⟩)
  have b58 : ∀ (T : State) (L : List Loc) (X : Stand p l e ({ frames := 0, cells := 0, slots := 0, locals := 0 } : Room) s m #[(.int p0)] below meth c T L 0 0) (eT : T.heap = h0) (N : Fr n0 L) (x0 : Int32), Ends p e below s 0 0 (Q1 Z  h0 n0 (F1_58 x0)) (T.setTop (mkF m 58 #[.val (.int x0)] [])) := by
    intro T L X eT N x0
    refine Ends.step (u' := (T.setTop (mkF m 59 #[.val (.int x0)] [(.int x0)]))) ?_ (fun _ k => XS.iloadN X.here hx rfl (hb hby d1_58) rfl k)
    refine Ends.step (u' := (T.setTop (mkF m 62 #[.val (.int x0)] [(.int (248 : Int32)), (.int x0)]))) ?_ (fun _ k => XT.sipushV X.here hx rfl (248 : Int32) (hb hby d1_59) rfl k)
    by_cases hc62 : x0 < (248 : Int32)
    · refine Eq.mp (congrArg (fun z => Ends p e below s 0 0 (Q1 Z  h0 n0 z) (T.setTop (mkF m 62 #[.val (.int x0)] [(.int (248 : Int32)), (.int x0)]))) (show (F1_58 x0) = (F1_72 x0) from (if_pos hc62)).symm) ?_
      refine Ends.step (u' := (T.setTop (mkF m 72 #[.val (.int x0)] []))) ?_ (fun _ k => XS.icmpYes X.here hx rfl (pc0 := 62) (pc' := 72) rfl (hb hby d1_62) rfl (XT.ii_lt_t hc62) (by decide) (by decide) k)
      exact b72 T _ X eT N x0
    · refine Eq.mp (congrArg (fun z => Ends p e below s 0 0 (Q1 Z  h0 n0 z) (T.setTop (mkF m 62 #[.val (.int x0)] [(.int (248 : Int32)), (.int x0)]))) (show (F1_58 x0) = (F1_65 x0) from (if_neg hc62)).symm) ?_
      refine Ends.step (u' := (T.setTop (mkF m 65 #[.val (.int x0)] []))) ?_ (fun _ k => XS.icmpNo X.here hx rfl (hb hby d1_62) rfl (XT.ii_lt_f hc62) k)
      exact b65 T _ X eT N x0
  have b51 : ∀ (T : State) (L : List Loc) (X : Stand p l e ({ frames := 0, cells := 0, slots := 0, locals := 0 } : Room) s m #[(.int p0)] below meth c T L 0 0) (eT : T.heap = h0) (N : Fr n0 L) (x0 : Int32), Ends p e below s 0 0 (Q1 Z  h0 n0 (F1_51 x0)) (T.setTop (mkF m 51 #[.val (.int x0)] [])) := by
    intro T L X eT N x0
    refine Ends.step (u' := (T.setTop (mkF m 52 #[.val (.int x0)] [(.int x0)]))) ?_ (fun _ k => XS.iloadN X.here hx rfl (hb hby d1_51) rfl k)
    refine Ends.step (u' := (T.setTop (mkF m 55 #[.val (.int x0)] [(.int (246 : Int32)), (.int x0)]))) ?_ (fun _ k => XT.sipushV X.here hx rfl (246 : Int32) (hb hby d1_52) rfl k)
    by_cases hc55 : (246 : Int32) < x0
    · refine Eq.mp (congrArg (fun z => Ends p e below s 0 0 (Q1 Z  h0 n0 z) (T.setTop (mkF m 55 #[.val (.int x0)] [(.int (246 : Int32)), (.int x0)]))) (show (F1_51 x0) = (F1_58 x0) from (if_pos hc55)).symm) ?_
      refine Ends.step (u' := (T.setTop (mkF m 58 #[.val (.int x0)] []))) ?_ (fun _ k => XS.icmpNo X.here hx rfl (hb hby d1_55) rfl (XT.ii_le_f hc55) k)
      exact b58 T _ X eT N x0
    · refine Eq.mp (congrArg (fun z => Ends p e below s 0 0 (Q1 Z  h0 n0 z) (T.setTop (mkF m 55 #[.val (.int x0)] [(.int (246 : Int32)), (.int x0)]))) (show (F1_51 x0) = F1_191 from (if_neg hc55)).symm) ?_
      refine Ends.step (u' := (T.setTop (mkF m 191 #[.val (.int x0)] []))) ?_ (fun _ k => XS.icmpYes X.here hx rfl (pc0 := 55) (pc' := 191) rfl (hb hby d1_55) rfl (XT.ii_le_t hc55) (by decide) (by decide) k)
      exact b191 T _ X eT N (.val (.int x0)) (Or.inr ⟨_, rfl, rfl⟩)
  have b44 : ∀ (T : State) (L : List Loc) (X : Stand p l e ({ frames := 0, cells := 0, slots := 0, locals := 0 } : Room) s m #[(.int p0)] below meth c T L 0 0) (eT : T.heap = h0) (N : Fr n0 L) (x0 : Int32), Ends p e below s 0 0 (Q1 Z  h0 n0 (F1_44 x0)) (T.setTop (mkF m 44 #[.val (.int x0)] [])) := by
    intro T L X eT N x0
    refine Ends.step (u' := (T.setTop (mkF m 45 #[.val (.int x0)] [(.int x0)]))) ?_ (fun _ k => XS.iloadN X.here hx rfl (hb hby d1_44) rfl k)
    refine Ends.step (u' := (T.setTop (mkF m 48 #[.val (.int x0)] [(.int (216 : Int32)), (.int x0)]))) ?_ (fun _ k => XT.sipushV X.here hx rfl (216 : Int32) (hb hby d1_45) rfl k)
    by_cases hc48 : x0 < (216 : Int32)
    · refine Eq.mp (congrArg (fun z => Ends p e below s 0 0 (Q1 Z  h0 n0 z) (T.setTop (mkF m 48 #[.val (.int x0)] [(.int (216 : Int32)), (.int x0)]))) (show (F1_44 x0) = (F1_58 x0) from (if_pos hc48)).symm) ?_
      refine Ends.step (u' := (T.setTop (mkF m 58 #[.val (.int x0)] []))) ?_ (fun _ k => XS.icmpYes X.here hx rfl (pc0 := 48) (pc' := 58) rfl (hb hby d1_48) rfl (XT.ii_lt_t hc48) (by decide) (by decide) k)
      exact b58 T _ X eT N x0
    · refine Eq.mp (congrArg (fun z => Ends p e below s 0 0 (Q1 Z  h0 n0 z) (T.setTop (mkF m 48 #[.val (.int x0)] [(.int (216 : Int32)), (.int x0)]))) (show (F1_44 x0) = (F1_51 x0) from (if_neg hc48)).symm) ?_
      refine Ends.step (u' := (T.setTop (mkF m 51 #[.val (.int x0)] []))) ?_ (fun _ k => XS.icmpNo X.here hx rfl (hb hby d1_48) rfl (XT.ii_lt_f hc48) k)
      exact b51 T _ X eT N x0
  have b37 : ∀ (T : State) (L : List Loc) (X : Stand p l e ({ frames := 0, cells := 0, slots := 0, locals := 0 } : Room) s m #[(.int p0)] below meth c T L 0 0) (eT : T.heap = h0) (N : Fr n0 L) (x0 : Int32), Ends p e below s 0 0 (Q1 Z  h0 n0 (F1_37 x0)) (T.setTop (mkF m 37 #[.val (.int x0)] [])) := by
    intro T L X eT N x0
    refine Ends.step (u' := (T.setTop (mkF m 38 #[.val (.int x0)] [(.int x0)]))) ?_ (fun _ k => XS.iloadN X.here hx rfl (hb hby d1_37) rfl k)
    refine Ends.step (u' := (T.setTop (mkF m 41 #[.val (.int x0)] [(.int (214 : Int32)), (.int x0)]))) ?_ (fun _ k => XT.sipushV X.here hx rfl (214 : Int32) (hb hby d1_38) rfl k)
    by_cases hc41 : (214 : Int32) < x0
    · refine Eq.mp (congrArg (fun z => Ends p e below s 0 0 (Q1 Z  h0 n0 z) (T.setTop (mkF m 41 #[.val (.int x0)] [(.int (214 : Int32)), (.int x0)]))) (show (F1_37 x0) = (F1_44 x0) from (if_pos hc41)).symm) ?_
      refine Ends.step (u' := (T.setTop (mkF m 44 #[.val (.int x0)] []))) ?_ (fun _ k => XS.icmpNo X.here hx rfl (hb hby d1_41) rfl (XT.ii_le_f hc41) k)
      exact b44 T _ X eT N x0
    · refine Eq.mp (congrArg (fun z => Ends p e below s 0 0 (Q1 Z  h0 n0 z) (T.setTop (mkF m 41 #[.val (.int x0)] [(.int (214 : Int32)), (.int x0)]))) (show (F1_37 x0) = F1_191 from (if_neg hc41)).symm) ?_
      refine Ends.step (u' := (T.setTop (mkF m 191 #[.val (.int x0)] []))) ?_ (fun _ k => XS.icmpYes X.here hx rfl (pc0 := 41) (pc' := 191) rfl (hb hby d1_41) rfl (XT.ii_le_t hc41) (by decide) (by decide) k)
      exact b191 T _ X eT N (.val (.int x0)) (Or.inr ⟨_, rfl, rfl⟩)
  have b30 : ∀ (T : State) (L : List Loc) (X : Stand p l e ({ frames := 0, cells := 0, slots := 0, locals := 0 } : Room) s m #[(.int p0)] below meth c T L 0 0) (eT : T.heap = h0) (N : Fr n0 L) (x0 : Int32), Ends p e below s 0 0 (Q1 Z  h0 n0 (F1_30 x0)) (T.setTop (mkF m 30 #[.val (.int x0)] [])) := by
    intro T L X eT N x0
    refine Ends.step (u' := (T.setTop (mkF m 31 #[.val (.int x0)] [(.int x0)]))) ?_ (fun _ k => XS.iloadN X.here hx rfl (hb hby d1_30) rfl k)
    refine Ends.step (u' := (T.setTop (mkF m 34 #[.val (.int x0)] [(.int (192 : Int32)), (.int x0)]))) ?_ (fun _ k => XT.sipushV X.here hx rfl (192 : Int32) (hb hby d1_31) rfl k)
    by_cases hc34 : x0 < (192 : Int32)
    · refine Eq.mp (congrArg (fun z => Ends p e below s 0 0 (Q1 Z  h0 n0 z) (T.setTop (mkF m 34 #[.val (.int x0)] [(.int (192 : Int32)), (.int x0)]))) (show (F1_30 x0) = (F1_44 x0) from (if_pos hc34)).symm) ?_
      refine Ends.step (u' := (T.setTop (mkF m 44 #[.val (.int x0)] []))) ?_ (fun _ k => XS.icmpYes X.here hx rfl (pc0 := 34) (pc' := 44) rfl (hb hby d1_34) rfl (XT.ii_lt_t hc34) (by decide) (by decide) k)
      exact b44 T _ X eT N x0
    · refine Eq.mp (congrArg (fun z => Ends p e below s 0 0 (Q1 Z  h0 n0 z) (T.setTop (mkF m 34 #[.val (.int x0)] [(.int (192 : Int32)), (.int x0)]))) (show (F1_30 x0) = (F1_37 x0) from (if_neg hc34)).symm) ?_
      refine Ends.step (u' := (T.setTop (mkF m 37 #[.val (.int x0)] []))) ?_ (fun _ k => XS.icmpNo X.here hx rfl (hb hby d1_34) rfl (XT.ii_lt_f hc34) k)
      exact b37 T _ X eT N x0
  have b24 : ∀ (T : State) (L : List Loc) (X : Stand p l e ({ frames := 0, cells := 0, slots := 0, locals := 0 } : Room) s m #[(.int p0)] below meth c T L 0 0) (eT : T.heap = h0) (N : Fr n0 L) (x0 : Int32), Ends p e below s 0 0 (Q1 Z  h0 n0 (F1_24 x0)) (T.setTop (mkF m 24 #[.val (.int x0)] [])) := by
    intro T L X eT N x0
    refine Ends.step (u' := (T.setTop (mkF m 25 #[.val (.int x0)] [(.int x0)]))) ?_ (fun _ k => XS.iloadN X.here hx rfl (hb hby d1_24) rfl k)
    refine Ends.step (u' := (T.setTop (mkF m 27 #[.val (.int x0)] [(.int (95 : Int32)), (.int x0)]))) ?_ (fun _ k => XT.bipushV X.here hx rfl (95 : Int32) (hb hby d1_25) rfl k)
    by_cases hc27 : x0 = (95 : Int32)
    · refine Eq.mp (congrArg (fun z => Ends p e below s 0 0 (Q1 Z  h0 n0 z) (T.setTop (mkF m 27 #[.val (.int x0)] [(.int (95 : Int32)), (.int x0)]))) (show (F1_24 x0) = F1_191 from (if_pos hc27)).symm) ?_
      refine Ends.step (u' := (T.setTop (mkF m 191 #[.val (.int x0)] []))) ?_ (fun _ k => XS.icmpYes X.here hx rfl (pc0 := 27) (pc' := 191) rfl (hb hby d1_27) rfl (XT.ii_eq_t hc27) (by decide) (by decide) k)
      exact b191 T _ X eT N (.val (.int x0)) (Or.inr ⟨_, rfl, rfl⟩)
    · refine Eq.mp (congrArg (fun z => Ends p e below s 0 0 (Q1 Z  h0 n0 z) (T.setTop (mkF m 27 #[.val (.int x0)] [(.int (95 : Int32)), (.int x0)]))) (show (F1_24 x0) = (F1_30 x0) from (if_neg hc27)).symm) ?_
      refine Ends.step (u' := (T.setTop (mkF m 30 #[.val (.int x0)] []))) ?_ (fun _ k => XS.icmpNo X.here hx rfl (hb hby d1_27) rfl (XT.ii_eq_f hc27) k)
      exact b30 T _ X eT N x0
  have b18 : ∀ (T : State) (L : List Loc) (X : Stand p l e ({ frames := 0, cells := 0, slots := 0, locals := 0 } : Room) s m #[(.int p0)] below meth c T L 0 0) (eT : T.heap = h0) (N : Fr n0 L) (x0 : Int32), Ends p e below s 0 0 (Q1 Z  h0 n0 (F1_18 x0)) (T.setTop (mkF m 18 #[.val (.int x0)] [])) := by
    intro T L X eT N x0
    refine Ends.step (u' := (T.setTop (mkF m 19 #[.val (.int x0)] [(.int x0)]))) ?_ (fun _ k => XS.iloadN X.here hx rfl (hb hby d1_18) rfl k)
    refine Ends.step (u' := (T.setTop (mkF m 21 #[.val (.int x0)] [(.int (90 : Int32)), (.int x0)]))) ?_ (fun _ k => XT.bipushV X.here hx rfl (90 : Int32) (hb hby d1_19) rfl k)
    by_cases hc21 : (90 : Int32) < x0
    · refine Eq.mp (congrArg (fun z => Ends p e below s 0 0 (Q1 Z  h0 n0 z) (T.setTop (mkF m 21 #[.val (.int x0)] [(.int (90 : Int32)), (.int x0)]))) (show (F1_18 x0) = (F1_24 x0) from (if_pos hc21)).symm) ?_
      refine Ends.step (u' := (T.setTop (mkF m 24 #[.val (.int x0)] []))) ?_ (fun _ k => XS.icmpNo X.here hx rfl (hb hby d1_21) rfl (XT.ii_le_f hc21) k)
      exact b24 T _ X eT N x0
    · refine Eq.mp (congrArg (fun z => Ends p e below s 0 0 (Q1 Z  h0 n0 z) (T.setTop (mkF m 21 #[.val (.int x0)] [(.int (90 : Int32)), (.int x0)]))) (show (F1_18 x0) = F1_191 from (if_neg hc21)).symm) ?_
      refine Ends.step (u' := (T.setTop (mkF m 191 #[.val (.int x0)] []))) ?_ (fun _ k => XS.icmpYes X.here hx rfl (pc0 := 21) (pc' := 191) rfl (hb hby d1_21) rfl (XT.ii_le_t hc21) (by decide) (by decide) k)
      exact b191 T _ X eT N (.val (.int x0)) (Or.inr ⟨_, rfl, rfl⟩)
  have b12 : ∀ (T : State) (L : List Loc) (X : Stand p l e ({ frames := 0, cells := 0, slots := 0, locals := 0 } : Room) s m #[(.int p0)] below meth c T L 0 0) (eT : T.heap = h0) (N : Fr n0 L) (x0 : Int32), Ends p e below s 0 0 (Q1 Z  h0 n0 (F1_12 x0)) (T.setTop (mkF m 12 #[.val (.int x0)] [])) := by
    intro T L X eT N x0
    refine Ends.step (u' := (T.setTop (mkF m 13 #[.val (.int x0)] [(.int x0)]))) ?_ (fun _ k => XS.iloadN X.here hx rfl (hb hby d1_12) rfl k)
    refine Ends.step (u' := (T.setTop (mkF m 15 #[.val (.int x0)] [(.int (65 : Int32)), (.int x0)]))) ?_ (fun _ k => XT.bipushV X.here hx rfl (65 : Int32) (hb hby d1_13) rfl k)
    by_cases hc15 : x0 < (65 : Int32)
    · refine Eq.mp (congrArg (fun z => Ends p e below s 0 0 (Q1 Z  h0 n0 z) (T.setTop (mkF m 15 #[.val (.int x0)] [(.int (65 : Int32)), (.int x0)]))) (show (F1_12 x0) = (F1_24 x0) from (if_pos hc15)).symm) ?_
      refine Ends.step (u' := (T.setTop (mkF m 24 #[.val (.int x0)] []))) ?_ (fun _ k => XS.icmpYes X.here hx rfl (pc0 := 15) (pc' := 24) rfl (hb hby d1_15) rfl (XT.ii_lt_t hc15) (by decide) (by decide) k)
      exact b24 T _ X eT N x0
    · refine Eq.mp (congrArg (fun z => Ends p e below s 0 0 (Q1 Z  h0 n0 z) (T.setTop (mkF m 15 #[.val (.int x0)] [(.int (65 : Int32)), (.int x0)]))) (show (F1_12 x0) = (F1_18 x0) from (if_neg hc15)).symm) ?_
      refine Ends.step (u' := (T.setTop (mkF m 18 #[.val (.int x0)] []))) ?_ (fun _ k => XS.icmpNo X.here hx rfl (hb hby d1_15) rfl (XT.ii_lt_f hc15) k)
      exact b18 T _ X eT N x0
  have b6 : ∀ (T : State) (L : List Loc) (X : Stand p l e ({ frames := 0, cells := 0, slots := 0, locals := 0 } : Room) s m #[(.int p0)] below meth c T L 0 0) (eT : T.heap = h0) (N : Fr n0 L) (x0 : Int32), Ends p e below s 0 0 (Q1 Z  h0 n0 (F1_6 x0)) (T.setTop (mkF m 6 #[.val (.int x0)] [])) := by
    intro T L X eT N x0
    refine Ends.step (u' := (T.setTop (mkF m 7 #[.val (.int x0)] [(.int x0)]))) ?_ (fun _ k => XS.iloadN X.here hx rfl (hb hby d1_6) rfl k)
    refine Ends.step (u' := (T.setTop (mkF m 9 #[.val (.int x0)] [(.int (122 : Int32)), (.int x0)]))) ?_ (fun _ k => XT.bipushV X.here hx rfl (122 : Int32) (hb hby d1_7) rfl k)
    by_cases hc9 : (122 : Int32) < x0
    · refine Eq.mp (congrArg (fun z => Ends p e below s 0 0 (Q1 Z  h0 n0 z) (T.setTop (mkF m 9 #[.val (.int x0)] [(.int (122 : Int32)), (.int x0)]))) (show (F1_6 x0) = (F1_12 x0) from (if_pos hc9)).symm) ?_
      refine Ends.step (u' := (T.setTop (mkF m 12 #[.val (.int x0)] []))) ?_ (fun _ k => XS.icmpNo X.here hx rfl (hb hby d1_9) rfl (XT.ii_le_f hc9) k)
      exact b12 T _ X eT N x0
    · refine Eq.mp (congrArg (fun z => Ends p e below s 0 0 (Q1 Z  h0 n0 z) (T.setTop (mkF m 9 #[.val (.int x0)] [(.int (122 : Int32)), (.int x0)]))) (show (F1_6 x0) = F1_191 from (if_neg hc9)).symm) ?_
      refine Ends.step (u' := (T.setTop (mkF m 191 #[.val (.int x0)] []))) ?_ (fun _ k => XS.icmpYes X.here hx rfl (pc0 := 9) (pc' := 191) rfl (hb hby d1_9) rfl (XT.ii_le_t hc9) (by decide) (by decide) k)
      exact b191 T _ X eT N (.val (.int x0)) (Or.inr ⟨_, rfl, rfl⟩)
  refine Ends.step (u' := (s₁.setTop (mkF m 0 #[.val (.int p0)] []))) ?_ (fun _ k => castTop (ef_1 m p0) k)
  refine Ends.step (u' := (s₁.setTop (mkF m 1 #[.val (.int p0)] [(.int p0)]))) ?_ (fun _ k => XS.iloadN X0.here hx rfl (hb hby d1_0) rfl k)
  refine Ends.step (u' := (s₁.setTop (mkF m 3 #[.val (.int p0)] [(.int (97 : Int32)), (.int p0)]))) ?_ (fun _ k => XT.bipushV X0.here hx rfl (97 : Int32) (hb hby d1_1) rfl k)
  by_cases hc3 : p0 < (97 : Int32)
  · refine Eq.mp (congrArg (fun z => Ends p e below s 0 0 (Q1 Z  h0 n0 z) (s₁.setTop (mkF m 3 #[.val (.int p0)] [(.int (97 : Int32)), (.int p0)]))) (show (F1 p0) = (F1_12 p0) from (if_pos hc3)).symm) ?_
    refine Ends.step (u' := (s₁.setTop (mkF m 12 #[.val (.int p0)] []))) ?_ (fun _ k => XS.icmpYes X0.here hx rfl (pc0 := 3) (pc' := 12) rfl (hb hby d1_3) rfl (XT.ii_lt_t hc3) (by decide) (by decide) k)
    exact b12 s₁ _ X0 e0 N0 p0
  · refine Eq.mp (congrArg (fun z => Ends p e below s 0 0 (Q1 Z  h0 n0 z) (s₁.setTop (mkF m 3 #[.val (.int p0)] [(.int (97 : Int32)), (.int p0)]))) (show (F1 p0) = (F1_6 p0) from (if_neg hc3)).symm) ?_
    refine Ends.step (u' := (s₁.setTop (mkF m 6 #[.val (.int p0)] []))) ?_ (fun _ k => XS.icmpNo X0.here hx rfl (hb hby d1_3) rfl (XT.ii_lt_f hc3) k)
    exact b6 s₁ _ X0 e0 N0 p0
theorem d2_0 : decode method_3_code 0 = .ok (.iload_n 0, 1) := by decide +kernel
theorem d2_1 : decode method_3_code 1 = .ok (.bipush 65, 2) := by decide +kernel
theorem d2_3 : decode method_3_code 3 = .ok (.if_icmp .lt 9, 3) := by decide +kernel
theorem d2_6 : decode method_3_code 6 = .ok (.iload_n 0, 1) := by decide +kernel
theorem d2_7 : decode method_3_code 7 = .ok (.ldc 20, 2) := by decide +kernel
theorem d2_9 : decode method_3_code 9 = .ok (.if_icmp .le 5, 3) := by decide +kernel
theorem d2_12 : decode method_3_code 12 = .ok (.iconst 0, 1) := by decide +kernel
theorem d2_13 : decode method_3_code 13 = .ok (.ireturn, 1) := by decide +kernel
theorem d2_14 : decode method_3_code 14 = .ok (.iload_n 0, 1) := by decide +kernel
theorem d2_15 : decode method_3_code 15 = .ok (.bipush 91, 2) := by decide +kernel
theorem d2_17 : decode method_3_code 17 = .ok (.if_icmp .lt 11, 3) := by decide +kernel
theorem d2_20 : decode method_3_code 20 = .ok (.iload_n 0, 1) := by decide +kernel
theorem d2_21 : decode method_3_code 21 = .ok (.bipush 94, 2) := by decide +kernel
theorem d2_23 : decode method_3_code 23 = .ok (.if_icmp .gt 5, 3) := by decide +kernel
theorem d2_26 : decode method_3_code 26 = .ok (.iconst 0, 1) := by decide +kernel
theorem d2_27 : decode method_3_code 27 = .ok (.ireturn, 1) := by decide +kernel
theorem d2_28 : decode method_3_code 28 = .ok (.iload_n 0, 1) := by decide +kernel
theorem d2_29 : decode method_3_code 29 = .ok (.bipush 96, 2) := by decide +kernel
theorem d2_31 : decode method_3_code 31 = .ok (.if_icmp .ne 5, 3) := by decide +kernel
theorem d2_34 : decode method_3_code 34 = .ok (.iconst 0, 1) := by decide +kernel
theorem d2_35 : decode method_3_code 35 = .ok (.ireturn, 1) := by decide +kernel
theorem d2_36 : decode method_3_code 36 = .ok (.iload_n 0, 1) := by decide +kernel
theorem d2_37 : decode method_3_code 37 = .ok (.bipush 123, 2) := by decide +kernel
theorem d2_39 : decode method_3_code 39 = .ok (.if_icmp .lt 12, 3) := by decide +kernel
theorem d2_42 : decode method_3_code 42 = .ok (.iload_n 0, 1) := by decide +kernel
theorem d2_43 : decode method_3_code 43 = .ok (.sipush 191, 3) := by decide +kernel
theorem d2_46 : decode method_3_code 46 = .ok (.if_icmp .gt 5, 3) := by decide +kernel
theorem d2_49 : decode method_3_code 49 = .ok (.iconst 0, 1) := by decide +kernel
theorem d2_50 : decode method_3_code 50 = .ok (.ireturn, 1) := by decide +kernel
theorem d2_51 : decode method_3_code 51 = .ok (.iload_n 0, 1) := by decide +kernel
theorem d2_52 : decode method_3_code 52 = .ok (.sipush 215, 3) := by decide +kernel
theorem d2_55 : decode method_3_code 55 = .ok (.if_icmp .eq 10, 3) := by decide +kernel
theorem d2_58 : decode method_3_code 58 = .ok (.iload_n 0, 1) := by decide +kernel
theorem d2_59 : decode method_3_code 59 = .ok (.sipush 247, 3) := by decide +kernel
theorem d2_62 : decode method_3_code 62 = .ok (.if_icmp .ne 5, 3) := by decide +kernel
theorem d2_65 : decode method_3_code 65 = .ok (.iconst 0, 1) := by decide +kernel
theorem d2_66 : decode method_3_code 66 = .ok (.ireturn, 1) := by decide +kernel
theorem d2_67 : decode method_3_code 67 = .ok (.iload_n 0, 1) := by decide +kernel
theorem d2_68 : decode method_3_code 68 = .ok (.sipush 768, 3) := by decide +kernel
theorem d2_71 : decode method_3_code 71 = .ok (.if_icmp .lt 12, 3) := by decide +kernel
theorem d2_74 : decode method_3_code 74 = .ok (.iload_n 0, 1) := by decide +kernel
theorem d2_75 : decode method_3_code 75 = .ok (.sipush 879, 3) := by decide +kernel
theorem d2_78 : decode method_3_code 78 = .ok (.if_icmp .gt 5, 3) := by decide +kernel
theorem d2_81 : decode method_3_code 81 = .ok (.iconst 0, 1) := by decide +kernel
theorem d2_82 : decode method_3_code 82 = .ok (.ireturn, 1) := by decide +kernel
theorem d2_83 : decode method_3_code 83 = .ok (.iload_n 0, 1) := by decide +kernel
theorem d2_84 : decode method_3_code 84 = .ok (.sipush 894, 3) := by decide +kernel
theorem d2_87 : decode method_3_code 87 = .ok (.if_icmp .ne 5, 3) := by decide +kernel
theorem d2_90 : decode method_3_code 90 = .ok (.iconst 0, 1) := by decide +kernel
theorem d2_91 : decode method_3_code 91 = .ok (.ireturn, 1) := by decide +kernel
theorem d2_92 : decode method_3_code 92 = .ok (.iload_n 0, 1) := by decide +kernel
theorem d2_93 : decode method_3_code 93 = .ok (.sipush 8192, 3) := by decide +kernel
theorem d2_96 : decode method_3_code 96 = .ok (.if_icmp .lt 12, 3) := by decide +kernel
theorem d2_99 : decode method_3_code 99 = .ok (.iload_n 0, 1) := by decide +kernel
theorem d2_100 : decode method_3_code 100 = .ok (.sipush 8203, 3) := by decide +kernel
theorem d2_103 : decode method_3_code 103 = .ok (.if_icmp .gt 5, 3) := by decide +kernel
theorem d2_106 : decode method_3_code 106 = .ok (.iconst 0, 1) := by decide +kernel
theorem d2_107 : decode method_3_code 107 = .ok (.ireturn, 1) := by decide +kernel
theorem d2_108 : decode method_3_code 108 = .ok (.iload_n 0, 1) := by decide +kernel
theorem d2_109 : decode method_3_code 109 = .ok (.sipush 8206, 3) := by decide +kernel
theorem d2_112 : decode method_3_code 112 = .ok (.if_icmp .lt 12, 3) := by decide +kernel
theorem d2_115 : decode method_3_code 115 = .ok (.iload_n 0, 1) := by decide +kernel
theorem d2_116 : decode method_3_code 116 = .ok (.sipush 8303, 3) := by decide +kernel
theorem d2_119 : decode method_3_code 119 = .ok (.if_icmp .gt 5, 3) := by decide +kernel
theorem d2_122 : decode method_3_code 122 = .ok (.iconst 0, 1) := by decide +kernel
theorem d2_123 : decode method_3_code 123 = .ok (.ireturn, 1) := by decide +kernel
theorem d2_124 : decode method_3_code 124 = .ok (.iload_n 0, 1) := by decide +kernel
theorem d2_125 : decode method_3_code 125 = .ok (.sipush 8592, 3) := by decide +kernel
theorem d2_128 : decode method_3_code 128 = .ok (.if_icmp .lt 12, 3) := by decide +kernel
theorem d2_131 : decode method_3_code 131 = .ok (.iload_n 0, 1) := by decide +kernel
theorem d2_132 : decode method_3_code 132 = .ok (.sipush 11263, 3) := by decide +kernel
theorem d2_135 : decode method_3_code 135 = .ok (.if_icmp .gt 5, 3) := by decide +kernel
theorem d2_138 : decode method_3_code 138 = .ok (.iconst 0, 1) := by decide +kernel
theorem d2_139 : decode method_3_code 139 = .ok (.ireturn, 1) := by decide +kernel
theorem d2_140 : decode method_3_code 140 = .ok (.iload_n 0, 1) := by decide +kernel
theorem d2_141 : decode method_3_code 141 = .ok (.sipush 12272, 3) := by decide +kernel
theorem d2_144 : decode method_3_code 144 = .ok (.if_icmp .lt 12, 3) := by decide +kernel
theorem d2_147 : decode method_3_code 147 = .ok (.iload_n 0, 1) := by decide +kernel
theorem d2_148 : decode method_3_code 148 = .ok (.sipush 12288, 3) := by decide +kernel
theorem d2_151 : decode method_3_code 151 = .ok (.if_icmp .gt 5, 3) := by decide +kernel
theorem d2_154 : decode method_3_code 154 = .ok (.iconst 0, 1) := by decide +kernel
theorem d2_155 : decode method_3_code 155 = .ok (.ireturn, 1) := by decide +kernel
theorem d2_156 : decode method_3_code 156 = .ok (.iload_n 0, 1) := by decide +kernel
theorem d2_157 : decode method_3_code 157 = .ok (.ldc 21, 2) := by decide +kernel
theorem d2_159 : decode method_3_code 159 = .ok (.if_icmp .lt 11, 3) := by decide +kernel
theorem d2_162 : decode method_3_code 162 = .ok (.iload_n 0, 1) := by decide +kernel
theorem d2_163 : decode method_3_code 163 = .ok (.ldc 22, 2) := by decide +kernel
theorem d2_165 : decode method_3_code 165 = .ok (.if_icmp .gt 5, 3) := by decide +kernel
theorem d2_168 : decode method_3_code 168 = .ok (.iconst 0, 1) := by decide +kernel
theorem d2_169 : decode method_3_code 169 = .ok (.ireturn, 1) := by decide +kernel
theorem d2_170 : decode method_3_code 170 = .ok (.iload_n 0, 1) := by decide +kernel
theorem d2_171 : decode method_3_code 171 = .ok (.ldc 23, 2) := by decide +kernel
theorem d2_173 : decode method_3_code 173 = .ok (.if_icmp .lt 11, 3) := by decide +kernel
theorem d2_176 : decode method_3_code 176 = .ok (.iload_n 0, 1) := by decide +kernel
theorem d2_177 : decode method_3_code 177 = .ok (.ldc 24, 2) := by decide +kernel
theorem d2_179 : decode method_3_code 179 = .ok (.if_icmp .gt 5, 3) := by decide +kernel
theorem d2_182 : decode method_3_code 182 = .ok (.iconst 0, 1) := by decide +kernel
theorem d2_183 : decode method_3_code 183 = .ok (.ireturn, 1) := by decide +kernel
theorem d2_184 : decode method_3_code 184 = .ok (.iload_n 0, 1) := by decide +kernel
theorem d2_185 : decode method_3_code 185 = .ok (.ldc 25, 2) := by decide +kernel
theorem d2_187 : decode method_3_code 187 = .ok (.if_icmp .lt 11, 3) := by decide +kernel
theorem d2_190 : decode method_3_code 190 = .ok (.iload_n 0, 1) := by decide +kernel
theorem d2_191 : decode method_3_code 191 = .ok (.ldc 7, 2) := by decide +kernel
theorem d2_193 : decode method_3_code 193 = .ok (.if_icmp .gt 5, 3) := by decide +kernel
theorem d2_196 : decode method_3_code 196 = .ok (.iconst 0, 1) := by decide +kernel
theorem d2_197 : decode method_3_code 197 = .ok (.ireturn, 1) := by decide +kernel
theorem d2_198 : decode method_3_code 198 = .ok (.iconst 1, 1) := by decide +kernel
theorem d2_199 : decode method_3_code 199 = .ok (.ireturn, 1) := by decide +kernel
theorem pn_2 : plainFor (⟨"com/example/kuopio/kuopio/XmlCharsIsNameStartCharPinLaw", "ref", "(I)Z"⟩ : MethodName) = true := by first | exact plainFor_of_name (by first | (simp [plainName, overriddenIn]; done) | decide +kernel) | decide +kernel
theorem ef_2 (m : MethodId) (y0 : Int32) : entryFrame m #[(.int y0)] 1 = mkF m 0 #[.val (.int y0)] [] := by first | (simp [entryFrame, mkF, argsToLocals, Value.category]; done) | rfl
def Q2 (Z : State)   (h0 : Heap) (n0 : Nat) (ans : Int32) (v : Option Value) (h : Heap) (L : List Loc) : Prop := v = some (.int ans) ∧ Fr n0 L ∧ h = h0
set_option maxRecDepth 65536 in
set_option maxHeartbeats 40000000 in
theorem rm2 (l : Launch) (Z : State) (a0 : Array Value) (hw : ∀ d ∈ tables_1, d.before a0 Z = true) (p0 : Int32)  (h0 : Heap) (n0 : Nat) (Z0 : n0 ≤ h0.size)  :
    Meets l Z (⟨"com/example/kuopio/kuopio/XmlCharsIsNameStartCharPinLaw", "ref", "(I)Z"⟩ : MethodName) method_3_code 1 (some .boolean) [] ({ frames := 0, cells := 0, slots := 0, locals := 0 } : Room) #[(.int p0)] h0 (Q2 Z  h0 n0 (F2 p0)) 0 0 := by
  refine Meets.of pn_2 ?_
  intro p e s m below meth c s₁ hx hby hml hZ hown hnm hret hlk X0 e0
  have hml : c.maxLocals = 1 := hml
  have hown : s.vm.findClass "com/example/kuopio/kuopio/XmlCharsIsNameStartCharPinLaw" = some m.cls := hown
  have N0 := Fr.nil n0
  have b12 : ∀ (T : State) (L : List Loc) (X : Stand p l e ({ frames := 0, cells := 0, slots := 0, locals := 0 } : Room) s m #[(.int p0)] below meth c T L 0 0) (eT : T.heap = h0) (N : Fr n0 L) (d0 : Slot) (od0 : OneS d0), Ends p e below s 0 0 (Q2 Z  h0 n0 F2_12) (T.setTop (mkF m 12 #[d0] [])) := by
    intro T L X eT N d0 od0
    refine Ends.step (u' := (T.setTop (mkF m 13 #[d0] [(.int (0 : Int32))]))) ?_ (fun _ k => XT.iconstV X.here hx rfl (0 : Int32) (hb hby d2_12) rfl k)
    exact Ends.ret X (v := some (.int (nar .boolean (0 : Int32)))) (fun q => by rw [hret] at q; cases q) hlk (fun fs hr => retN X hx (t := .boolean) hret (by simp) (hb hby d2_13) hr) (by decide) (by decide) ⟨rfl, N, eT⟩
  have b26 : ∀ (T : State) (L : List Loc) (X : Stand p l e ({ frames := 0, cells := 0, slots := 0, locals := 0 } : Room) s m #[(.int p0)] below meth c T L 0 0) (eT : T.heap = h0) (N : Fr n0 L) (d0 : Slot) (od0 : OneS d0), Ends p e below s 0 0 (Q2 Z  h0 n0 F2_26) (T.setTop (mkF m 26 #[d0] [])) := by
    intro T L X eT N d0 od0
    refine Ends.step (u' := (T.setTop (mkF m 27 #[d0] [(.int (0 : Int32))]))) ?_ (fun _ k => XT.iconstV X.here hx rfl (0 : Int32) (hb hby d2_26) rfl k)
    exact Ends.ret X (v := some (.int (nar .boolean (0 : Int32)))) (fun q => by rw [hret] at q; cases q) hlk (fun fs hr => retN X hx (t := .boolean) hret (by simp) (hb hby d2_27) hr) (by decide) (by decide) ⟨rfl, N, eT⟩
  have b34 : ∀ (T : State) (L : List Loc) (X : Stand p l e ({ frames := 0, cells := 0, slots := 0, locals := 0 } : Room) s m #[(.int p0)] below meth c T L 0 0) (eT : T.heap = h0) (N : Fr n0 L) (d0 : Slot) (od0 : OneS d0), Ends p e below s 0 0 (Q2 Z  h0 n0 F2_34) (T.setTop (mkF m 34 #[d0] [])) := by
    intro T L X eT N d0 od0
    refine Ends.step (u' := (T.setTop (mkF m 35 #[d0] [(.int (0 : Int32))]))) ?_ (fun _ k => XT.iconstV X.here hx rfl (0 : Int32) (hb hby d2_34) rfl k)
    exact Ends.ret X (v := some (.int (nar .boolean (0 : Int32)))) (fun q => by rw [hret] at q; cases q) hlk (fun fs hr => retN X hx (t := .boolean) hret (by simp) (hb hby d2_35) hr) (by decide) (by decide) ⟨rfl, N, eT⟩
  have b49 : ∀ (T : State) (L : List Loc) (X : Stand p l e ({ frames := 0, cells := 0, slots := 0, locals := 0 } : Room) s m #[(.int p0)] below meth c T L 0 0) (eT : T.heap = h0) (N : Fr n0 L) (d0 : Slot) (od0 : OneS d0), Ends p e below s 0 0 (Q2 Z  h0 n0 F2_49) (T.setTop (mkF m 49 #[d0] [])) := by
    intro T L X eT N d0 od0
    refine Ends.step (u' := (T.setTop (mkF m 50 #[d0] [(.int (0 : Int32))]))) ?_ (fun _ k => XT.iconstV X.here hx rfl (0 : Int32) (hb hby d2_49) rfl k)
    exact Ends.ret X (v := some (.int (nar .boolean (0 : Int32)))) (fun q => by rw [hret] at q; cases q) hlk (fun fs hr => retN X hx (t := .boolean) hret (by simp) (hb hby d2_50) hr) (by decide) (by decide) ⟨rfl, N, eT⟩
  have b65 : ∀ (T : State) (L : List Loc) (X : Stand p l e ({ frames := 0, cells := 0, slots := 0, locals := 0 } : Room) s m #[(.int p0)] below meth c T L 0 0) (eT : T.heap = h0) (N : Fr n0 L) (d0 : Slot) (od0 : OneS d0), Ends p e below s 0 0 (Q2 Z  h0 n0 F2_65) (T.setTop (mkF m 65 #[d0] [])) := by
    intro T L X eT N d0 od0
    refine Ends.step (u' := (T.setTop (mkF m 66 #[d0] [(.int (0 : Int32))]))) ?_ (fun _ k => XT.iconstV X.here hx rfl (0 : Int32) (hb hby d2_65) rfl k)
    exact Ends.ret X (v := some (.int (nar .boolean (0 : Int32)))) (fun q => by rw [hret] at q; cases q) hlk (fun fs hr => retN X hx (t := .boolean) hret (by simp) (hb hby d2_66) hr) (by decide) (by decide) ⟨rfl, N, eT⟩
  have b81 : ∀ (T : State) (L : List Loc) (X : Stand p l e ({ frames := 0, cells := 0, slots := 0, locals := 0 } : Room) s m #[(.int p0)] below meth c T L 0 0) (eT : T.heap = h0) (N : Fr n0 L) (d0 : Slot) (od0 : OneS d0), Ends p e below s 0 0 (Q2 Z  h0 n0 F2_81) (T.setTop (mkF m 81 #[d0] [])) := by
    intro T L X eT N d0 od0
    refine Ends.step (u' := (T.setTop (mkF m 82 #[d0] [(.int (0 : Int32))]))) ?_ (fun _ k => XT.iconstV X.here hx rfl (0 : Int32) (hb hby d2_81) rfl k)
    exact Ends.ret X (v := some (.int (nar .boolean (0 : Int32)))) (fun q => by rw [hret] at q; cases q) hlk (fun fs hr => retN X hx (t := .boolean) hret (by simp) (hb hby d2_82) hr) (by decide) (by decide) ⟨rfl, N, eT⟩
  have b90 : ∀ (T : State) (L : List Loc) (X : Stand p l e ({ frames := 0, cells := 0, slots := 0, locals := 0 } : Room) s m #[(.int p0)] below meth c T L 0 0) (eT : T.heap = h0) (N : Fr n0 L) (d0 : Slot) (od0 : OneS d0), Ends p e below s 0 0 (Q2 Z  h0 n0 F2_90) (T.setTop (mkF m 90 #[d0] [])) := by
    intro T L X eT N d0 od0
    refine Ends.step (u' := (T.setTop (mkF m 91 #[d0] [(.int (0 : Int32))]))) ?_ (fun _ k => XT.iconstV X.here hx rfl (0 : Int32) (hb hby d2_90) rfl k)
    exact Ends.ret X (v := some (.int (nar .boolean (0 : Int32)))) (fun q => by rw [hret] at q; cases q) hlk (fun fs hr => retN X hx (t := .boolean) hret (by simp) (hb hby d2_91) hr) (by decide) (by decide) ⟨rfl, N, eT⟩
  have b106 : ∀ (T : State) (L : List Loc) (X : Stand p l e ({ frames := 0, cells := 0, slots := 0, locals := 0 } : Room) s m #[(.int p0)] below meth c T L 0 0) (eT : T.heap = h0) (N : Fr n0 L) (d0 : Slot) (od0 : OneS d0), Ends p e below s 0 0 (Q2 Z  h0 n0 F2_106) (T.setTop (mkF m 106 #[d0] [])) := by
    intro T L X eT N d0 od0
    refine Ends.step (u' := (T.setTop (mkF m 107 #[d0] [(.int (0 : Int32))]))) ?_ (fun _ k => XT.iconstV X.here hx rfl (0 : Int32) (hb hby d2_106) rfl k)
    exact Ends.ret X (v := some (.int (nar .boolean (0 : Int32)))) (fun q => by rw [hret] at q; cases q) hlk (fun fs hr => retN X hx (t := .boolean) hret (by simp) (hb hby d2_107) hr) (by decide) (by decide) ⟨rfl, N, eT⟩
  have b122 : ∀ (T : State) (L : List Loc) (X : Stand p l e ({ frames := 0, cells := 0, slots := 0, locals := 0 } : Room) s m #[(.int p0)] below meth c T L 0 0) (eT : T.heap = h0) (N : Fr n0 L) (d0 : Slot) (od0 : OneS d0), Ends p e below s 0 0 (Q2 Z  h0 n0 F2_122) (T.setTop (mkF m 122 #[d0] [])) := by
    intro T L X eT N d0 od0
    refine Ends.step (u' := (T.setTop (mkF m 123 #[d0] [(.int (0 : Int32))]))) ?_ (fun _ k => XT.iconstV X.here hx rfl (0 : Int32) (hb hby d2_122) rfl k)
    exact Ends.ret X (v := some (.int (nar .boolean (0 : Int32)))) (fun q => by rw [hret] at q; cases q) hlk (fun fs hr => retN X hx (t := .boolean) hret (by simp) (hb hby d2_123) hr) (by decide) (by decide) ⟨rfl, N, eT⟩
  have b138 : ∀ (T : State) (L : List Loc) (X : Stand p l e ({ frames := 0, cells := 0, slots := 0, locals := 0 } : Room) s m #[(.int p0)] below meth c T L 0 0) (eT : T.heap = h0) (N : Fr n0 L) (d0 : Slot) (od0 : OneS d0), Ends p e below s 0 0 (Q2 Z  h0 n0 F2_138) (T.setTop (mkF m 138 #[d0] [])) := by
    intro T L X eT N d0 od0
    refine Ends.step (u' := (T.setTop (mkF m 139 #[d0] [(.int (0 : Int32))]))) ?_ (fun _ k => XT.iconstV X.here hx rfl (0 : Int32) (hb hby d2_138) rfl k)
    exact Ends.ret X (v := some (.int (nar .boolean (0 : Int32)))) (fun q => by rw [hret] at q; cases q) hlk (fun fs hr => retN X hx (t := .boolean) hret (by simp) (hb hby d2_139) hr) (by decide) (by decide) ⟨rfl, N, eT⟩
  have b154 : ∀ (T : State) (L : List Loc) (X : Stand p l e ({ frames := 0, cells := 0, slots := 0, locals := 0 } : Room) s m #[(.int p0)] below meth c T L 0 0) (eT : T.heap = h0) (N : Fr n0 L) (d0 : Slot) (od0 : OneS d0), Ends p e below s 0 0 (Q2 Z  h0 n0 F2_154) (T.setTop (mkF m 154 #[d0] [])) := by
    intro T L X eT N d0 od0
    refine Ends.step (u' := (T.setTop (mkF m 155 #[d0] [(.int (0 : Int32))]))) ?_ (fun _ k => XT.iconstV X.here hx rfl (0 : Int32) (hb hby d2_154) rfl k)
    exact Ends.ret X (v := some (.int (nar .boolean (0 : Int32)))) (fun q => by rw [hret] at q; cases q) hlk (fun fs hr => retN X hx (t := .boolean) hret (by simp) (hb hby d2_155) hr) (by decide) (by decide) ⟨rfl, N, eT⟩
  have b168 : ∀ (T : State) (L : List Loc) (X : Stand p l e ({ frames := 0, cells := 0, slots := 0, locals := 0 } : Room) s m #[(.int p0)] below meth c T L 0 0) (eT : T.heap = h0) (N : Fr n0 L) (d0 : Slot) (od0 : OneS d0), Ends p e below s 0 0 (Q2 Z  h0 n0 F2_168) (T.setTop (mkF m 168 #[d0] [])) := by
    intro T L X eT N d0 od0
    refine Ends.step (u' := (T.setTop (mkF m 169 #[d0] [(.int (0 : Int32))]))) ?_ (fun _ k => XT.iconstV X.here hx rfl (0 : Int32) (hb hby d2_168) rfl k)
    exact Ends.ret X (v := some (.int (nar .boolean (0 : Int32)))) (fun q => by rw [hret] at q; cases q) hlk (fun fs hr => retN X hx (t := .boolean) hret (by simp) (hb hby d2_169) hr) (by decide) (by decide) ⟨rfl, N, eT⟩
  have b182 : ∀ (T : State) (L : List Loc) (X : Stand p l e ({ frames := 0, cells := 0, slots := 0, locals := 0 } : Room) s m #[(.int p0)] below meth c T L 0 0) (eT : T.heap = h0) (N : Fr n0 L) (d0 : Slot) (od0 : OneS d0), Ends p e below s 0 0 (Q2 Z  h0 n0 F2_182) (T.setTop (mkF m 182 #[d0] [])) := by
    intro T L X eT N d0 od0
    refine Ends.step (u' := (T.setTop (mkF m 183 #[d0] [(.int (0 : Int32))]))) ?_ (fun _ k => XT.iconstV X.here hx rfl (0 : Int32) (hb hby d2_182) rfl k)
    exact Ends.ret X (v := some (.int (nar .boolean (0 : Int32)))) (fun q => by rw [hret] at q; cases q) hlk (fun fs hr => retN X hx (t := .boolean) hret (by simp) (hb hby d2_183) hr) (by decide) (by decide) ⟨rfl, N, eT⟩
  have b196 : ∀ (T : State) (L : List Loc) (X : Stand p l e ({ frames := 0, cells := 0, slots := 0, locals := 0 } : Room) s m #[(.int p0)] below meth c T L 0 0) (eT : T.heap = h0) (N : Fr n0 L) (d0 : Slot) (od0 : OneS d0), Ends p e below s 0 0 (Q2 Z  h0 n0 F2_196) (T.setTop (mkF m 196 #[d0] [])) := by
    intro T L X eT N d0 od0
    refine Ends.step (u' := (T.setTop (mkF m 197 #[d0] [(.int (0 : Int32))]))) ?_ (fun _ k => XT.iconstV X.here hx rfl (0 : Int32) (hb hby d2_196) rfl k)
    exact Ends.ret X (v := some (.int (nar .boolean (0 : Int32)))) (fun q => by rw [hret] at q; cases q) hlk (fun fs hr => retN X hx (t := .boolean) hret (by simp) (hb hby d2_197) hr) (by decide) (by decide) ⟨rfl, N, eT⟩
  have b198 : ∀ (T : State) (L : List Loc) (X : Stand p l e ({ frames := 0, cells := 0, slots := 0, locals := 0 } : Room) s m #[(.int p0)] below meth c T L 0 0) (eT : T.heap = h0) (N : Fr n0 L) (d0 : Slot) (od0 : OneS d0), Ends p e below s 0 0 (Q2 Z  h0 n0 F2_198) (T.setTop (mkF m 198 #[d0] [])) := by
    intro T L X eT N d0 od0
    refine Ends.step (u' := (T.setTop (mkF m 199 #[d0] [(.int (1 : Int32))]))) ?_ (fun _ k => XT.iconstV X.here hx rfl (1 : Int32) (hb hby d2_198) rfl k)
    exact Ends.ret X (v := some (.int (nar .boolean (1 : Int32)))) (fun q => by rw [hret] at q; cases q) hlk (fun fs hr => retN X hx (t := .boolean) hret (by simp) (hb hby d2_199) hr) (by decide) (by decide) ⟨rfl, N, eT⟩
  have b190 : ∀ (T : State) (L : List Loc) (X : Stand p l e ({ frames := 0, cells := 0, slots := 0, locals := 0 } : Room) s m #[(.int p0)] below meth c T L 0 0) (eT : T.heap = h0) (N : Fr n0 L) (x0 : Int32), Ends p e below s 0 0 (Q2 Z  h0 n0 (F2_190 x0)) (T.setTop (mkF m 190 #[.val (.int x0)] [])) := by
    intro T L X eT N x0
    refine Ends.step (u' := (T.setTop (mkF m 191 #[.val (.int x0)] [(.int x0)]))) ?_ (fun _ k => XS.iloadN X.here hx rfl (hb hby d2_190) rfl k)
    refine Ends.step (u' := (T.setTop (mkF m 193 #[.val (.int x0)] [(.int (65535 : Int32)), (.int x0)]))) ?_ (fun _ k => X.ldcI hx hown (mvT hZ (hw _ (List.mem_of_getElem? (i := 0) rfl))) rfl (hb hby d2_191) k)
    by_cases hc193 : (65535 : Int32) < x0
    · refine Eq.mp (congrArg (fun z => Ends p e below s 0 0 (Q2 Z  h0 n0 z) (T.setTop (mkF m 193 #[.val (.int x0)] [(.int (65535 : Int32)), (.int x0)]))) (show (F2_190 x0) = F2_198 from (if_pos hc193)).symm) ?_
      refine Ends.step (u' := (T.setTop (mkF m 198 #[.val (.int x0)] []))) ?_ (fun _ k => XS.icmpYes X.here hx rfl (pc0 := 193) (pc' := 198) rfl (hb hby d2_193) rfl (XT.ii_gt_t hc193) (by decide) (by decide) k)
      exact b198 T _ X eT N (.val (.int x0)) (Or.inr ⟨_, rfl, rfl⟩)
    · refine Eq.mp (congrArg (fun z => Ends p e below s 0 0 (Q2 Z  h0 n0 z) (T.setTop (mkF m 193 #[.val (.int x0)] [(.int (65535 : Int32)), (.int x0)]))) (show (F2_190 x0) = F2_196 from (if_neg hc193)).symm) ?_
      refine Ends.step (u' := (T.setTop (mkF m 196 #[.val (.int x0)] []))) ?_ (fun _ k => XS.icmpNo X.here hx rfl (hb hby d2_193) rfl (XT.ii_gt_f hc193) k)
      exact b196 T _ X eT N (.val (.int x0)) (Or.inr ⟨_, rfl, rfl⟩)
  have b184 : ∀ (T : State) (L : List Loc) (X : Stand p l e ({ frames := 0, cells := 0, slots := 0, locals := 0 } : Room) s m #[(.int p0)] below meth c T L 0 0) (eT : T.heap = h0) (N : Fr n0 L) (x0 : Int32), Ends p e below s 0 0 (Q2 Z  h0 n0 (F2_184 x0)) (T.setTop (mkF m 184 #[.val (.int x0)] [])) := by
    intro T L X eT N x0
    refine Ends.step (u' := (T.setTop (mkF m 185 #[.val (.int x0)] [(.int x0)]))) ?_ (fun _ k => XS.iloadN X.here hx rfl (hb hby d2_184) rfl k)
    refine Ends.step (u' := (T.setTop (mkF m 187 #[.val (.int x0)] [(.int (65534 : Int32)), (.int x0)]))) ?_ (fun _ k => X.ldcI hx hown (mvT hZ (hw _ (List.mem_of_getElem? (i := 16) rfl))) rfl (hb hby d2_185) k)
    by_cases hc187 : x0 < (65534 : Int32)
    · refine Eq.mp (congrArg (fun z => Ends p e below s 0 0 (Q2 Z  h0 n0 z) (T.setTop (mkF m 187 #[.val (.int x0)] [(.int (65534 : Int32)), (.int x0)]))) (show (F2_184 x0) = F2_198 from (if_pos hc187)).symm) ?_
      refine Ends.step (u' := (T.setTop (mkF m 198 #[.val (.int x0)] []))) ?_ (fun _ k => XS.icmpYes X.here hx rfl (pc0 := 187) (pc' := 198) rfl (hb hby d2_187) rfl (XT.ii_lt_t hc187) (by decide) (by decide) k)
      exact b198 T _ X eT N (.val (.int x0)) (Or.inr ⟨_, rfl, rfl⟩)
    · refine Eq.mp (congrArg (fun z => Ends p e below s 0 0 (Q2 Z  h0 n0 z) (T.setTop (mkF m 187 #[.val (.int x0)] [(.int (65534 : Int32)), (.int x0)]))) (show (F2_184 x0) = (F2_190 x0) from (if_neg hc187)).symm) ?_
      refine Ends.step (u' := (T.setTop (mkF m 190 #[.val (.int x0)] []))) ?_ (fun _ k => XS.icmpNo X.here hx rfl (hb hby d2_187) rfl (XT.ii_lt_f hc187) k)
      exact b190 T _ X eT N x0
  have b176 : ∀ (T : State) (L : List Loc) (X : Stand p l e ({ frames := 0, cells := 0, slots := 0, locals := 0 } : Room) s m #[(.int p0)] below meth c T L 0 0) (eT : T.heap = h0) (N : Fr n0 L) (x0 : Int32), Ends p e below s 0 0 (Q2 Z  h0 n0 (F2_176 x0)) (T.setTop (mkF m 176 #[.val (.int x0)] [])) := by
    intro T L X eT N x0
    refine Ends.step (u' := (T.setTop (mkF m 177 #[.val (.int x0)] [(.int x0)]))) ?_ (fun _ k => XS.iloadN X.here hx rfl (hb hby d2_176) rfl k)
    refine Ends.step (u' := (T.setTop (mkF m 179 #[.val (.int x0)] [(.int (65007 : Int32)), (.int x0)]))) ?_ (fun _ k => X.ldcI hx hown (mvT hZ (hw _ (List.mem_of_getElem? (i := 22) rfl))) rfl (hb hby d2_177) k)
    by_cases hc179 : (65007 : Int32) < x0
    · refine Eq.mp (congrArg (fun z => Ends p e below s 0 0 (Q2 Z  h0 n0 z) (T.setTop (mkF m 179 #[.val (.int x0)] [(.int (65007 : Int32)), (.int x0)]))) (show (F2_176 x0) = (F2_184 x0) from (if_pos hc179)).symm) ?_
      refine Ends.step (u' := (T.setTop (mkF m 184 #[.val (.int x0)] []))) ?_ (fun _ k => XS.icmpYes X.here hx rfl (pc0 := 179) (pc' := 184) rfl (hb hby d2_179) rfl (XT.ii_gt_t hc179) (by decide) (by decide) k)
      exact b184 T _ X eT N x0
    · refine Eq.mp (congrArg (fun z => Ends p e below s 0 0 (Q2 Z  h0 n0 z) (T.setTop (mkF m 179 #[.val (.int x0)] [(.int (65007 : Int32)), (.int x0)]))) (show (F2_176 x0) = F2_182 from (if_neg hc179)).symm) ?_
      refine Ends.step (u' := (T.setTop (mkF m 182 #[.val (.int x0)] []))) ?_ (fun _ k => XS.icmpNo X.here hx rfl (hb hby d2_179) rfl (XT.ii_gt_f hc179) k)
      exact b182 T _ X eT N (.val (.int x0)) (Or.inr ⟨_, rfl, rfl⟩)
  have b170 : ∀ (T : State) (L : List Loc) (X : Stand p l e ({ frames := 0, cells := 0, slots := 0, locals := 0 } : Room) s m #[(.int p0)] below meth c T L 0 0) (eT : T.heap = h0) (N : Fr n0 L) (x0 : Int32), Ends p e below s 0 0 (Q2 Z  h0 n0 (F2_170 x0)) (T.setTop (mkF m 170 #[.val (.int x0)] [])) := by
    intro T L X eT N x0
    refine Ends.step (u' := (T.setTop (mkF m 171 #[.val (.int x0)] [(.int x0)]))) ?_ (fun _ k => XS.iloadN X.here hx rfl (hb hby d2_170) rfl k)
    refine Ends.step (u' := (T.setTop (mkF m 173 #[.val (.int x0)] [(.int (64976 : Int32)), (.int x0)]))) ?_ (fun _ k => X.ldcI hx hown (mvT hZ (hw _ (List.mem_of_getElem? (i := 15) rfl))) rfl (hb hby d2_171) k)
    by_cases hc173 : x0 < (64976 : Int32)
    · refine Eq.mp (congrArg (fun z => Ends p e below s 0 0 (Q2 Z  h0 n0 z) (T.setTop (mkF m 173 #[.val (.int x0)] [(.int (64976 : Int32)), (.int x0)]))) (show (F2_170 x0) = (F2_184 x0) from (if_pos hc173)).symm) ?_
      refine Ends.step (u' := (T.setTop (mkF m 184 #[.val (.int x0)] []))) ?_ (fun _ k => XS.icmpYes X.here hx rfl (pc0 := 173) (pc' := 184) rfl (hb hby d2_173) rfl (XT.ii_lt_t hc173) (by decide) (by decide) k)
      exact b184 T _ X eT N x0
    · refine Eq.mp (congrArg (fun z => Ends p e below s 0 0 (Q2 Z  h0 n0 z) (T.setTop (mkF m 173 #[.val (.int x0)] [(.int (64976 : Int32)), (.int x0)]))) (show (F2_170 x0) = (F2_176 x0) from (if_neg hc173)).symm) ?_
      refine Ends.step (u' := (T.setTop (mkF m 176 #[.val (.int x0)] []))) ?_ (fun _ k => XS.icmpNo X.here hx rfl (hb hby d2_173) rfl (XT.ii_lt_f hc173) k)
      exact b176 T _ X eT N x0
  have b162 : ∀ (T : State) (L : List Loc) (X : Stand p l e ({ frames := 0, cells := 0, slots := 0, locals := 0 } : Room) s m #[(.int p0)] below meth c T L 0 0) (eT : T.heap = h0) (N : Fr n0 L) (x0 : Int32), Ends p e below s 0 0 (Q2 Z  h0 n0 (F2_162 x0)) (T.setTop (mkF m 162 #[.val (.int x0)] [])) := by
    intro T L X eT N x0
    refine Ends.step (u' := (T.setTop (mkF m 163 #[.val (.int x0)] [(.int x0)]))) ?_ (fun _ k => XS.iloadN X.here hx rfl (hb hby d2_162) rfl k)
    refine Ends.step (u' := (T.setTop (mkF m 165 #[.val (.int x0)] [(.int (63743 : Int32)), (.int x0)]))) ?_ (fun _ k => X.ldcI hx hown (mvT hZ (hw _ (List.mem_of_getElem? (i := 21) rfl))) rfl (hb hby d2_163) k)
    by_cases hc165 : (63743 : Int32) < x0
    · refine Eq.mp (congrArg (fun z => Ends p e below s 0 0 (Q2 Z  h0 n0 z) (T.setTop (mkF m 165 #[.val (.int x0)] [(.int (63743 : Int32)), (.int x0)]))) (show (F2_162 x0) = (F2_170 x0) from (if_pos hc165)).symm) ?_
      refine Ends.step (u' := (T.setTop (mkF m 170 #[.val (.int x0)] []))) ?_ (fun _ k => XS.icmpYes X.here hx rfl (pc0 := 165) (pc' := 170) rfl (hb hby d2_165) rfl (XT.ii_gt_t hc165) (by decide) (by decide) k)
      exact b170 T _ X eT N x0
    · refine Eq.mp (congrArg (fun z => Ends p e below s 0 0 (Q2 Z  h0 n0 z) (T.setTop (mkF m 165 #[.val (.int x0)] [(.int (63743 : Int32)), (.int x0)]))) (show (F2_162 x0) = F2_168 from (if_neg hc165)).symm) ?_
      refine Ends.step (u' := (T.setTop (mkF m 168 #[.val (.int x0)] []))) ?_ (fun _ k => XS.icmpNo X.here hx rfl (hb hby d2_165) rfl (XT.ii_gt_f hc165) k)
      exact b168 T _ X eT N (.val (.int x0)) (Or.inr ⟨_, rfl, rfl⟩)
  have b156 : ∀ (T : State) (L : List Loc) (X : Stand p l e ({ frames := 0, cells := 0, slots := 0, locals := 0 } : Room) s m #[(.int p0)] below meth c T L 0 0) (eT : T.heap = h0) (N : Fr n0 L) (x0 : Int32), Ends p e below s 0 0 (Q2 Z  h0 n0 (F2_156 x0)) (T.setTop (mkF m 156 #[.val (.int x0)] [])) := by
    intro T L X eT N x0
    refine Ends.step (u' := (T.setTop (mkF m 157 #[.val (.int x0)] [(.int x0)]))) ?_ (fun _ k => XS.iloadN X.here hx rfl (hb hby d2_156) rfl k)
    refine Ends.step (u' := (T.setTop (mkF m 159 #[.val (.int x0)] [(.int (55296 : Int32)), (.int x0)]))) ?_ (fun _ k => X.ldcI hx hown (mvT hZ (hw _ (List.mem_of_getElem? (i := 14) rfl))) rfl (hb hby d2_157) k)
    by_cases hc159 : x0 < (55296 : Int32)
    · refine Eq.mp (congrArg (fun z => Ends p e below s 0 0 (Q2 Z  h0 n0 z) (T.setTop (mkF m 159 #[.val (.int x0)] [(.int (55296 : Int32)), (.int x0)]))) (show (F2_156 x0) = (F2_170 x0) from (if_pos hc159)).symm) ?_
      refine Ends.step (u' := (T.setTop (mkF m 170 #[.val (.int x0)] []))) ?_ (fun _ k => XS.icmpYes X.here hx rfl (pc0 := 159) (pc' := 170) rfl (hb hby d2_159) rfl (XT.ii_lt_t hc159) (by decide) (by decide) k)
      exact b170 T _ X eT N x0
    · refine Eq.mp (congrArg (fun z => Ends p e below s 0 0 (Q2 Z  h0 n0 z) (T.setTop (mkF m 159 #[.val (.int x0)] [(.int (55296 : Int32)), (.int x0)]))) (show (F2_156 x0) = (F2_162 x0) from (if_neg hc159)).symm) ?_
      refine Ends.step (u' := (T.setTop (mkF m 162 #[.val (.int x0)] []))) ?_ (fun _ k => XS.icmpNo X.here hx rfl (hb hby d2_159) rfl (XT.ii_lt_f hc159) k)
      exact b162 T _ X eT N x0
  have b147 : ∀ (T : State) (L : List Loc) (X : Stand p l e ({ frames := 0, cells := 0, slots := 0, locals := 0 } : Room) s m #[(.int p0)] below meth c T L 0 0) (eT : T.heap = h0) (N : Fr n0 L) (x0 : Int32), Ends p e below s 0 0 (Q2 Z  h0 n0 (F2_147 x0)) (T.setTop (mkF m 147 #[.val (.int x0)] [])) := by
    intro T L X eT N x0
    refine Ends.step (u' := (T.setTop (mkF m 148 #[.val (.int x0)] [(.int x0)]))) ?_ (fun _ k => XS.iloadN X.here hx rfl (hb hby d2_147) rfl k)
    refine Ends.step (u' := (T.setTop (mkF m 151 #[.val (.int x0)] [(.int (12288 : Int32)), (.int x0)]))) ?_ (fun _ k => XT.sipushV X.here hx rfl (12288 : Int32) (hb hby d2_148) rfl k)
    by_cases hc151 : (12288 : Int32) < x0
    · refine Eq.mp (congrArg (fun z => Ends p e below s 0 0 (Q2 Z  h0 n0 z) (T.setTop (mkF m 151 #[.val (.int x0)] [(.int (12288 : Int32)), (.int x0)]))) (show (F2_147 x0) = (F2_156 x0) from (if_pos hc151)).symm) ?_
      refine Ends.step (u' := (T.setTop (mkF m 156 #[.val (.int x0)] []))) ?_ (fun _ k => XS.icmpYes X.here hx rfl (pc0 := 151) (pc' := 156) rfl (hb hby d2_151) rfl (XT.ii_gt_t hc151) (by decide) (by decide) k)
      exact b156 T _ X eT N x0
    · refine Eq.mp (congrArg (fun z => Ends p e below s 0 0 (Q2 Z  h0 n0 z) (T.setTop (mkF m 151 #[.val (.int x0)] [(.int (12288 : Int32)), (.int x0)]))) (show (F2_147 x0) = F2_154 from (if_neg hc151)).symm) ?_
      refine Ends.step (u' := (T.setTop (mkF m 154 #[.val (.int x0)] []))) ?_ (fun _ k => XS.icmpNo X.here hx rfl (hb hby d2_151) rfl (XT.ii_gt_f hc151) k)
      exact b154 T _ X eT N (.val (.int x0)) (Or.inr ⟨_, rfl, rfl⟩)
  have b140 : ∀ (T : State) (L : List Loc) (X : Stand p l e ({ frames := 0, cells := 0, slots := 0, locals := 0 } : Room) s m #[(.int p0)] below meth c T L 0 0) (eT : T.heap = h0) (N : Fr n0 L) (x0 : Int32), Ends p e below s 0 0 (Q2 Z  h0 n0 (F2_140 x0)) (T.setTop (mkF m 140 #[.val (.int x0)] [])) := by
    intro T L X eT N x0
    refine Ends.step (u' := (T.setTop (mkF m 141 #[.val (.int x0)] [(.int x0)]))) ?_ (fun _ k => XS.iloadN X.here hx rfl (hb hby d2_140) rfl k)
    refine Ends.step (u' := (T.setTop (mkF m 144 #[.val (.int x0)] [(.int (12272 : Int32)), (.int x0)]))) ?_ (fun _ k => XT.sipushV X.here hx rfl (12272 : Int32) (hb hby d2_141) rfl k)
    by_cases hc144 : x0 < (12272 : Int32)
    · refine Eq.mp (congrArg (fun z => Ends p e below s 0 0 (Q2 Z  h0 n0 z) (T.setTop (mkF m 144 #[.val (.int x0)] [(.int (12272 : Int32)), (.int x0)]))) (show (F2_140 x0) = (F2_156 x0) from (if_pos hc144)).symm) ?_
      refine Ends.step (u' := (T.setTop (mkF m 156 #[.val (.int x0)] []))) ?_ (fun _ k => XS.icmpYes X.here hx rfl (pc0 := 144) (pc' := 156) rfl (hb hby d2_144) rfl (XT.ii_lt_t hc144) (by decide) (by decide) k)
      exact b156 T _ X eT N x0
    · refine Eq.mp (congrArg (fun z => Ends p e below s 0 0 (Q2 Z  h0 n0 z) (T.setTop (mkF m 144 #[.val (.int x0)] [(.int (12272 : Int32)), (.int x0)]))) (show (F2_140 x0) = (F2_147 x0) from (if_neg hc144)).symm) ?_
      refine Ends.step (u' := (T.setTop (mkF m 147 #[.val (.int x0)] []))) ?_ (fun _ k => XS.icmpNo X.here hx rfl (hb hby d2_144) rfl (XT.ii_lt_f hc144) k)
      exact b147 T _ X eT N x0
  have b131 : ∀ (T : State) (L : List Loc) (X : Stand p l e ({ frames := 0, cells := 0, slots := 0, locals := 0 } : Room) s m #[(.int p0)] below meth c T L 0 0) (eT : T.heap = h0) (N : Fr n0 L) (x0 : Int32), Ends p e below s 0 0 (Q2 Z  h0 n0 (F2_131 x0)) (T.setTop (mkF m 131 #[.val (.int x0)] [])) := by
    intro T L X eT N x0
    refine Ends.step (u' := (T.setTop (mkF m 132 #[.val (.int x0)] [(.int x0)]))) ?_ (fun _ k => XS.iloadN X.here hx rfl (hb hby d2_131) rfl k)
    refine Ends.step (u' := (T.setTop (mkF m 135 #[.val (.int x0)] [(.int (11263 : Int32)), (.int x0)]))) ?_ (fun _ k => XT.sipushV X.here hx rfl (11263 : Int32) (hb hby d2_132) rfl k)
    by_cases hc135 : (11263 : Int32) < x0
    · refine Eq.mp (congrArg (fun z => Ends p e below s 0 0 (Q2 Z  h0 n0 z) (T.setTop (mkF m 135 #[.val (.int x0)] [(.int (11263 : Int32)), (.int x0)]))) (show (F2_131 x0) = (F2_140 x0) from (if_pos hc135)).symm) ?_
      refine Ends.step (u' := (T.setTop (mkF m 140 #[.val (.int x0)] []))) ?_ (fun _ k => XS.icmpYes X.here hx rfl (pc0 := 135) (pc' := 140) rfl (hb hby d2_135) rfl (XT.ii_gt_t hc135) (by decide) (by decide) k)
      exact b140 T _ X eT N x0
    · refine Eq.mp (congrArg (fun z => Ends p e below s 0 0 (Q2 Z  h0 n0 z) (T.setTop (mkF m 135 #[.val (.int x0)] [(.int (11263 : Int32)), (.int x0)]))) (show (F2_131 x0) = F2_138 from (if_neg hc135)).symm) ?_
      refine Ends.step (u' := (T.setTop (mkF m 138 #[.val (.int x0)] []))) ?_ (fun _ k => XS.icmpNo X.here hx rfl (hb hby d2_135) rfl (XT.ii_gt_f hc135) k)
      exact b138 T _ X eT N (.val (.int x0)) (Or.inr ⟨_, rfl, rfl⟩)
  have b124 : ∀ (T : State) (L : List Loc) (X : Stand p l e ({ frames := 0, cells := 0, slots := 0, locals := 0 } : Room) s m #[(.int p0)] below meth c T L 0 0) (eT : T.heap = h0) (N : Fr n0 L) (x0 : Int32), Ends p e below s 0 0 (Q2 Z  h0 n0 (F2_124 x0)) (T.setTop (mkF m 124 #[.val (.int x0)] [])) := by
    intro T L X eT N x0
    refine Ends.step (u' := (T.setTop (mkF m 125 #[.val (.int x0)] [(.int x0)]))) ?_ (fun _ k => XS.iloadN X.here hx rfl (hb hby d2_124) rfl k)
    refine Ends.step (u' := (T.setTop (mkF m 128 #[.val (.int x0)] [(.int (8592 : Int32)), (.int x0)]))) ?_ (fun _ k => XT.sipushV X.here hx rfl (8592 : Int32) (hb hby d2_125) rfl k)
    by_cases hc128 : x0 < (8592 : Int32)
    · refine Eq.mp (congrArg (fun z => Ends p e below s 0 0 (Q2 Z  h0 n0 z) (T.setTop (mkF m 128 #[.val (.int x0)] [(.int (8592 : Int32)), (.int x0)]))) (show (F2_124 x0) = (F2_140 x0) from (if_pos hc128)).symm) ?_
      refine Ends.step (u' := (T.setTop (mkF m 140 #[.val (.int x0)] []))) ?_ (fun _ k => XS.icmpYes X.here hx rfl (pc0 := 128) (pc' := 140) rfl (hb hby d2_128) rfl (XT.ii_lt_t hc128) (by decide) (by decide) k)
      exact b140 T _ X eT N x0
    · refine Eq.mp (congrArg (fun z => Ends p e below s 0 0 (Q2 Z  h0 n0 z) (T.setTop (mkF m 128 #[.val (.int x0)] [(.int (8592 : Int32)), (.int x0)]))) (show (F2_124 x0) = (F2_131 x0) from (if_neg hc128)).symm) ?_
      refine Ends.step (u' := (T.setTop (mkF m 131 #[.val (.int x0)] []))) ?_ (fun _ k => XS.icmpNo X.here hx rfl (hb hby d2_128) rfl (XT.ii_lt_f hc128) k)
      exact b131 T _ X eT N x0
  have b115 : ∀ (T : State) (L : List Loc) (X : Stand p l e ({ frames := 0, cells := 0, slots := 0, locals := 0 } : Room) s m #[(.int p0)] below meth c T L 0 0) (eT : T.heap = h0) (N : Fr n0 L) (x0 : Int32), Ends p e below s 0 0 (Q2 Z  h0 n0 (F2_115 x0)) (T.setTop (mkF m 115 #[.val (.int x0)] [])) := by
    intro T L X eT N x0
    refine Ends.step (u' := (T.setTop (mkF m 116 #[.val (.int x0)] [(.int x0)]))) ?_ (fun _ k => XS.iloadN X.here hx rfl (hb hby d2_115) rfl k)
    refine Ends.step (u' := (T.setTop (mkF m 119 #[.val (.int x0)] [(.int (8303 : Int32)), (.int x0)]))) ?_ (fun _ k => XT.sipushV X.here hx rfl (8303 : Int32) (hb hby d2_116) rfl k)
    by_cases hc119 : (8303 : Int32) < x0
    · refine Eq.mp (congrArg (fun z => Ends p e below s 0 0 (Q2 Z  h0 n0 z) (T.setTop (mkF m 119 #[.val (.int x0)] [(.int (8303 : Int32)), (.int x0)]))) (show (F2_115 x0) = (F2_124 x0) from (if_pos hc119)).symm) ?_
      refine Ends.step (u' := (T.setTop (mkF m 124 #[.val (.int x0)] []))) ?_ (fun _ k => XS.icmpYes X.here hx rfl (pc0 := 119) (pc' := 124) rfl (hb hby d2_119) rfl (XT.ii_gt_t hc119) (by decide) (by decide) k)
      exact b124 T _ X eT N x0
    · refine Eq.mp (congrArg (fun z => Ends p e below s 0 0 (Q2 Z  h0 n0 z) (T.setTop (mkF m 119 #[.val (.int x0)] [(.int (8303 : Int32)), (.int x0)]))) (show (F2_115 x0) = F2_122 from (if_neg hc119)).symm) ?_
      refine Ends.step (u' := (T.setTop (mkF m 122 #[.val (.int x0)] []))) ?_ (fun _ k => XS.icmpNo X.here hx rfl (hb hby d2_119) rfl (XT.ii_gt_f hc119) k)
      exact b122 T _ X eT N (.val (.int x0)) (Or.inr ⟨_, rfl, rfl⟩)
  have b108 : ∀ (T : State) (L : List Loc) (X : Stand p l e ({ frames := 0, cells := 0, slots := 0, locals := 0 } : Room) s m #[(.int p0)] below meth c T L 0 0) (eT : T.heap = h0) (N : Fr n0 L) (x0 : Int32), Ends p e below s 0 0 (Q2 Z  h0 n0 (F2_108 x0)) (T.setTop (mkF m 108 #[.val (.int x0)] [])) := by
    intro T L X eT N x0
    refine Ends.step (u' := (T.setTop (mkF m 109 #[.val (.int x0)] [(.int x0)]))) ?_ (fun _ k => XS.iloadN X.here hx rfl (hb hby d2_108) rfl k)
    refine Ends.step (u' := (T.setTop (mkF m 112 #[.val (.int x0)] [(.int (8206 : Int32)), (.int x0)]))) ?_ (fun _ k => XT.sipushV X.here hx rfl (8206 : Int32) (hb hby d2_109) rfl k)
    by_cases hc112 : x0 < (8206 : Int32)
    · refine Eq.mp (congrArg (fun z => Ends p e below s 0 0 (Q2 Z  h0 n0 z) (T.setTop (mkF m 112 #[.val (.int x0)] [(.int (8206 : Int32)), (.int x0)]))) (show (F2_108 x0) = (F2_124 x0) from (if_pos hc112)).symm) ?_
      refine Ends.step (u' := (T.setTop (mkF m 124 #[.val (.int x0)] []))) ?_ (fun _ k => XS.icmpYes X.here hx rfl (pc0 := 112) (pc' := 124) rfl (hb hby d2_112) rfl (XT.ii_lt_t hc112) (by decide) (by decide) k)
      exact b124 T _ X eT N x0
    · refine Eq.mp (congrArg (fun z => Ends p e below s 0 0 (Q2 Z  h0 n0 z) (T.setTop (mkF m 112 #[.val (.int x0)] [(.int (8206 : Int32)), (.int x0)]))) (show (F2_108 x0) = (F2_115 x0) from (if_neg hc112)).symm) ?_
      refine Ends.step (u' := (T.setTop (mkF m 115 #[.val (.int x0)] []))) ?_ (fun _ k => XS.icmpNo X.here hx rfl (hb hby d2_112) rfl (XT.ii_lt_f hc112) k)
      exact b115 T _ X eT N x0
  have b99 : ∀ (T : State) (L : List Loc) (X : Stand p l e ({ frames := 0, cells := 0, slots := 0, locals := 0 } : Room) s m #[(.int p0)] below meth c T L 0 0) (eT : T.heap = h0) (N : Fr n0 L) (x0 : Int32), Ends p e below s 0 0 (Q2 Z  h0 n0 (F2_99 x0)) (T.setTop (mkF m 99 #[.val (.int x0)] [])) := by
    intro T L X eT N x0
    refine Ends.step (u' := (T.setTop (mkF m 100 #[.val (.int x0)] [(.int x0)]))) ?_ (fun _ k => XS.iloadN X.here hx rfl (hb hby d2_99) rfl k)
    refine Ends.step (u' := (T.setTop (mkF m 103 #[.val (.int x0)] [(.int (8203 : Int32)), (.int x0)]))) ?_ (fun _ k => XT.sipushV X.here hx rfl (8203 : Int32) (hb hby d2_100) rfl k)
    by_cases hc103 : (8203 : Int32) < x0
    · refine Eq.mp (congrArg (fun z => Ends p e below s 0 0 (Q2 Z  h0 n0 z) (T.setTop (mkF m 103 #[.val (.int x0)] [(.int (8203 : Int32)), (.int x0)]))) (show (F2_99 x0) = (F2_108 x0) from (if_pos hc103)).symm) ?_
      refine Ends.step (u' := (T.setTop (mkF m 108 #[.val (.int x0)] []))) ?_ (fun _ k => XS.icmpYes X.here hx rfl (pc0 := 103) (pc' := 108) rfl (hb hby d2_103) rfl (XT.ii_gt_t hc103) (by decide) (by decide) k)
      exact b108 T _ X eT N x0
    · refine Eq.mp (congrArg (fun z => Ends p e below s 0 0 (Q2 Z  h0 n0 z) (T.setTop (mkF m 103 #[.val (.int x0)] [(.int (8203 : Int32)), (.int x0)]))) (show (F2_99 x0) = F2_106 from (if_neg hc103)).symm) ?_
      refine Ends.step (u' := (T.setTop (mkF m 106 #[.val (.int x0)] []))) ?_ (fun _ k => XS.icmpNo X.here hx rfl (hb hby d2_103) rfl (XT.ii_gt_f hc103) k)
      exact b106 T _ X eT N (.val (.int x0)) (Or.inr ⟨_, rfl, rfl⟩)
  have b92 : ∀ (T : State) (L : List Loc) (X : Stand p l e ({ frames := 0, cells := 0, slots := 0, locals := 0 } : Room) s m #[(.int p0)] below meth c T L 0 0) (eT : T.heap = h0) (N : Fr n0 L) (x0 : Int32), Ends p e below s 0 0 (Q2 Z  h0 n0 (F2_92 x0)) (T.setTop (mkF m 92 #[.val (.int x0)] [])) := by
    intro T L X eT N x0
    refine Ends.step (u' := (T.setTop (mkF m 93 #[.val (.int x0)] [(.int x0)]))) ?_ (fun _ k => XS.iloadN X.here hx rfl (hb hby d2_92) rfl k)
    refine Ends.step (u' := (T.setTop (mkF m 96 #[.val (.int x0)] [(.int (8192 : Int32)), (.int x0)]))) ?_ (fun _ k => XT.sipushV X.here hx rfl (8192 : Int32) (hb hby d2_93) rfl k)
    by_cases hc96 : x0 < (8192 : Int32)
    · refine Eq.mp (congrArg (fun z => Ends p e below s 0 0 (Q2 Z  h0 n0 z) (T.setTop (mkF m 96 #[.val (.int x0)] [(.int (8192 : Int32)), (.int x0)]))) (show (F2_92 x0) = (F2_108 x0) from (if_pos hc96)).symm) ?_
      refine Ends.step (u' := (T.setTop (mkF m 108 #[.val (.int x0)] []))) ?_ (fun _ k => XS.icmpYes X.here hx rfl (pc0 := 96) (pc' := 108) rfl (hb hby d2_96) rfl (XT.ii_lt_t hc96) (by decide) (by decide) k)
      exact b108 T _ X eT N x0
    · refine Eq.mp (congrArg (fun z => Ends p e below s 0 0 (Q2 Z  h0 n0 z) (T.setTop (mkF m 96 #[.val (.int x0)] [(.int (8192 : Int32)), (.int x0)]))) (show (F2_92 x0) = (F2_99 x0) from (if_neg hc96)).symm) ?_
      refine Ends.step (u' := (T.setTop (mkF m 99 #[.val (.int x0)] []))) ?_ (fun _ k => XS.icmpNo X.here hx rfl (hb hby d2_96) rfl (XT.ii_lt_f hc96) k)
      exact b99 T _ X eT N x0
  have b83 : ∀ (T : State) (L : List Loc) (X : Stand p l e ({ frames := 0, cells := 0, slots := 0, locals := 0 } : Room) s m #[(.int p0)] below meth c T L 0 0) (eT : T.heap = h0) (N : Fr n0 L) (x0 : Int32), Ends p e below s 0 0 (Q2 Z  h0 n0 (F2_83 x0)) (T.setTop (mkF m 83 #[.val (.int x0)] [])) := by
    intro T L X eT N x0
    refine Ends.step (u' := (T.setTop (mkF m 84 #[.val (.int x0)] [(.int x0)]))) ?_ (fun _ k => XS.iloadN X.here hx rfl (hb hby d2_83) rfl k)
    refine Ends.step (u' := (T.setTop (mkF m 87 #[.val (.int x0)] [(.int (894 : Int32)), (.int x0)]))) ?_ (fun _ k => XT.sipushV X.here hx rfl (894 : Int32) (hb hby d2_84) rfl k)
    by_cases hc87 : x0 = (894 : Int32)
    · refine Eq.mp (congrArg (fun z => Ends p e below s 0 0 (Q2 Z  h0 n0 z) (T.setTop (mkF m 87 #[.val (.int x0)] [(.int (894 : Int32)), (.int x0)]))) (show (F2_83 x0) = F2_90 from (if_pos hc87)).symm) ?_
      refine Ends.step (u' := (T.setTop (mkF m 90 #[.val (.int x0)] []))) ?_ (fun _ k => XS.icmpNo X.here hx rfl (hb hby d2_87) rfl (XT.ii_ne_f hc87) k)
      exact b90 T _ X eT N (.val (.int x0)) (Or.inr ⟨_, rfl, rfl⟩)
    · refine Eq.mp (congrArg (fun z => Ends p e below s 0 0 (Q2 Z  h0 n0 z) (T.setTop (mkF m 87 #[.val (.int x0)] [(.int (894 : Int32)), (.int x0)]))) (show (F2_83 x0) = (F2_92 x0) from (if_neg hc87)).symm) ?_
      refine Ends.step (u' := (T.setTop (mkF m 92 #[.val (.int x0)] []))) ?_ (fun _ k => XS.icmpYes X.here hx rfl (pc0 := 87) (pc' := 92) rfl (hb hby d2_87) rfl (XT.ii_ne_t hc87) (by decide) (by decide) k)
      exact b92 T _ X eT N x0
  have b74 : ∀ (T : State) (L : List Loc) (X : Stand p l e ({ frames := 0, cells := 0, slots := 0, locals := 0 } : Room) s m #[(.int p0)] below meth c T L 0 0) (eT : T.heap = h0) (N : Fr n0 L) (x0 : Int32), Ends p e below s 0 0 (Q2 Z  h0 n0 (F2_74 x0)) (T.setTop (mkF m 74 #[.val (.int x0)] [])) := by
    intro T L X eT N x0
    refine Ends.step (u' := (T.setTop (mkF m 75 #[.val (.int x0)] [(.int x0)]))) ?_ (fun _ k => XS.iloadN X.here hx rfl (hb hby d2_74) rfl k)
    refine Ends.step (u' := (T.setTop (mkF m 78 #[.val (.int x0)] [(.int (879 : Int32)), (.int x0)]))) ?_ (fun _ k => XT.sipushV X.here hx rfl (879 : Int32) (hb hby d2_75) rfl k)
    by_cases hc78 : (879 : Int32) < x0
    · refine Eq.mp (congrArg (fun z => Ends p e below s 0 0 (Q2 Z  h0 n0 z) (T.setTop (mkF m 78 #[.val (.int x0)] [(.int (879 : Int32)), (.int x0)]))) (show (F2_74 x0) = (F2_83 x0) from (if_pos hc78)).symm) ?_
      refine Ends.step (u' := (T.setTop (mkF m 83 #[.val (.int x0)] []))) ?_ (fun _ k => XS.icmpYes X.here hx rfl (pc0 := 78) (pc' := 83) rfl (hb hby d2_78) rfl (XT.ii_gt_t hc78) (by decide) (by decide) k)
      exact b83 T _ X eT N x0
    · refine Eq.mp (congrArg (fun z => Ends p e below s 0 0 (Q2 Z  h0 n0 z) (T.setTop (mkF m 78 #[.val (.int x0)] [(.int (879 : Int32)), (.int x0)]))) (show (F2_74 x0) = F2_81 from (if_neg hc78)).symm) ?_
      refine Ends.step (u' := (T.setTop (mkF m 81 #[.val (.int x0)] []))) ?_ (fun _ k => XS.icmpNo X.here hx rfl (hb hby d2_78) rfl (XT.ii_gt_f hc78) k)
      exact b81 T _ X eT N (.val (.int x0)) (Or.inr ⟨_, rfl, rfl⟩)
  have b67 : ∀ (T : State) (L : List Loc) (X : Stand p l e ({ frames := 0, cells := 0, slots := 0, locals := 0 } : Room) s m #[(.int p0)] below meth c T L 0 0) (eT : T.heap = h0) (N : Fr n0 L) (x0 : Int32), Ends p e below s 0 0 (Q2 Z  h0 n0 (F2_67 x0)) (T.setTop (mkF m 67 #[.val (.int x0)] [])) := by
    intro T L X eT N x0
    refine Ends.step (u' := (T.setTop (mkF m 68 #[.val (.int x0)] [(.int x0)]))) ?_ (fun _ k => XS.iloadN X.here hx rfl (hb hby d2_67) rfl k)
    refine Ends.step (u' := (T.setTop (mkF m 71 #[.val (.int x0)] [(.int (768 : Int32)), (.int x0)]))) ?_ (fun _ k => XT.sipushV X.here hx rfl (768 : Int32) (hb hby d2_68) rfl k)
    by_cases hc71 : x0 < (768 : Int32)
    · refine Eq.mp (congrArg (fun z => Ends p e below s 0 0 (Q2 Z  h0 n0 z) (T.setTop (mkF m 71 #[.val (.int x0)] [(.int (768 : Int32)), (.int x0)]))) (show (F2_67 x0) = (F2_83 x0) from (if_pos hc71)).symm) ?_
      refine Ends.step (u' := (T.setTop (mkF m 83 #[.val (.int x0)] []))) ?_ (fun _ k => XS.icmpYes X.here hx rfl (pc0 := 71) (pc' := 83) rfl (hb hby d2_71) rfl (XT.ii_lt_t hc71) (by decide) (by decide) k)
      exact b83 T _ X eT N x0
    · refine Eq.mp (congrArg (fun z => Ends p e below s 0 0 (Q2 Z  h0 n0 z) (T.setTop (mkF m 71 #[.val (.int x0)] [(.int (768 : Int32)), (.int x0)]))) (show (F2_67 x0) = (F2_74 x0) from (if_neg hc71)).symm) ?_
      refine Ends.step (u' := (T.setTop (mkF m 74 #[.val (.int x0)] []))) ?_ (fun _ k => XS.icmpNo X.here hx rfl (hb hby d2_71) rfl (XT.ii_lt_f hc71) k)
      exact b74 T _ X eT N x0
  have b58 : ∀ (T : State) (L : List Loc) (X : Stand p l e ({ frames := 0, cells := 0, slots := 0, locals := 0 } : Room) s m #[(.int p0)] below meth c T L 0 0) (eT : T.heap = h0) (N : Fr n0 L) (x0 : Int32), Ends p e below s 0 0 (Q2 Z  h0 n0 (F2_58 x0)) (T.setTop (mkF m 58 #[.val (.int x0)] [])) := by
    intro T L X eT N x0
    refine Ends.step (u' := (T.setTop (mkF m 59 #[.val (.int x0)] [(.int x0)]))) ?_ (fun _ k => XS.iloadN X.here hx rfl (hb hby d2_58) rfl k)
    refine Ends.step (u' := (T.setTop (mkF m 62 #[.val (.int x0)] [(.int (247 : Int32)), (.int x0)]))) ?_ (fun _ k => XT.sipushV X.here hx rfl (247 : Int32) (hb hby d2_59) rfl k)
    by_cases hc62 : x0 = (247 : Int32)
    · refine Eq.mp (congrArg (fun z => Ends p e below s 0 0 (Q2 Z  h0 n0 z) (T.setTop (mkF m 62 #[.val (.int x0)] [(.int (247 : Int32)), (.int x0)]))) (show (F2_58 x0) = F2_65 from (if_pos hc62)).symm) ?_
      refine Ends.step (u' := (T.setTop (mkF m 65 #[.val (.int x0)] []))) ?_ (fun _ k => XS.icmpNo X.here hx rfl (hb hby d2_62) rfl (XT.ii_ne_f hc62) k)
      exact b65 T _ X eT N (.val (.int x0)) (Or.inr ⟨_, rfl, rfl⟩)
    · refine Eq.mp (congrArg (fun z => Ends p e below s 0 0 (Q2 Z  h0 n0 z) (T.setTop (mkF m 62 #[.val (.int x0)] [(.int (247 : Int32)), (.int x0)]))) (show (F2_58 x0) = (F2_67 x0) from (if_neg hc62)).symm) ?_
      refine Ends.step (u' := (T.setTop (mkF m 67 #[.val (.int x0)] []))) ?_ (fun _ k => XS.icmpYes X.here hx rfl (pc0 := 62) (pc' := 67) rfl (hb hby d2_62) rfl (XT.ii_ne_t hc62) (by decide) (by decide) k)
      exact b67 T _ X eT N x0
  have b51 : ∀ (T : State) (L : List Loc) (X : Stand p l e ({ frames := 0, cells := 0, slots := 0, locals := 0 } : Room) s m #[(.int p0)] below meth c T L 0 0) (eT : T.heap = h0) (N : Fr n0 L) (x0 : Int32), Ends p e below s 0 0 (Q2 Z  h0 n0 (F2_51 x0)) (T.setTop (mkF m 51 #[.val (.int x0)] [])) := by
    intro T L X eT N x0
    refine Ends.step (u' := (T.setTop (mkF m 52 #[.val (.int x0)] [(.int x0)]))) ?_ (fun _ k => XS.iloadN X.here hx rfl (hb hby d2_51) rfl k)
    refine Ends.step (u' := (T.setTop (mkF m 55 #[.val (.int x0)] [(.int (215 : Int32)), (.int x0)]))) ?_ (fun _ k => XT.sipushV X.here hx rfl (215 : Int32) (hb hby d2_52) rfl k)
    by_cases hc55 : x0 = (215 : Int32)
    · refine Eq.mp (congrArg (fun z => Ends p e below s 0 0 (Q2 Z  h0 n0 z) (T.setTop (mkF m 55 #[.val (.int x0)] [(.int (215 : Int32)), (.int x0)]))) (show (F2_51 x0) = F2_65 from (if_pos hc55)).symm) ?_
      refine Ends.step (u' := (T.setTop (mkF m 65 #[.val (.int x0)] []))) ?_ (fun _ k => XS.icmpYes X.here hx rfl (pc0 := 55) (pc' := 65) rfl (hb hby d2_55) rfl (XT.ii_eq_t hc55) (by decide) (by decide) k)
      exact b65 T _ X eT N (.val (.int x0)) (Or.inr ⟨_, rfl, rfl⟩)
    · refine Eq.mp (congrArg (fun z => Ends p e below s 0 0 (Q2 Z  h0 n0 z) (T.setTop (mkF m 55 #[.val (.int x0)] [(.int (215 : Int32)), (.int x0)]))) (show (F2_51 x0) = (F2_58 x0) from (if_neg hc55)).symm) ?_
      refine Ends.step (u' := (T.setTop (mkF m 58 #[.val (.int x0)] []))) ?_ (fun _ k => XS.icmpNo X.here hx rfl (hb hby d2_55) rfl (XT.ii_eq_f hc55) k)
      exact b58 T _ X eT N x0
  have b42 : ∀ (T : State) (L : List Loc) (X : Stand p l e ({ frames := 0, cells := 0, slots := 0, locals := 0 } : Room) s m #[(.int p0)] below meth c T L 0 0) (eT : T.heap = h0) (N : Fr n0 L) (x0 : Int32), Ends p e below s 0 0 (Q2 Z  h0 n0 (F2_42 x0)) (T.setTop (mkF m 42 #[.val (.int x0)] [])) := by
    intro T L X eT N x0
    refine Ends.step (u' := (T.setTop (mkF m 43 #[.val (.int x0)] [(.int x0)]))) ?_ (fun _ k => XS.iloadN X.here hx rfl (hb hby d2_42) rfl k)
    refine Ends.step (u' := (T.setTop (mkF m 46 #[.val (.int x0)] [(.int (191 : Int32)), (.int x0)]))) ?_ (fun _ k => XT.sipushV X.here hx rfl (191 : Int32) (hb hby d2_43) rfl k)
    by_cases hc46 : (191 : Int32) < x0
    · refine Eq.mp (congrArg (fun z => Ends p e below s 0 0 (Q2 Z  h0 n0 z) (T.setTop (mkF m 46 #[.val (.int x0)] [(.int (191 : Int32)), (.int x0)]))) (show (F2_42 x0) = (F2_51 x0) from (if_pos hc46)).symm) ?_
      refine Ends.step (u' := (T.setTop (mkF m 51 #[.val (.int x0)] []))) ?_ (fun _ k => XS.icmpYes X.here hx rfl (pc0 := 46) (pc' := 51) rfl (hb hby d2_46) rfl (XT.ii_gt_t hc46) (by decide) (by decide) k)
      exact b51 T _ X eT N x0
    · refine Eq.mp (congrArg (fun z => Ends p e below s 0 0 (Q2 Z  h0 n0 z) (T.setTop (mkF m 46 #[.val (.int x0)] [(.int (191 : Int32)), (.int x0)]))) (show (F2_42 x0) = F2_49 from (if_neg hc46)).symm) ?_
      refine Ends.step (u' := (T.setTop (mkF m 49 #[.val (.int x0)] []))) ?_ (fun _ k => XS.icmpNo X.here hx rfl (hb hby d2_46) rfl (XT.ii_gt_f hc46) k)
      exact b49 T _ X eT N (.val (.int x0)) (Or.inr ⟨_, rfl, rfl⟩)
  have b36 : ∀ (T : State) (L : List Loc) (X : Stand p l e ({ frames := 0, cells := 0, slots := 0, locals := 0 } : Room) s m #[(.int p0)] below meth c T L 0 0) (eT : T.heap = h0) (N : Fr n0 L) (x0 : Int32), Ends p e below s 0 0 (Q2 Z  h0 n0 (F2_36 x0)) (T.setTop (mkF m 36 #[.val (.int x0)] [])) := by
    intro T L X eT N x0
    refine Ends.step (u' := (T.setTop (mkF m 37 #[.val (.int x0)] [(.int x0)]))) ?_ (fun _ k => XS.iloadN X.here hx rfl (hb hby d2_36) rfl k)
    refine Ends.step (u' := (T.setTop (mkF m 39 #[.val (.int x0)] [(.int (123 : Int32)), (.int x0)]))) ?_ (fun _ k => XT.bipushV X.here hx rfl (123 : Int32) (hb hby d2_37) rfl k)
    by_cases hc39 : x0 < (123 : Int32)
    · refine Eq.mp (congrArg (fun z => Ends p e below s 0 0 (Q2 Z  h0 n0 z) (T.setTop (mkF m 39 #[.val (.int x0)] [(.int (123 : Int32)), (.int x0)]))) (show (F2_36 x0) = (F2_51 x0) from (if_pos hc39)).symm) ?_
      refine Ends.step (u' := (T.setTop (mkF m 51 #[.val (.int x0)] []))) ?_ (fun _ k => XS.icmpYes X.here hx rfl (pc0 := 39) (pc' := 51) rfl (hb hby d2_39) rfl (XT.ii_lt_t hc39) (by decide) (by decide) k)
      exact b51 T _ X eT N x0
    · refine Eq.mp (congrArg (fun z => Ends p e below s 0 0 (Q2 Z  h0 n0 z) (T.setTop (mkF m 39 #[.val (.int x0)] [(.int (123 : Int32)), (.int x0)]))) (show (F2_36 x0) = (F2_42 x0) from (if_neg hc39)).symm) ?_
      refine Ends.step (u' := (T.setTop (mkF m 42 #[.val (.int x0)] []))) ?_ (fun _ k => XS.icmpNo X.here hx rfl (hb hby d2_39) rfl (XT.ii_lt_f hc39) k)
      exact b42 T _ X eT N x0
  have b28 : ∀ (T : State) (L : List Loc) (X : Stand p l e ({ frames := 0, cells := 0, slots := 0, locals := 0 } : Room) s m #[(.int p0)] below meth c T L 0 0) (eT : T.heap = h0) (N : Fr n0 L) (x0 : Int32), Ends p e below s 0 0 (Q2 Z  h0 n0 (F2_28 x0)) (T.setTop (mkF m 28 #[.val (.int x0)] [])) := by
    intro T L X eT N x0
    refine Ends.step (u' := (T.setTop (mkF m 29 #[.val (.int x0)] [(.int x0)]))) ?_ (fun _ k => XS.iloadN X.here hx rfl (hb hby d2_28) rfl k)
    refine Ends.step (u' := (T.setTop (mkF m 31 #[.val (.int x0)] [(.int (96 : Int32)), (.int x0)]))) ?_ (fun _ k => XT.bipushV X.here hx rfl (96 : Int32) (hb hby d2_29) rfl k)
    by_cases hc31 : x0 = (96 : Int32)
    · refine Eq.mp (congrArg (fun z => Ends p e below s 0 0 (Q2 Z  h0 n0 z) (T.setTop (mkF m 31 #[.val (.int x0)] [(.int (96 : Int32)), (.int x0)]))) (show (F2_28 x0) = F2_34 from (if_pos hc31)).symm) ?_
      refine Ends.step (u' := (T.setTop (mkF m 34 #[.val (.int x0)] []))) ?_ (fun _ k => XS.icmpNo X.here hx rfl (hb hby d2_31) rfl (XT.ii_ne_f hc31) k)
      exact b34 T _ X eT N (.val (.int x0)) (Or.inr ⟨_, rfl, rfl⟩)
    · refine Eq.mp (congrArg (fun z => Ends p e below s 0 0 (Q2 Z  h0 n0 z) (T.setTop (mkF m 31 #[.val (.int x0)] [(.int (96 : Int32)), (.int x0)]))) (show (F2_28 x0) = (F2_36 x0) from (if_neg hc31)).symm) ?_
      refine Ends.step (u' := (T.setTop (mkF m 36 #[.val (.int x0)] []))) ?_ (fun _ k => XS.icmpYes X.here hx rfl (pc0 := 31) (pc' := 36) rfl (hb hby d2_31) rfl (XT.ii_ne_t hc31) (by decide) (by decide) k)
      exact b36 T _ X eT N x0
  have b20 : ∀ (T : State) (L : List Loc) (X : Stand p l e ({ frames := 0, cells := 0, slots := 0, locals := 0 } : Room) s m #[(.int p0)] below meth c T L 0 0) (eT : T.heap = h0) (N : Fr n0 L) (x0 : Int32), Ends p e below s 0 0 (Q2 Z  h0 n0 (F2_20 x0)) (T.setTop (mkF m 20 #[.val (.int x0)] [])) := by
    intro T L X eT N x0
    refine Ends.step (u' := (T.setTop (mkF m 21 #[.val (.int x0)] [(.int x0)]))) ?_ (fun _ k => XS.iloadN X.here hx rfl (hb hby d2_20) rfl k)
    refine Ends.step (u' := (T.setTop (mkF m 23 #[.val (.int x0)] [(.int (94 : Int32)), (.int x0)]))) ?_ (fun _ k => XT.bipushV X.here hx rfl (94 : Int32) (hb hby d2_21) rfl k)
    by_cases hc23 : (94 : Int32) < x0
    · refine Eq.mp (congrArg (fun z => Ends p e below s 0 0 (Q2 Z  h0 n0 z) (T.setTop (mkF m 23 #[.val (.int x0)] [(.int (94 : Int32)), (.int x0)]))) (show (F2_20 x0) = (F2_28 x0) from (if_pos hc23)).symm) ?_
      refine Ends.step (u' := (T.setTop (mkF m 28 #[.val (.int x0)] []))) ?_ (fun _ k => XS.icmpYes X.here hx rfl (pc0 := 23) (pc' := 28) rfl (hb hby d2_23) rfl (XT.ii_gt_t hc23) (by decide) (by decide) k)
      exact b28 T _ X eT N x0
    · refine Eq.mp (congrArg (fun z => Ends p e below s 0 0 (Q2 Z  h0 n0 z) (T.setTop (mkF m 23 #[.val (.int x0)] [(.int (94 : Int32)), (.int x0)]))) (show (F2_20 x0) = F2_26 from (if_neg hc23)).symm) ?_
      refine Ends.step (u' := (T.setTop (mkF m 26 #[.val (.int x0)] []))) ?_ (fun _ k => XS.icmpNo X.here hx rfl (hb hby d2_23) rfl (XT.ii_gt_f hc23) k)
      exact b26 T _ X eT N (.val (.int x0)) (Or.inr ⟨_, rfl, rfl⟩)
  have b14 : ∀ (T : State) (L : List Loc) (X : Stand p l e ({ frames := 0, cells := 0, slots := 0, locals := 0 } : Room) s m #[(.int p0)] below meth c T L 0 0) (eT : T.heap = h0) (N : Fr n0 L) (x0 : Int32), Ends p e below s 0 0 (Q2 Z  h0 n0 (F2_14 x0)) (T.setTop (mkF m 14 #[.val (.int x0)] [])) := by
    intro T L X eT N x0
    refine Ends.step (u' := (T.setTop (mkF m 15 #[.val (.int x0)] [(.int x0)]))) ?_ (fun _ k => XS.iloadN X.here hx rfl (hb hby d2_14) rfl k)
    refine Ends.step (u' := (T.setTop (mkF m 17 #[.val (.int x0)] [(.int (91 : Int32)), (.int x0)]))) ?_ (fun _ k => XT.bipushV X.here hx rfl (91 : Int32) (hb hby d2_15) rfl k)
    by_cases hc17 : x0 < (91 : Int32)
    · refine Eq.mp (congrArg (fun z => Ends p e below s 0 0 (Q2 Z  h0 n0 z) (T.setTop (mkF m 17 #[.val (.int x0)] [(.int (91 : Int32)), (.int x0)]))) (show (F2_14 x0) = (F2_28 x0) from (if_pos hc17)).symm) ?_
      refine Ends.step (u' := (T.setTop (mkF m 28 #[.val (.int x0)] []))) ?_ (fun _ k => XS.icmpYes X.here hx rfl (pc0 := 17) (pc' := 28) rfl (hb hby d2_17) rfl (XT.ii_lt_t hc17) (by decide) (by decide) k)
      exact b28 T _ X eT N x0
    · refine Eq.mp (congrArg (fun z => Ends p e below s 0 0 (Q2 Z  h0 n0 z) (T.setTop (mkF m 17 #[.val (.int x0)] [(.int (91 : Int32)), (.int x0)]))) (show (F2_14 x0) = (F2_20 x0) from (if_neg hc17)).symm) ?_
      refine Ends.step (u' := (T.setTop (mkF m 20 #[.val (.int x0)] []))) ?_ (fun _ k => XS.icmpNo X.here hx rfl (hb hby d2_17) rfl (XT.ii_lt_f hc17) k)
      exact b20 T _ X eT N x0
  have b6 : ∀ (T : State) (L : List Loc) (X : Stand p l e ({ frames := 0, cells := 0, slots := 0, locals := 0 } : Room) s m #[(.int p0)] below meth c T L 0 0) (eT : T.heap = h0) (N : Fr n0 L) (x0 : Int32), Ends p e below s 0 0 (Q2 Z  h0 n0 (F2_6 x0)) (T.setTop (mkF m 6 #[.val (.int x0)] [])) := by
    intro T L X eT N x0
    refine Ends.step (u' := (T.setTop (mkF m 7 #[.val (.int x0)] [(.int x0)]))) ?_ (fun _ k => XS.iloadN X.here hx rfl (hb hby d2_6) rfl k)
    refine Ends.step (u' := (T.setTop (mkF m 9 #[.val (.int x0)] [(.int (983039 : Int32)), (.int x0)]))) ?_ (fun _ k => X.ldcI hx hown (mvT hZ (hw _ (List.mem_of_getElem? (i := 13) rfl))) rfl (hb hby d2_7) k)
    by_cases hc9 : (983039 : Int32) < x0
    · refine Eq.mp (congrArg (fun z => Ends p e below s 0 0 (Q2 Z  h0 n0 z) (T.setTop (mkF m 9 #[.val (.int x0)] [(.int (983039 : Int32)), (.int x0)]))) (show (F2_6 x0) = F2_12 from (if_pos hc9)).symm) ?_
      refine Ends.step (u' := (T.setTop (mkF m 12 #[.val (.int x0)] []))) ?_ (fun _ k => XS.icmpNo X.here hx rfl (hb hby d2_9) rfl (XT.ii_le_f hc9) k)
      exact b12 T _ X eT N (.val (.int x0)) (Or.inr ⟨_, rfl, rfl⟩)
    · refine Eq.mp (congrArg (fun z => Ends p e below s 0 0 (Q2 Z  h0 n0 z) (T.setTop (mkF m 9 #[.val (.int x0)] [(.int (983039 : Int32)), (.int x0)]))) (show (F2_6 x0) = (F2_14 x0) from (if_neg hc9)).symm) ?_
      refine Ends.step (u' := (T.setTop (mkF m 14 #[.val (.int x0)] []))) ?_ (fun _ k => XS.icmpYes X.here hx rfl (pc0 := 9) (pc' := 14) rfl (hb hby d2_9) rfl (XT.ii_le_t hc9) (by decide) (by decide) k)
      exact b14 T _ X eT N x0
  refine Ends.step (u' := (s₁.setTop (mkF m 0 #[.val (.int p0)] []))) ?_ (fun _ k => castTop (ef_2 m p0) k)
  refine Ends.step (u' := (s₁.setTop (mkF m 1 #[.val (.int p0)] [(.int p0)]))) ?_ (fun _ k => XS.iloadN X0.here hx rfl (hb hby d2_0) rfl k)
  refine Ends.step (u' := (s₁.setTop (mkF m 3 #[.val (.int p0)] [(.int (65 : Int32)), (.int p0)]))) ?_ (fun _ k => XT.bipushV X0.here hx rfl (65 : Int32) (hb hby d2_1) rfl k)
  by_cases hc3 : p0 < (65 : Int32)
  · refine Eq.mp (congrArg (fun z => Ends p e below s 0 0 (Q2 Z  h0 n0 z) (s₁.setTop (mkF m 3 #[.val (.int p0)] [(.int (65 : Int32)), (.int p0)]))) (show (F2 p0) = F2_12 from (if_pos hc3)).symm) ?_
    refine Ends.step (u' := (s₁.setTop (mkF m 12 #[.val (.int p0)] []))) ?_ (fun _ k => XS.icmpYes X0.here hx rfl (pc0 := 3) (pc' := 12) rfl (hb hby d2_3) rfl (XT.ii_lt_t hc3) (by decide) (by decide) k)
    exact b12 s₁ _ X0 e0 N0 (.val (.int p0)) (Or.inr ⟨_, rfl, rfl⟩)
  · refine Eq.mp (congrArg (fun z => Ends p e below s 0 0 (Q2 Z  h0 n0 z) (s₁.setTop (mkF m 3 #[.val (.int p0)] [(.int (65 : Int32)), (.int p0)]))) (show (F2 p0) = (F2_6 p0) from (if_neg hc3)).symm) ?_
    refine Ends.step (u' := (s₁.setTop (mkF m 6 #[.val (.int p0)] []))) ?_ (fun _ k => XS.icmpNo X0.here hx rfl (hb hby d2_3) rfl (XT.ii_lt_f hc3) k)
    exact b6 s₁ _ X0 e0 N0 p0
theorem pn_0 : plainFor x = true := by first | exact plainFor_of_name (by first | (simp [plainName, overriddenIn]; done) | decide +kernel) | decide +kernel
theorem ef_0 (m : MethodId) (y0 : Int32) : entryFrame m #[(.int y0)] maxLocals = mkF m 0 #[.val (.int y0), .unset, .unset, .unset, .unset] [] := by first | (simp [entryFrame, mkF, argsToLocals, Value.category, maxLocals]; done) | rfl
def Q0 (Z : State)   (h0 : Heap) (n0 : Nat) (ans : Int32) (v : Option Value) (h : Heap) (L : List Loc) : Prop := v = some (.int ans) ∧ Fr n0 L
set_option maxRecDepth 65536 in
set_option maxHeartbeats 40000000 in
theorem rm0 (l : Launch) (Z : State) (a0 : Array Value) (hw : ∀ d ∈ tables_1, d.before a0 Z = true) (p0 : Int32)  (h0 : Heap) (n0 : Nat) (Z0 : n0 ≤ h0.size)  :
    Meets l Z x code maxLocals ret tables_1 room_1 #[(.int p0)] h0 (Q0 Z  h0 n0 (F0 p0)) 0 0 := by
  refine Meets.of pn_0 ?_
  intro p e s m below meth c s₁ hx hby hml hZ hown hnm hret hlk X0 e0
  have hml : c.maxLocals = 5 := hml
  have hown : s.vm.findClass "com/example/kuopio/kuopio/XmlCharsIsNameStartCharPinLaw" = some m.cls := hown
  have N0 := Fr.nil n0
  have b70 : ∀ (T : State) (L : List Loc) (X : Stand p l e room_1 s m #[(.int p0)] below meth c T L 0 0) (eT : T.heap = h0) (N : Fr n0 L) (t0 : Int32) (d0 : Slot) (od0 : OneS d0) (d1 : Slot) (od1 : OneS d1) (d2 : Slot) (od2 : OneS d2) (d3 : Slot) (od3 : OneS d3) (d4 : Slot) (od4 : OneS d4), Ends p e below s 0 0 (Q0 Z  h0 n0 (F0_70 t0)) (T.setTop (mkF m 70 #[d0, d1, d2, d3, d4] [(.int t0)])) := by
    intro T L X eT N t0 d0 od0 d1 od1 d2 od2 d3 od3 d4 od4
    exact Ends.ret X (v := some (.int (nar .boolean t0))) (fun q => by rw [hret] at q; cases q) hlk (fun fs hr => retN X hx (t := .boolean) hret (by simp) (hb hby at_70) hr) (by decide) (by decide) ⟨rfl, N⟩
  have b65 : ∀ (T : State) (L : List Loc) (X : Stand p l e room_1 s m #[(.int p0)] below meth c T L 0 0) (eT : T.heap = h0) (N : Fr n0 L) (d0 : Slot) (od0 : OneS d0) (d1 : Slot) (od1 : OneS d1) (d2 : Slot) (od2 : OneS d2) (d3 : Slot) (od3 : OneS d3) (d4 : Slot) (od4 : OneS d4), Ends p e below s 0 0 (Q0 Z  h0 n0 F0_65) (T.setTop (mkF m 65 #[d0, d1, d2, d3, d4] [])) := by
    intro T L X eT N d0 od0 d1 od1 d2 od2 d3 od3 d4 od4
    refine Ends.step (u' := (T.setTop (mkF m 66 #[d0, d1, d2, d3, d4] [(.int (1 : Int32))]))) ?_ (fun _ k => XT.iconstV X.here hx rfl (1 : Int32) (hb hby at_65) rfl k)
    refine Ends.step (u' := (T.setTop (mkF m 70 #[d0, d1, d2, d3, d4] [(.int (1 : Int32))]))) ?_ (fun _ k => XS.goto X.here hx rfl (pc0 := 66) (pc' := 70) rfl (hb hby at_66) (by decide) (by decide) k)
    exact b70 T _ X eT N (1 : Int32) (d0) od0 (d1) od1 (d2) od2 (d3) od3 (d4) od4
  have b69 : ∀ (T : State) (L : List Loc) (X : Stand p l e room_1 s m #[(.int p0)] below meth c T L 0 0) (eT : T.heap = h0) (N : Fr n0 L) (d0 : Slot) (od0 : OneS d0) (d1 : Slot) (od1 : OneS d1) (d2 : Slot) (od2 : OneS d2) (d3 : Slot) (od3 : OneS d3) (d4 : Slot) (od4 : OneS d4), Ends p e below s 0 0 (Q0 Z  h0 n0 F0_69) (T.setTop (mkF m 69 #[d0, d1, d2, d3, d4] [])) := by
    intro T L X eT N d0 od0 d1 od1 d2 od2 d3 od3 d4 od4
    refine Ends.step (u' := (T.setTop (mkF m 70 #[d0, d1, d2, d3, d4] [(.int (0 : Int32))]))) ?_ (fun _ k => XT.iconstV X.here hx rfl (0 : Int32) (hb hby at_69) rfl k)
    exact b70 T _ X eT N (0 : Int32) (d0) od0 (d1) od1 (d2) od2 (d3) od3 (d4) od4
  have b52 : ∀ (T : State) (L : List Loc) (X : Stand p l e room_1 s m #[(.int p0)] below meth c T L 0 0) (eT : T.heap = h0) (N : Fr n0 L) (x4 : Int32) (d0 : Slot) (od0 : OneS d0) (d1 : Slot) (od1 : OneS d1) (d2 : Slot) (od2 : OneS d2) (d3 : Slot) (od3 : OneS d3), Ends p e below s 0 0 (Q0 Z  h0 n0 (F0_52 x4)) (T.setTop (mkF m 52 #[d0, d1, d2, d3, .val (.int x4)] [])) := by
    intro T L X eT N x4 d0 od0 d1 od1 d2 od2 d3 od3
    refine Ends.step (u' := (T.setTop (mkF m 54 #[d0, d1, d2, d3, .val (.int x4)] [(.int x4)]))) ?_ (fun _ k => XS.iload X.here hx rfl (hb hby at_52) rfl k)
    refine Ends.callS X hx hZ hown (hw _ (List.mem_of_getElem? (i := 2) rfl)) (hw _ (List.mem_of_getElem? (i := 3) rfl)) (hw _ (List.mem_of_getElem? (i := 4) rfl)) (hw _ (List.mem_of_getElem? (i := 5) rfl)) (by decide) (rm1 l Z a0 hw x4 h0 n0 Z0) 0 (by decide) (by decide) eT  (g := (mkF m 54 #[d0, d1, d2, d3, .val (.int x4)] [(.int x4)])) rfl (by rw [hml]; rfl)  [(.int x4)] [] (lenOf pd_0 rfl) rfl (by show 2 * 0 + _ ≤ _; exact Nat.le_of_eq rfl) (hb hby at_54) rfl (by decide) (by decide) (fun v1 T1 L1 X1 hQ1 => ?_)
    obtain ⟨rfl, Nq1, e1⟩ := hQ1
    have N1 := Fr.app N Nq1
    show Ends p e below s _ _ _ (T1.setTop (mkF m 57 #[d0, d1, d2, d3, .val (.int x4)] [(.int (F1 x4))]))
    refine Ends.step (u' := (T1.setTop (mkF m 59 #[d0, d1, d2, d3, .val (.int x4)] [(.int x4), (.int (F1 x4))]))) ?_ (fun _ k => XS.iload X1.here hx rfl (hb hby at_57) rfl k)
    refine Ends.callS X1 hx hZ hown (hw _ (List.mem_of_getElem? (i := 9) rfl)) (hw _ (List.mem_of_getElem? (i := 10) rfl)) (hw _ (List.mem_of_getElem? (i := 11) rfl)) (hw _ (List.mem_of_getElem? (i := 12) rfl)) (by decide) (rm2 l Z a0 hw x4 h0 n0 Z0) 1 (by decide) (by decide) e1  (g := (mkF m 59 #[d0, d1, d2, d3, .val (.int x4)] [(.int x4), (.int (F1 x4))])) rfl (by rw [hml]; rfl)  [(.int x4)] [(.int (F1 x4))] (lenOf pd_0 rfl) rfl (by show 2 * 0 + _ ≤ _; exact Nat.le_of_eq rfl) (hb hby at_59) rfl (by decide) (by decide) (fun v2 T2 L2 X2 hQ2 => ?_)
    obtain ⟨rfl, Nq2, e2⟩ := hQ2
    have N2 := Fr.app N1 Nq2
    show Ends p e below s _ _ _ (T2.setTop (mkF m 62 #[d0, d1, d2, d3, .val (.int x4)] [(.int (F2 x4)), (.int (F1 x4))]))
    by_cases hc62 : (F1 x4) = (F2 x4)
    · refine Eq.mp (congrArg (fun z => Ends p e below s 0 0 (Q0 Z  h0 n0 z) (T2.setTop (mkF m 62 #[d0, d1, d2, d3, .val (.int x4)] [(.int (F2 x4)), (.int (F1 x4))]))) (show (F0_52 x4) = F0_65 from (if_pos hc62)).symm) ?_
      refine Ends.step (u' := (T2.setTop (mkF m 65 #[d0, d1, d2, d3, .val (.int x4)] []))) ?_ (fun _ k => XS.icmpNo X2.here hx rfl (hb hby at_62) rfl (XT.ii_ne_f hc62) k)
      exact b65 T2 _ X2 e2 N2 (d0) od0 (d1) od1 (d2) od2 (d3) od3 (.val (.int x4)) (Or.inr ⟨_, rfl, rfl⟩)
    · refine Eq.mp (congrArg (fun z => Ends p e below s 0 0 (Q0 Z  h0 n0 z) (T2.setTop (mkF m 62 #[d0, d1, d2, d3, .val (.int x4)] [(.int (F2 x4)), (.int (F1 x4))]))) (show (F0_52 x4) = F0_69 from (if_neg hc62)).symm) ?_
      refine Ends.step (u' := (T2.setTop (mkF m 69 #[d0, d1, d2, d3, .val (.int x4)] []))) ?_ (fun _ k => XS.icmpYes X2.here hx rfl (pc0 := 62) (pc' := 69) rfl (hb hby at_62) rfl (XT.ii_ne_t hc62) (by decide) (by decide) k)
      exact b69 T2 _ X2 e2 N2 (d0) od0 (d1) od1 (d2) od2 (d3) od3 (.val (.int x4)) (Or.inr ⟨_, rfl, rfl⟩)
  have b41 : ∀ (T : State) (L : List Loc) (X : Stand p l e room_1 s m #[(.int p0)] below meth c T L 0 0) (eT : T.heap = h0) (N : Fr n0 L) (x3 : Int32) (x4 : Int32) (d0 : Slot) (od0 : OneS d0) (d1 : Slot) (od1 : OneS d1) (d2 : Slot) (od2 : OneS d2), Ends p e below s 0 0 (Q0 Z  h0 n0 (F0_41 x3 x4)) (T.setTop (mkF m 41 #[d0, d1, d2, .val (.int x3), .val (.int x4)] [])) := by
    intro T L X eT N x3 x4 d0 od0 d1 od1 d2 od2
    refine Ends.step (u' := (T.setTop (mkF m 42 #[d0, d1, d2, .val (.int x3), .val (.int x4)] [(.int x3)]))) ?_ (fun _ k => XS.iloadN X.here hx rfl (hb hby at_41) rfl k)
    refine Ends.callS X hx hZ hown (hw _ (List.mem_of_getElem? (i := 2) rfl)) (hw _ (List.mem_of_getElem? (i := 3) rfl)) (hw _ (List.mem_of_getElem? (i := 4) rfl)) (hw _ (List.mem_of_getElem? (i := 5) rfl)) (by decide) (rm1 l Z a0 hw x3 h0 n0 Z0) 0 (by decide) (by decide) eT  (g := (mkF m 42 #[d0, d1, d2, .val (.int x3), .val (.int x4)] [(.int x3)])) rfl (by rw [hml]; rfl)  [(.int x3)] [] (lenOf pd_0 rfl) rfl (by show 2 * 0 + _ ≤ _; exact Nat.le_of_eq rfl) (hb hby at_42) rfl (by decide) (by decide) (fun v3 T3 L3 X3 hQ3 => ?_)
    obtain ⟨rfl, Nq3, e3⟩ := hQ3
    have N3 := Fr.app N Nq3
    show Ends p e below s _ _ _ (T3.setTop (mkF m 45 #[d0, d1, d2, .val (.int x3), .val (.int x4)] [(.int (F1 x3))]))
    refine Ends.step (u' := (T3.setTop (mkF m 46 #[d0, d1, d2, .val (.int x3), .val (.int x4)] [(.int x3), (.int (F1 x3))]))) ?_ (fun _ k => XS.iloadN X3.here hx rfl (hb hby at_45) rfl k)
    refine Ends.callS X3 hx hZ hown (hw _ (List.mem_of_getElem? (i := 9) rfl)) (hw _ (List.mem_of_getElem? (i := 10) rfl)) (hw _ (List.mem_of_getElem? (i := 11) rfl)) (hw _ (List.mem_of_getElem? (i := 12) rfl)) (by decide) (rm2 l Z a0 hw x3 h0 n0 Z0) 1 (by decide) (by decide) e3  (g := (mkF m 46 #[d0, d1, d2, .val (.int x3), .val (.int x4)] [(.int x3), (.int (F1 x3))])) rfl (by rw [hml]; rfl)  [(.int x3)] [(.int (F1 x3))] (lenOf pd_0 rfl) rfl (by show 2 * 0 + _ ≤ _; exact Nat.le_of_eq rfl) (hb hby at_46) rfl (by decide) (by decide) (fun v4 T4 L4 X4 hQ4 => ?_)
    obtain ⟨rfl, Nq4, e4⟩ := hQ4
    have N4 := Fr.app N3 Nq4
    show Ends p e below s _ _ _ (T4.setTop (mkF m 49 #[d0, d1, d2, .val (.int x3), .val (.int x4)] [(.int (F2 x3)), (.int (F1 x3))]))
    by_cases hc49 : (F1 x3) = (F2 x3)
    · refine Eq.mp (congrArg (fun z => Ends p e below s 0 0 (Q0 Z  h0 n0 z) (T4.setTop (mkF m 49 #[d0, d1, d2, .val (.int x3), .val (.int x4)] [(.int (F2 x3)), (.int (F1 x3))]))) (show (F0_41 x3 x4) = (F0_52 x4) from (if_pos hc49)).symm) ?_
      refine Ends.step (u' := (T4.setTop (mkF m 52 #[d0, d1, d2, .val (.int x3), .val (.int x4)] []))) ?_ (fun _ k => XS.icmpNo X4.here hx rfl (hb hby at_49) rfl (XT.ii_ne_f hc49) k)
      exact b52 T4 _ X4 e4 N4 x4 (d0) od0 (d1) od1 (d2) od2 (.val (.int x3)) (Or.inr ⟨_, rfl, rfl⟩)
    · refine Eq.mp (congrArg (fun z => Ends p e below s 0 0 (Q0 Z  h0 n0 z) (T4.setTop (mkF m 49 #[d0, d1, d2, .val (.int x3), .val (.int x4)] [(.int (F2 x3)), (.int (F1 x3))]))) (show (F0_41 x3 x4) = F0_69 from (if_neg hc49)).symm) ?_
      refine Ends.step (u' := (T4.setTop (mkF m 69 #[d0, d1, d2, .val (.int x3), .val (.int x4)] []))) ?_ (fun _ k => XS.icmpYes X4.here hx rfl (pc0 := 49) (pc' := 69) rfl (hb hby at_49) rfl (XT.ii_ne_t hc49) (by decide) (by decide) k)
      exact b69 T4 _ X4 e4 N4 (d0) od0 (d1) od1 (d2) od2 (.val (.int x3)) (Or.inr ⟨_, rfl, rfl⟩) (.val (.int x4)) (Or.inr ⟨_, rfl, rfl⟩)
  have b30 : ∀ (T : State) (L : List Loc) (X : Stand p l e room_1 s m #[(.int p0)] below meth c T L 0 0) (eT : T.heap = h0) (N : Fr n0 L) (x2 : Int32) (x3 : Int32) (x4 : Int32) (d0 : Slot) (od0 : OneS d0) (d1 : Slot) (od1 : OneS d1), Ends p e below s 0 0 (Q0 Z  h0 n0 (F0_30 x2 x3 x4)) (T.setTop (mkF m 30 #[d0, d1, .val (.int x2), .val (.int x3), .val (.int x4)] [])) := by
    intro T L X eT N x2 x3 x4 d0 od0 d1 od1
    refine Ends.step (u' := (T.setTop (mkF m 31 #[d0, d1, .val (.int x2), .val (.int x3), .val (.int x4)] [(.int x2)]))) ?_ (fun _ k => XS.iloadN X.here hx rfl (hb hby at_30) rfl k)
    refine Ends.callS X hx hZ hown (hw _ (List.mem_of_getElem? (i := 2) rfl)) (hw _ (List.mem_of_getElem? (i := 3) rfl)) (hw _ (List.mem_of_getElem? (i := 4) rfl)) (hw _ (List.mem_of_getElem? (i := 5) rfl)) (by decide) (rm1 l Z a0 hw x2 h0 n0 Z0) 0 (by decide) (by decide) eT  (g := (mkF m 31 #[d0, d1, .val (.int x2), .val (.int x3), .val (.int x4)] [(.int x2)])) rfl (by rw [hml]; rfl)  [(.int x2)] [] (lenOf pd_0 rfl) rfl (by show 2 * 0 + _ ≤ _; exact Nat.le_of_eq rfl) (hb hby at_31) rfl (by decide) (by decide) (fun v5 T5 L5 X5 hQ5 => ?_)
    obtain ⟨rfl, Nq5, e5⟩ := hQ5
    have N5 := Fr.app N Nq5
    show Ends p e below s _ _ _ (T5.setTop (mkF m 34 #[d0, d1, .val (.int x2), .val (.int x3), .val (.int x4)] [(.int (F1 x2))]))
    refine Ends.step (u' := (T5.setTop (mkF m 35 #[d0, d1, .val (.int x2), .val (.int x3), .val (.int x4)] [(.int x2), (.int (F1 x2))]))) ?_ (fun _ k => XS.iloadN X5.here hx rfl (hb hby at_34) rfl k)
    refine Ends.callS X5 hx hZ hown (hw _ (List.mem_of_getElem? (i := 9) rfl)) (hw _ (List.mem_of_getElem? (i := 10) rfl)) (hw _ (List.mem_of_getElem? (i := 11) rfl)) (hw _ (List.mem_of_getElem? (i := 12) rfl)) (by decide) (rm2 l Z a0 hw x2 h0 n0 Z0) 1 (by decide) (by decide) e5  (g := (mkF m 35 #[d0, d1, .val (.int x2), .val (.int x3), .val (.int x4)] [(.int x2), (.int (F1 x2))])) rfl (by rw [hml]; rfl)  [(.int x2)] [(.int (F1 x2))] (lenOf pd_0 rfl) rfl (by show 2 * 0 + _ ≤ _; exact Nat.le_of_eq rfl) (hb hby at_35) rfl (by decide) (by decide) (fun v6 T6 L6 X6 hQ6 => ?_)
    obtain ⟨rfl, Nq6, e6⟩ := hQ6
    have N6 := Fr.app N5 Nq6
    show Ends p e below s _ _ _ (T6.setTop (mkF m 38 #[d0, d1, .val (.int x2), .val (.int x3), .val (.int x4)] [(.int (F2 x2)), (.int (F1 x2))]))
    by_cases hc38 : (F1 x2) = (F2 x2)
    · refine Eq.mp (congrArg (fun z => Ends p e below s 0 0 (Q0 Z  h0 n0 z) (T6.setTop (mkF m 38 #[d0, d1, .val (.int x2), .val (.int x3), .val (.int x4)] [(.int (F2 x2)), (.int (F1 x2))]))) (show (F0_30 x2 x3 x4) = (F0_41 x3 x4) from (if_pos hc38)).symm) ?_
      refine Ends.step (u' := (T6.setTop (mkF m 41 #[d0, d1, .val (.int x2), .val (.int x3), .val (.int x4)] []))) ?_ (fun _ k => XS.icmpNo X6.here hx rfl (hb hby at_38) rfl (XT.ii_ne_f hc38) k)
      exact b41 T6 _ X6 e6 N6 x3 x4 (d0) od0 (d1) od1 (.val (.int x2)) (Or.inr ⟨_, rfl, rfl⟩)
    · refine Eq.mp (congrArg (fun z => Ends p e below s 0 0 (Q0 Z  h0 n0 z) (T6.setTop (mkF m 38 #[d0, d1, .val (.int x2), .val (.int x3), .val (.int x4)] [(.int (F2 x2)), (.int (F1 x2))]))) (show (F0_30 x2 x3 x4) = F0_69 from (if_neg hc38)).symm) ?_
      refine Ends.step (u' := (T6.setTop (mkF m 69 #[d0, d1, .val (.int x2), .val (.int x3), .val (.int x4)] []))) ?_ (fun _ k => XS.icmpYes X6.here hx rfl (pc0 := 38) (pc' := 69) rfl (hb hby at_38) rfl (XT.ii_ne_t hc38) (by decide) (by decide) k)
      exact b69 T6 _ X6 e6 N6 (d0) od0 (d1) od1 (.val (.int x2)) (Or.inr ⟨_, rfl, rfl⟩) (.val (.int x3)) (Or.inr ⟨_, rfl, rfl⟩) (.val (.int x4)) (Or.inr ⟨_, rfl, rfl⟩)
  have b19 : ∀ (T : State) (L : List Loc) (X : Stand p l e room_1 s m #[(.int p0)] below meth c T L 0 0) (eT : T.heap = h0) (N : Fr n0 L) (x1 : Int32) (x2 : Int32) (x3 : Int32) (x4 : Int32) (d0 : Slot) (od0 : OneS d0), Ends p e below s 0 0 (Q0 Z  h0 n0 (F0_19 x1 x2 x3 x4)) (T.setTop (mkF m 19 #[d0, .val (.int x1), .val (.int x2), .val (.int x3), .val (.int x4)] [])) := by
    intro T L X eT N x1 x2 x3 x4 d0 od0
    refine Ends.step (u' := (T.setTop (mkF m 20 #[d0, .val (.int x1), .val (.int x2), .val (.int x3), .val (.int x4)] [(.int x1)]))) ?_ (fun _ k => XS.iloadN X.here hx rfl (hb hby at_19) rfl k)
    refine Ends.callS X hx hZ hown (hw _ (List.mem_of_getElem? (i := 2) rfl)) (hw _ (List.mem_of_getElem? (i := 3) rfl)) (hw _ (List.mem_of_getElem? (i := 4) rfl)) (hw _ (List.mem_of_getElem? (i := 5) rfl)) (by decide) (rm1 l Z a0 hw x1 h0 n0 Z0) 0 (by decide) (by decide) eT  (g := (mkF m 20 #[d0, .val (.int x1), .val (.int x2), .val (.int x3), .val (.int x4)] [(.int x1)])) rfl (by rw [hml]; rfl)  [(.int x1)] [] (lenOf pd_0 rfl) rfl (by show 2 * 0 + _ ≤ _; exact Nat.le_of_eq rfl) (hb hby at_20) rfl (by decide) (by decide) (fun v7 T7 L7 X7 hQ7 => ?_)
    obtain ⟨rfl, Nq7, e7⟩ := hQ7
    have N7 := Fr.app N Nq7
    show Ends p e below s _ _ _ (T7.setTop (mkF m 23 #[d0, .val (.int x1), .val (.int x2), .val (.int x3), .val (.int x4)] [(.int (F1 x1))]))
    refine Ends.step (u' := (T7.setTop (mkF m 24 #[d0, .val (.int x1), .val (.int x2), .val (.int x3), .val (.int x4)] [(.int x1), (.int (F1 x1))]))) ?_ (fun _ k => XS.iloadN X7.here hx rfl (hb hby at_23) rfl k)
    refine Ends.callS X7 hx hZ hown (hw _ (List.mem_of_getElem? (i := 9) rfl)) (hw _ (List.mem_of_getElem? (i := 10) rfl)) (hw _ (List.mem_of_getElem? (i := 11) rfl)) (hw _ (List.mem_of_getElem? (i := 12) rfl)) (by decide) (rm2 l Z a0 hw x1 h0 n0 Z0) 1 (by decide) (by decide) e7  (g := (mkF m 24 #[d0, .val (.int x1), .val (.int x2), .val (.int x3), .val (.int x4)] [(.int x1), (.int (F1 x1))])) rfl (by rw [hml]; rfl)  [(.int x1)] [(.int (F1 x1))] (lenOf pd_0 rfl) rfl (by show 2 * 0 + _ ≤ _; exact Nat.le_of_eq rfl) (hb hby at_24) rfl (by decide) (by decide) (fun v8 T8 L8 X8 hQ8 => ?_)
    obtain ⟨rfl, Nq8, e8⟩ := hQ8
    have N8 := Fr.app N7 Nq8
    show Ends p e below s _ _ _ (T8.setTop (mkF m 27 #[d0, .val (.int x1), .val (.int x2), .val (.int x3), .val (.int x4)] [(.int (F2 x1)), (.int (F1 x1))]))
    by_cases hc27 : (F1 x1) = (F2 x1)
    · refine Eq.mp (congrArg (fun z => Ends p e below s 0 0 (Q0 Z  h0 n0 z) (T8.setTop (mkF m 27 #[d0, .val (.int x1), .val (.int x2), .val (.int x3), .val (.int x4)] [(.int (F2 x1)), (.int (F1 x1))]))) (show (F0_19 x1 x2 x3 x4) = (F0_30 x2 x3 x4) from (if_pos hc27)).symm) ?_
      refine Ends.step (u' := (T8.setTop (mkF m 30 #[d0, .val (.int x1), .val (.int x2), .val (.int x3), .val (.int x4)] []))) ?_ (fun _ k => XS.icmpNo X8.here hx rfl (hb hby at_27) rfl (XT.ii_ne_f hc27) k)
      exact b30 T8 _ X8 e8 N8 x2 x3 x4 (d0) od0 (.val (.int x1)) (Or.inr ⟨_, rfl, rfl⟩)
    · refine Eq.mp (congrArg (fun z => Ends p e below s 0 0 (Q0 Z  h0 n0 z) (T8.setTop (mkF m 27 #[d0, .val (.int x1), .val (.int x2), .val (.int x3), .val (.int x4)] [(.int (F2 x1)), (.int (F1 x1))]))) (show (F0_19 x1 x2 x3 x4) = F0_69 from (if_neg hc27)).symm) ?_
      refine Ends.step (u' := (T8.setTop (mkF m 69 #[d0, .val (.int x1), .val (.int x2), .val (.int x3), .val (.int x4)] []))) ?_ (fun _ k => XS.icmpYes X8.here hx rfl (pc0 := 27) (pc' := 69) rfl (hb hby at_27) rfl (XT.ii_ne_t hc27) (by decide) (by decide) k)
      exact b69 T8 _ X8 e8 N8 (d0) od0 (.val (.int x1)) (Or.inr ⟨_, rfl, rfl⟩) (.val (.int x2)) (Or.inr ⟨_, rfl, rfl⟩) (.val (.int x3)) (Or.inr ⟨_, rfl, rfl⟩) (.val (.int x4)) (Or.inr ⟨_, rfl, rfl⟩)
  have b13 : ∀ (T : State) (L : List Loc) (X : Stand p l e room_1 s m #[(.int p0)] below meth c T L 0 0) (eT : T.heap = h0) (N : Fr n0 L) (x0 : Int32) (x1 : Int32) (x2 : Int32) (x3 : Int32), Ends p e below s 0 0 (Q0 Z  h0 n0 (F0_13 x0 x1 x2 x3)) (T.setTop (mkF m 13 #[.val (.int x0), .val (.int x1), .val (.int x2), .val (.int x3), .unset] [])) := by
    intro T L X eT N x0 x1 x2 x3
    refine Ends.step (u' := (T.setTop (mkF m 14 #[.val (.int x0), .val (.int x1), .val (.int x2), .val (.int x3), .unset] [(.int x0)]))) ?_ (fun _ k => XS.iloadN X.here hx rfl (hb hby at_13) rfl k)
    refine Ends.step (u' := (T.setTop (mkF m 16 #[.val (.int x0), .val (.int x1), .val (.int x2), .val (.int x3), .unset] [(.int (1048575 : Int32)), (.int x0)]))) ?_ (fun _ k => X.ldcI hx hown (mvT hZ (hw _ (List.mem_of_getElem? (i := 1) rfl))) rfl (hb hby at_14) k)
    refine Ends.step (u' := (T.setTop (mkF m 17 #[.val (.int x0), .val (.int x1), .val (.int x2), .val (.int x3), .unset] [(.int (x0 &&& (1048575 : Int32)))]))) ?_ (fun _ k => XS.iand X.here hx rfl (hb hby at_16) rfl k)
    refine Ends.step (u' := (T.setTop (mkF m 19 #[.val (.int x0), .val (.int x1), .val (.int x2), .val (.int x3), .val (.int (x0 &&& (1048575 : Int32)))] []))) ?_ (fun _ k => XS.istore X.here hx rfl (hb hby at_17) rfl (l' := #[.val (.int x0), .val (.int x1), .val (.int x2), .val (.int x3), .val (.int (x0 &&& (1048575 : Int32)))]) rfl k)
    exact b19 T _ X eT N x1 x2 x3 (x0 &&& (1048575 : Int32)) (.val (.int x0)) (Or.inr ⟨_, rfl, rfl⟩)
  have b8 : ∀ (T : State) (L : List Loc) (X : Stand p l e room_1 s m #[(.int p0)] below meth c T L 0 0) (eT : T.heap = h0) (N : Fr n0 L) (x0 : Int32) (x1 : Int32) (x2 : Int32), Ends p e below s 0 0 (Q0 Z  h0 n0 (F0_8 x0 x1 x2)) (T.setTop (mkF m 8 #[.val (.int x0), .val (.int x1), .val (.int x2), .unset, .unset] [])) := by
    intro T L X eT N x0 x1 x2
    refine Ends.step (u' := (T.setTop (mkF m 9 #[.val (.int x0), .val (.int x1), .val (.int x2), .unset, .unset] [(.int x0)]))) ?_ (fun _ k => XS.iloadN X.here hx rfl (hb hby at_8) rfl k)
    refine Ends.step (u' := (T.setTop (mkF m 11 #[.val (.int x0), .val (.int x1), .val (.int x2), .unset, .unset] [(.int (65535 : Int32)), (.int x0)]))) ?_ (fun _ k => X.ldcI hx hown (mvT hZ (hw _ (List.mem_of_getElem? (i := 0) rfl))) rfl (hb hby at_9) k)
    refine Ends.step (u' := (T.setTop (mkF m 12 #[.val (.int x0), .val (.int x1), .val (.int x2), .unset, .unset] [(.int (x0 &&& (65535 : Int32)))]))) ?_ (fun _ k => XS.iand X.here hx rfl (hb hby at_11) rfl k)
    refine Ends.step (u' := (T.setTop (mkF m 13 #[.val (.int x0), .val (.int x1), .val (.int x2), .val (.int (x0 &&& (65535 : Int32))), .unset] []))) ?_ (fun _ k => XS.istoreN X.here hx rfl (hb hby at_12) rfl (l' := #[.val (.int x0), .val (.int x1), .val (.int x2), .val (.int (x0 &&& (65535 : Int32))), .unset]) rfl k)
    exact b13 T _ X eT N x0 x1 x2 (x0 &&& (65535 : Int32))
  refine Ends.step (u' := (s₁.setTop (mkF m 0 #[.val (.int p0), .unset, .unset, .unset, .unset] []))) ?_ (fun _ k => castTop (ef_0 m p0) k)
  refine Ends.step (u' := (s₁.setTop (mkF m 1 #[.val (.int p0), .unset, .unset, .unset, .unset] [(.int p0)]))) ?_ (fun _ k => XS.iloadN X0.here hx rfl (hb hby at_0) rfl k)
  refine Ends.step (u' := (s₁.setTop (mkF m 2 #[.val (.int p0), .val (.int p0), .unset, .unset, .unset] []))) ?_ (fun _ k => XS.istoreN X0.here hx rfl (hb hby at_1) rfl (l' := #[.val (.int p0), .val (.int p0), .unset, .unset, .unset]) rfl k)
  refine Ends.step (u' := (s₁.setTop (mkF m 3 #[.val (.int p0), .val (.int p0), .unset, .unset, .unset] [(.int p0)]))) ?_ (fun _ k => XS.iloadN X0.here hx rfl (hb hby at_2) rfl k)
  refine Ends.step (u' := (s₁.setTop (mkF m 6 #[.val (.int p0), .val (.int p0), .unset, .unset, .unset] [(.int (1023 : Int32)), (.int p0)]))) ?_ (fun _ k => XT.sipushV X0.here hx rfl (1023 : Int32) (hb hby at_3) rfl k)
  refine Ends.step (u' := (s₁.setTop (mkF m 7 #[.val (.int p0), .val (.int p0), .unset, .unset, .unset] [(.int (p0 &&& (1023 : Int32)))]))) ?_ (fun _ k => XS.iand X0.here hx rfl (hb hby at_6) rfl k)
  refine Ends.step (u' := (s₁.setTop (mkF m 8 #[.val (.int p0), .val (.int p0), .val (.int (p0 &&& (1023 : Int32))), .unset, .unset] []))) ?_ (fun _ k => XS.istoreN X0.here hx rfl (hb hby at_7) rfl (l' := #[.val (.int p0), .val (.int p0), .val (.int (p0 &&& (1023 : Int32))), .unset, .unset]) rfl k)
  exact b8 s₁ _ X0 e0 N0 p0 p0 (p0 &&& (1023 : Int32))
theorem own_1 : nar .boolean 1 = 1 := rfl
theorem own_0 : nar .boolean 0 = 0 := rfl
theorem own_ne : ((1 : Int32) = 0) = False := by decide
theorem own_rng (x lo hi : Int32) (A B : Int32) : (if x < lo then A else if hi < x then A else B) = if (lo.toInt ≤ x.toInt ∧ x.toInt ≤ hi.toInt) then B else A := by
  simp only [Int32.lt_iff_toInt_lt]
  split
  · rw [if_neg (by omega)]
  · split
    · rw [if_neg (by omega)]
    · rw [if_pos (by omega)]
theorem own_eq (x c : Int32) (A B : Int32) : (if x = c then A else B) = if x.toInt = c.toInt then A else B := by
  simp only [Int32.toInt_inj]
theorem own_or (p q : Prop) [Decidable p] [Decidable q] : (if p then (1 : Int32) else if q then 1 else 0) = if p ∨ q then 1 else 0 := by
  by_cases hp : p <;> by_cases hq : q <;> simp [hp, hq]
theorem own_and (p q : Prop) [Decidable p] [Decidable q] : (if p then (0 : Int32) else if q then 1 else 0) = if ¬ p ∧ q then 1 else 0 := by
  by_cases hp : p <;> by_cases hq : q <;> simp [hp, hq]
theorem own_no (p : Prop) [Decidable p] : (if p then (0 : Int32) else 1) = if ¬ p then 1 else 0 := by
  by_cases hp : p <;> simp [hp]
theorem own_imp (p q : Prop) [Decidable p] [Decidable q] : (if p then (if q then (1 : Int32) else 0) else 0) = if p ∧ q then 1 else 0 := by
  by_cases hp : p <;> by_cases hq : q <;> simp [hp, hq]
theorem own_C1 (x : Int32) : F1 x = if ((97 ≤ x.toInt ∧ x.toInt ≤ 122) ∨ ((65 ≤ x.toInt ∧ x.toInt ≤ 90) ∨ (x.toInt = 95 ∨ ((192 ≤ x.toInt ∧ x.toInt ≤ 214) ∨ ((216 ≤ x.toInt ∧ x.toInt ≤ 246) ∨ ((248 ≤ x.toInt ∧ x.toInt ≤ 767) ∨ ((880 ≤ x.toInt ∧ x.toInt ≤ 893) ∨ ((895 ≤ x.toInt ∧ x.toInt ≤ 8191) ∨ ((8204 ≤ x.toInt ∧ x.toInt ≤ 8205) ∨ ((8304 ≤ x.toInt ∧ x.toInt ≤ 8591) ∨ ((11264 ≤ x.toInt ∧ x.toInt ≤ 12271) ∨ ((12289 ≤ x.toInt ∧ x.toInt ≤ 55295) ∨ ((63744 ≤ x.toInt ∧ x.toInt ≤ 64975) ∨ ((65008 ≤ x.toInt ∧ x.toInt ≤ 65533) ∨ (65536 ≤ x.toInt ∧ x.toInt ≤ 983039))))))))))))))) then 1 else 0 := by
  have e_F1 : F1 x = if (97 ≤ x.toInt ∧ x.toInt ≤ 122) then 1 else F1_12 x := own_rng x 97 122 _ _
  have e_F1_12 : F1_12 x = if (65 ≤ x.toInt ∧ x.toInt ≤ 90) then 1 else F1_24 x := own_rng x 65 90 _ _
  have e_F1_24 : F1_24 x = if x.toInt = 95 then 1 else F1_30 x := own_eq x 95 1 _
  have e_F1_30 : F1_30 x = if (192 ≤ x.toInt ∧ x.toInt ≤ 214) then 1 else F1_44 x := own_rng x 192 214 _ _
  have e_F1_44 : F1_44 x = if (216 ≤ x.toInt ∧ x.toInt ≤ 246) then 1 else F1_58 x := own_rng x 216 246 _ _
  have e_F1_58 : F1_58 x = if (248 ≤ x.toInt ∧ x.toInt ≤ 767) then 1 else F1_72 x := own_rng x 248 767 _ _
  have e_F1_72 : F1_72 x = if (880 ≤ x.toInt ∧ x.toInt ≤ 893) then 1 else F1_86 x := own_rng x 880 893 _ _
  have e_F1_86 : F1_86 x = if (895 ≤ x.toInt ∧ x.toInt ≤ 8191) then 1 else F1_100 x := own_rng x 895 8191 _ _
  have e_F1_100 : F1_100 x = if (8204 ≤ x.toInt ∧ x.toInt ≤ 8205) then 1 else F1_114 x := own_rng x 8204 8205 _ _
  have e_F1_114 : F1_114 x = if (8304 ≤ x.toInt ∧ x.toInt ≤ 8591) then 1 else F1_128 x := own_rng x 8304 8591 _ _
  have e_F1_128 : F1_128 x = if (11264 ≤ x.toInt ∧ x.toInt ≤ 12271) then 1 else F1_142 x := own_rng x 11264 12271 _ _
  have e_F1_142 : F1_142 x = if (12289 ≤ x.toInt ∧ x.toInt ≤ 55295) then 1 else F1_155 x := own_rng x 12289 55295 _ _
  have e_F1_155 : F1_155 x = if (63744 ≤ x.toInt ∧ x.toInt ≤ 64975) then 1 else F1_167 x := own_rng x 63744 64975 _ _
  have e_F1_167 : F1_167 x = if (65008 ≤ x.toInt ∧ x.toInt ≤ 65533) then 1 else F1_179 x := own_rng x 65008 65533 _ _
  have e_F1_179 : F1_179 x = if (65536 ≤ x.toInt ∧ x.toInt ≤ 983039) then 1 else 0 := own_rng x 65536 983039 _ _
  rw [e_F1, e_F1_12, e_F1_24, e_F1_30, e_F1_44, e_F1_58, e_F1_72, e_F1_86, e_F1_100, e_F1_114, e_F1_128, e_F1_142, e_F1_155, e_F1_167, e_F1_179]
  simp only [own_or, own_and, own_no, own_imp]
theorem own_C2 (x : Int32) : F2 x = if ((65 ≤ x.toInt ∧ x.toInt ≤ 983039) ∧ (¬ (91 ≤ x.toInt ∧ x.toInt ≤ 94) ∧ (¬ x.toInt = 96 ∧ (¬ (123 ≤ x.toInt ∧ x.toInt ≤ 191) ∧ (¬ x.toInt = 215 ∧ (¬ x.toInt = 247 ∧ (¬ (768 ≤ x.toInt ∧ x.toInt ≤ 879) ∧ (¬ x.toInt = 894 ∧ (¬ (8192 ≤ x.toInt ∧ x.toInt ≤ 8203) ∧ (¬ (8206 ≤ x.toInt ∧ x.toInt ≤ 8303) ∧ (¬ (8592 ≤ x.toInt ∧ x.toInt ≤ 11263) ∧ (¬ (12272 ≤ x.toInt ∧ x.toInt ≤ 12288) ∧ (¬ (55296 ≤ x.toInt ∧ x.toInt ≤ 63743) ∧ (¬ (64976 ≤ x.toInt ∧ x.toInt ≤ 65007) ∧ ¬ (65534 ≤ x.toInt ∧ x.toInt ≤ 65535))))))))))))))) then 1 else 0 := by
  have e_F2 : F2 x = if (65 ≤ x.toInt ∧ x.toInt ≤ 983039) then F2_14 x else 0 := own_rng x 65 983039 _ _
  have e_F2_14 : F2_14 x = if (91 ≤ x.toInt ∧ x.toInt ≤ 94) then 0 else F2_28 x := own_rng x 91 94 _ _
  have e_F2_28 : F2_28 x = if x.toInt = 96 then 0 else F2_36 x := own_eq x 96 0 _
  have e_F2_36 : F2_36 x = if (123 ≤ x.toInt ∧ x.toInt ≤ 191) then 0 else F2_51 x := own_rng x 123 191 _ _
  have e_F2_51 : F2_51 x = if x.toInt = 215 then 0 else F2_58 x := own_eq x 215 0 _
  have e_F2_58 : F2_58 x = if x.toInt = 247 then 0 else F2_67 x := own_eq x 247 0 _
  have e_F2_67 : F2_67 x = if (768 ≤ x.toInt ∧ x.toInt ≤ 879) then 0 else F2_83 x := own_rng x 768 879 _ _
  have e_F2_83 : F2_83 x = if x.toInt = 894 then 0 else F2_92 x := own_eq x 894 0 _
  have e_F2_92 : F2_92 x = if (8192 ≤ x.toInt ∧ x.toInt ≤ 8203) then 0 else F2_108 x := own_rng x 8192 8203 _ _
  have e_F2_108 : F2_108 x = if (8206 ≤ x.toInt ∧ x.toInt ≤ 8303) then 0 else F2_124 x := own_rng x 8206 8303 _ _
  have e_F2_124 : F2_124 x = if (8592 ≤ x.toInt ∧ x.toInt ≤ 11263) then 0 else F2_140 x := own_rng x 8592 11263 _ _
  have e_F2_140 : F2_140 x = if (12272 ≤ x.toInt ∧ x.toInt ≤ 12288) then 0 else F2_156 x := own_rng x 12272 12288 _ _
  have e_F2_156 : F2_156 x = if (55296 ≤ x.toInt ∧ x.toInt ≤ 63743) then 0 else F2_170 x := own_rng x 55296 63743 _ _
  have e_F2_170 : F2_170 x = if (64976 ≤ x.toInt ∧ x.toInt ≤ 65007) then 0 else F2_184 x := own_rng x 64976 65007 _ _
  have e_F2_184 : F2_184 x = if (65534 ≤ x.toInt ∧ x.toInt ≤ 65535) then 0 else 1 := own_rng x 65534 65535 _ _
  rw [e_F2, e_F2_14, e_F2_28, e_F2_36, e_F2_51, e_F2_58, e_F2_67, e_F2_83, e_F2_92, e_F2_108, e_F2_124, e_F2_140, e_F2_156, e_F2_170, e_F2_184]
  simp only [own_or, own_and, own_no, own_imp]
theorem own_same (x : Int32) : F1 x = F2 x := by
  rw [own_C1, own_C2]
  generalize x.toInt = k
  congr 1
  apply propext
  constructor
  · intro h; omega
  · intro h; omega
theorem own_law (i0 : Int32) : F0 i0 = 1 := by
  simp only [F0, F0_8, F0_13, F0_19, F0_30, F0_41, F0_52, own_same, if_true]
  rfl
set_option maxRecDepth 65536 in
set_option maxHeartbeats 40000000 in
theorem comes_1 {Post : Tables → Env → Array Value → State → Outcome → State → Prop} (hpost : ∀ tb e args s v u, (limb_1_1.after args s (.returned v) u = true ∧ limb_1_2.after args s (.returned v) u = true ∧ True) → FrameEnd s (.returned v) u (Jvm.fieldLocs frame_1_writes args s ++ Jvm.arrayLocs frame_1_arrays args s ++ Jvm.staticLocs frame_1_statics s) 0 0 → Post tb e args s (.returned v) u) :
    ArmFor flags0 classFile x code maxLocals ret World_1 tables_1 room_1 Calls_1 rest_1 Pre_1 Post := by
  intro l hfl _ _ p e ha hc hk s m args below hf hA hF happ hP
  obtain ⟨hcalls, hrest, hpre⟩ := hP
  obtain ⟨-, -, -, hnamed, -, -, -, hat⟩ := (Spec.applies_iff hf).mp happ
  obtain ⟨hg, hn⟩ := and_e (Cond.before_iff.mp (show (Jvm.Cond.and given_1 narrow_1).before args s = true from hpre))
  obtain ⟨h1, r0⟩ := and_e hg
  obtain ⟨w0, rfl⟩ : ∃ w0 : Value, args = #[w0] := by
    have hs : args.size = 1 := by simpa [Cond.value, given_1] using h1
    obtain ⟨L⟩ := args
    match L, hs with
    | [w0], _ => exact ⟨w0, rfl⟩
  have hw := fun d (hd : d ∈ tables_1) => atoms_spec (ws := Jvm.Cond.code x code maxLocals ret :: tables_1) hat d (List.mem_cons_of_mem _ hd)
  obtain ⟨i0, e0⟩ := is_v r0
  obtain rfl : w0 = (.int i0) := Option.some.inj e0
  have val := own_law i0
  obtain ⟨n, o, h1, h2, h3, _, L, rfl, ⟨rfl, N⟩, hq⟩ := rm0 l s _ hw i0 s.heap s.heap.size (Nat.le_refl _)  p e ha hc hk s m _ below hf ((Spec.applies_iff_loose hf).mp happ).1 ⟨rfl, State.Warmed39.refl s, rfl⟩ trivial
  refine ⟨n, _, h1, h2, h3, hpost _ _ _ _ _ _ ⟨Cond.after_iff.mpr rfl, Cond.after_iff.mpr (eq_i res_at (Term.int_eval (1)) (by rw [val])), trivial⟩ ⟨hq.1, hq.2.1, (hq.2.2.sift fun y hy => Or.inr (N y hy)).mono (by decide) (by decide)⟩⟩
theorem main_1_1 : Claimed_1_1 := comes_1 fun _ _ _ _ _ _ h hF => ⟨h.1, hF⟩
theorem main_1_2 : Claimed_1_2 := comes_1 fun _ _ _ _ _ _ h hF => ⟨h.2.1, hF⟩
end Jvm.Pilot.@@N@@
namespace Jvm.Pilot.@@N@@
open Jvm Jvm.ClassFile Sem Op Lib Jvm.Free Jvm.Stand Jvm.Pilot.@@N@@.Jvm.D
/-! MADE BY PROGRAM (witnessworld.py) out of the Statement's table words and the real class files: 9 classes; the members and pool entries that the words name. The judged class is class 1, her method 1. -/
namespace start1
open Jvm.ClassFile
def u (s : String) : CpInfo := .utf8 (stringToUtf16 s)
/-- a pool by its gaps: so many unusable entries, then the entry; so many at the end -/
def gap : Nat → List CpInfo → List CpInfo
  | 0, r => r
  | n + 1, r => .unusable :: gap n r
def poolList (es : List (Nat × CpInfo)) (last : Nat) : List CpInfo := es.foldr (fun e r => gap e.1 (e.2 :: r)) (gap last [])
def pool (es : List (Nat × CpInfo)) (last : Nat) : Array CpInfo := ⟨poolList es last⟩
def fileOf (pool : Array CpInfo) (this : Nat) (attrs : Array Attribute := #[]) (ms : Array MethodInfo := #[]) (fl : Nat := 33) (sup : Nat := 0) (ifs : Array Nat := #[]) (fds : Array FieldInfo := #[]) : ClassFile where
  minorVersion := 0
  majorVersion := 65
  constantPool := pool
  accessFlags := fl
  thisClass := this
  superClass := sup
  interfaces := ifs
  fields := fds
  methods := ms
  attributes := attrs
def plain (name : String) (sup : Option ClassId) : Class where
  name := name
  kind := .ordinary
  loader := none
  accessFlags := 33
  super := sup
  interfaces := #[]
  cf := none
  fields := #[]
  methods := #[]
  instanceTypes := #[]
  staticTypes := #[]
  resolved := #[]
  callSites := []
  init := .initialized
  statics := none
  mirror := none

def pool0 : Array CpInfo := pool [(5, u "<init>"), (0, u "()V"), (1, .class_ 10), (1, u "java/lang/Object")] 113

def k0m0 : Method := { name := "<init>", desc := "()V", sig := { parameters := [], returnType := none }, accessFlags := 1, code := none }
/-- java/lang/Object -/
def k0 : Class := { plain "java/lang/Object" none with
  accessFlags := 33
  interfaces := #[]
  cf := some (fileOf pool0 8 #[] #[{ accessFlags := 1, nameIndex := 5, descriptorIndex := 6, attributes := #[] }] 33 0 #[] #[])
  fields := #[]
  methods := #[k0m0]
  instanceTypes := #[]
  staticTypes := #[]
  resolved := Array.replicate 124 none
  statics := none }

def pool1 : Array CpInfo := pool [(2, .class_ 4), (1, u "java/lang/Object"), (0, u "<init>"), (0, u "()V"), (0, .integer 65535), (0, .integer 1048575), (0, .methodref 10 11), (0, .class_ 12), (0, .nameAndType 13 14), (0, u "com/example/kuopio/kuopio/XmlChars"), (0, u "isNameStartChar"), (0, u "(I)Z"), (0, .methodref 16 17), (0, .class_ 18), (0, .nameAndType 19 14), (0, u "com/example/kuopio/kuopio/XmlCharsIsNameStartCharPinLaw"), (0, u "ref"), (0, .integer 983039), (0, .integer 55296), (0, .integer 63743), (0, .integer 64976), (0, .integer 65007), (0, .integer 65534), (2, u "law")] 3

def k1m0 : Method := { name := "<init>", desc := "()V", sig := { parameters := [], returnType := none }, accessFlags := 2, code := none }
def k1c1 : Code := { maxStack := 2, maxLocals := 5, code := code, exceptionTable := #[], attributes := #[] }
def k1m1 : Method := { name := "law", desc := "(I)Z", sig := { parameters := [.int], returnType := some .boolean }, accessFlags := 9, code := some k1c1 }
def k1c2 : Code := { maxStack := 2, maxLocals := 1, code := method_3_code, exceptionTable := #[], attributes := #[] }
def k1m2 : Method := { name := "ref", desc := "(I)Z", sig := { parameters := [.int], returnType := some .boolean }, accessFlags := 10, code := some k1c2 }
/-- com/example/kuopio/kuopio/XmlCharsIsNameStartCharPinLaw -/
def k1 : Class := { plain "com/example/kuopio/kuopio/XmlCharsIsNameStartCharPinLaw" (some 0) with
  accessFlags := 49
  interfaces := #[]
  cf := some (fileOf pool1 16 #[] #[{ accessFlags := 2, nameIndex := 5, descriptorIndex := 6, attributes := #[] }, { accessFlags := 9, nameIndex := 28, descriptorIndex := 14, attributes := #[] }, { accessFlags := 10, nameIndex := 19, descriptorIndex := 14, attributes := #[] }] 49 2 #[] #[])
  fields := #[]
  methods := #[k1m0, k1m1, k1m2]
  instanceTypes := #[]
  staticTypes := #[]
  resolved := Array.replicate 32 none
  statics := none }

def pool2 : Array CpInfo := pool [(2, .class_ 4), (1, u "java/lang/Object"), (0, u "<init>"), (0, u "()V"), (11, .class_ 20), (1, u "com/example/kuopio/kuopio/XmlChars"), (1, u "(I)Z"), (18, .integer 55295), (0, .integer 63744), (0, .integer 64975), (0, .integer 65008), (0, .integer 65533), (0, .integer 65536), (0, .integer 983039), (2, u "isNameStartChar")] 83

def k2m0 : Method := { name := "<init>", desc := "()V", sig := { parameters := [], returnType := none }, accessFlags := 2, code := none }
def k2c1 : Code := { maxStack := 2, maxLocals := 1, code := prog_24_method_5_code, exceptionTable := #[], attributes := #[] }
def k2m1 : Method := { name := "isNameStartChar", desc := "(I)Z", sig := { parameters := [.int], returnType := some .boolean }, accessFlags := 9, code := some k2c1 }
/-- com/example/kuopio/kuopio/XmlChars -/
def k2 : Class := { plain "com/example/kuopio/kuopio/XmlChars" (some 0) with
  accessFlags := 49
  interfaces := #[]
  cf := some (fileOf pool2 18 #[] #[{ accessFlags := 2, nameIndex := 5, descriptorIndex := 6, attributes := #[] }, { accessFlags := 9, nameIndex := 50, descriptorIndex := 22, attributes := #[] }] 49 2 #[] #[])
  fields := #[]
  methods := #[k2m0, k2m1]
  instanceTypes := #[]
  staticTypes := #[]
  resolved := Array.replicate 134 none
  statics := none }

def pool3 : Array CpInfo := pool [(1, u "java/lang/Cloneable"), (0, .class_ 1), (0, u "java/lang/Object"), (0, .class_ 3)] 3

/-- java/lang/Cloneable -/
def k3 : Class := { plain "java/lang/Cloneable" (some 0) with
  accessFlags := 1537
  interfaces := #[]
  cf := some (fileOf pool3 2 #[] #[] 1537 4 #[] #[])
  fields := #[]
  methods := #[]
  instanceTypes := #[]
  staticTypes := #[]
  resolved := Array.replicate 8 none
  statics := none }

def pool4 : Array CpInfo := pool [(1, u "java/io/Serializable"), (0, .class_ 1), (0, u "java/lang/Object"), (0, .class_ 3)] 3

/-- java/io/Serializable -/
def k4 : Class := { plain "java/io/Serializable" (some 0) with
  accessFlags := 1537
  interfaces := #[]
  cf := some (fileOf pool4 2 #[] #[] 1537 4 #[] #[])
  fields := #[]
  methods := #[]
  instanceTypes := #[]
  staticTypes := #[]
  resolved := Array.replicate 8 none
  statics := none }

/-- the primitive byte -/
def k5 : Class := { plain "byte" none with kind := .primitive 'B', accessFlags := 0x411 }
/-- [B -/
def k6 : Class := { plain "[B" (some 0) with kind := .array 5 .byte, interfaces := #[3, 4], accessFlags := 1041 }

/-- the primitive int -/
def k7 : Class := { plain "int" none with kind := .primitive 'I', accessFlags := 0x411 }
/-- [I -/
def k8 : Class := { plain "[I" (some 0) with kind := .array 7 .int, interfaces := #[3, 4], accessFlags := 1041 }

def heap : Heap := #[]
def classes : Array Class := #[k0, k1, k2, k3, k4, k5, k6, k7, k8]
def interned : List (Array UInt16 × Addr) := []
def slotsUsed : Nat := 0
def theMethod : MethodId := ⟨1, 1⟩
def args0 : Array Value := #[.int 5]
def aboutOver (below : List Frame) : State where
  vm := { classes := classes, interned := interned.toArray }
  heap := heap
  slotsUsed := slotsUsed
  threads := #[{ frames := .invoking theMethod args0 :: below }]
def below0 : List Frame := [.native { method := ⟨0, 0⟩, args := #[] }]
def about1 : State := aboutOver below0
def p0 : Program := .bare "" "" ""
def e0 : Env := launch0.env 0 0 0
theorem w_frames : about1.frames = Frame.invoking theMethod args0 :: below0 := rfl
set_option maxRecDepth 65536 in
theorem w_args : argsFit about1.vm theMethod args0 = true := by decide +kernel
set_option maxRecDepth 65536 in
theorem w_heap : heapFits about1 = true := by decide +kernel
set_option maxRecDepth 65536 in
theorem w_runnable : about1.curStatus? = some .runnable := by decide +kernel
set_option maxRecDepth 65536 in
theorem w_alone : about1.alone = true := by decide +kernel
set_option maxRecDepth 65536 in
theorem w_named : about1.methodNamed? x = some theMethod := by decide +kernel
set_option maxRecDepth 65536 in
theorem w_hears : about1.hears theMethod below0 = true := by decide +kernel
set_option maxRecDepth 65536 in
theorem w_ripe : about1.ripe theMethod args0 below0 = true := by decide +kernel
theorem w_running : about1.status = .running := rfl
set_option maxRecDepth 65536 in
theorem w_room : about1.hasRoom e0.platform room_1 = true :=
  launch0.hasRoom_least _ room_1 (by decide +kernel) (by decide +kernel) (by decide +kernel) (by decide +kernel) (by decide +kernel) (by decide +kernel)
theorem allAtoms_all (ts : List Jvm.Cond) (a : Array Jvm.Value) (st : Jvm.State) : (allAtoms ts).before a st = ts.all (fun c => c.before a st) := by
  induction ts with
  | nil => rfl
  | cons c t ih =>
    show (Jvm.Cond.and c (allAtoms t)).before a st = _
    rw [Jvm.Cond.before_and, ih, List.all_cons]
def words1 : List Jvm.Cond := Jvm.Cond.code x code maxLocals ret :: tables_1
/-- a 'code' word, met by the world's own term for the bytes: nothing is compared byte by byte -/
theorem code_word {y : MethodName} {bytes : ByteArray} {mx : Nat} {rt : Option FieldType} {a : Array Value} {s : State} {m : MethodId} {meth : Method} {c : Code} (h1 : s.methodNamed? y = some m) (h2 : s.vm.method? m = some meth) (h3 : meth.code = some c) (h4 : c.code = bytes)
    (h5 : (c.maxLocals == mx && c.exceptionTable.isEmpty && decide (c.maxStack ≤ mostOperands) && decide (meth.sig.returnType = rt) && !meth.locks && decide (parseMethodDescriptor y.desc = some meth.sig)) = true) : (Jvm.Cond.code y bytes mx rt).before a s = true := by
  simp only [Bool.and_eq_true, beq_iff_eq, Bool.not_eq_true', decide_eq_true_eq] at h5
  obtain ⟨⟨⟨⟨⟨g1, g2⟩, g3⟩, g4⟩, g5⟩, g6⟩ := h5
  simp [Cond.before, Cond.holds, Cond.value, h1, h2, h3, h4, g1, g2, g3, g4, g5, g6]
def isCode : Jvm.Cond → Bool
  | .code _ _ _ _ => true
  | _ => false
theorem all_split {L : List Jvm.Cond} {P : Jvm.Cond → Bool} (h1 : L.all (fun c => isCode c || P c) = true) (h2 : ∀ c ∈ L.filter isCode, P c = true) : L.all P = true := by
  refine List.all_eq_true.mpr fun c hc => ?_
  have h := List.all_eq_true.mp h1 c hc
  rcases Bool.eq_false_or_eq_true (isCode c) with hi | hi
  · exact h2 c (List.mem_filter.mpr ⟨hc, hi⟩)
  · simpa [hi] using h
set_option maxRecDepth 65536 in
theorem w_c0 : (Jvm.Cond.code x code maxLocals ret).before args0 about1 = true := code_word (m := ⟨1, 1⟩) (meth := k1m1) (c := k1c1) (by decide +kernel) rfl rfl rfl (by decide +kernel)
set_option maxRecDepth 65536 in
theorem w_c1 : (Jvm.Cond.code ({ cls := "com/example/kuopio/kuopio/XmlChars", name := "isNameStartChar", desc := "(I)Z" } : Jvm.MethodName) prog_24_method_5_code (1 : Nat) (Option.some Jvm.ClassFile.FieldType.boolean)).before args0 about1 = true := code_word (m := ⟨2, 1⟩) (meth := k2m1) (c := k2c1) (by decide +kernel) rfl rfl rfl (by decide +kernel)
set_option maxRecDepth 65536 in
theorem w_c2 : (Jvm.Cond.code ({ cls := "com/example/kuopio/kuopio/XmlCharsIsNameStartCharPinLaw", name := "ref", desc := "(I)Z" } : Jvm.MethodName) method_3_code (1 : Nat) (Option.some Jvm.ClassFile.FieldType.boolean)).before args0 about1 = true := code_word (m := ⟨1, 2⟩) (meth := k1m2) (c := k1c2) (by decide +kernel) rfl rfl rfl (by decide +kernel)
def codes1 : List Jvm.Cond := [Jvm.Cond.code x code maxLocals ret, Jvm.Cond.code ({ cls := "com/example/kuopio/kuopio/XmlChars", name := "isNameStartChar", desc := "(I)Z" } : Jvm.MethodName) prog_24_method_5_code (1 : Nat) (Option.some Jvm.ClassFile.FieldType.boolean), Jvm.Cond.code ({ cls := "com/example/kuopio/kuopio/XmlCharsIsNameStartCharPinLaw", name := "ref", desc := "(I)Z" } : Jvm.MethodName) method_3_code (1 : Nat) (Option.some Jvm.ClassFile.FieldType.boolean)]
set_option maxRecDepth 65536 in
theorem codes_eq : words1.filter isCode = codes1 := rfl
theorem w_codes : ∀ c ∈ words1.filter isCode, c.before args0 about1 = true := by
  rw [codes_eq]
  intro c hc
  simp only [codes1, List.mem_cons, List.not_mem_nil, or_false] at hc
  rcases hc with rfl | rfl | rfl
  · exact w_c0
  · exact w_c1
  · exact w_c2
set_option maxRecDepth 65536 in
theorem w_t1 : words1.all (fun c => isCode c || c.before args0 about1) = true := by decide +kernel
theorem w_tables : (allAtoms (Jvm.Cond.code x code maxLocals ret :: tables_1)).before args0 about1 = true := by
  rw [allAtoms_all]
  show words1.all (fun c => c.before args0 about1) = true
  refine all_split ?_ w_codes
  rw [w_t1]
set_option maxRecDepth 65536 in
theorem w_case : (Jvm.Cond.and given_1 narrow_1).before args0 about1 = true := by decide +kernel
theorem w_applies : (headSpec (Jvm.Cond.code x code maxLocals ret :: tables_1) room_1).applies x e0.platform about1 = true :=
  (Spec.applies_iff w_frames).mpr ⟨w_running, w_runnable, w_alone, w_named, w_hears, w_ripe, w_room, w_tables⟩
theorem atStart : AtStart classFile x code maxLocals ret World_1 tables_1 room_1 Calls_1 rest_1 Pre_1 launch0 p0 e0 about1 theMethod args0 below0 :=
  ⟨lists_1, trivial, launch0.admits_env _ _ _, launch0.least_env, fairChoices_fair.cas, fairChoices_fair.clock, w_frames, w_args, w_heap, w_applies, trivial, trivial, w_case⟩
end start1
theorem witness_1 : WitnessClaimed_1 := ⟨start1.p0, start1.e0, start1.about1, start1.theMethod, start1.args0, start1.below0, start1.atStart⟩
end Jvm.Pilot.@@N@@
