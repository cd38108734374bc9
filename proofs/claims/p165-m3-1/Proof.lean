import JvmDerived
import JvmDerived.Pilot.@@N@@Statement
import JvmDerived.Pilot.@@N@@Code
set_option linter.unusedVariables false
set_option linter.unusedSimpArgs false
namespace Jvm.RoadKit
open Sem ClassFile Op Lib Jvm.Stand Jvm.Free Jvm.LawKit
section New
variable {p : Program} {l : Launch} {e : Env} {R : Room} {s : State} {m : MethodId} {args : Array Value} {below : List Frame} {meth : Method} {c : Code} {T : State} {locs : List Loc} {cells slots : Nat}
theorem retI (X : Stand p l e R s m args below meth c T locs cells slots) (hx : p.tables.exec = Jvm.exec) {pc : Nat} {Ls : Array Slot} {z : Int32} {rest : List Value} (hret : meth.sig.returnType = some .int) (hd : decode c.code pc = .ok (.ireturn, 1)) {fs : List Frame}
    (hl : ∀ (f : JFrame) (acts : List Action), f.method = m → f.locked = none → f.entered = [] → (doReturn e (T.setTop f) acts (some (.int z))).1 = T.setFrames fs) : Steps p.tables e below (T.setTop (mkF m pc Ls (.int z :: rest))) (T.setFrames fs) := by
  have hm' : T.vm.method? m = some meth := X.method'
  have hn : narrow .int (.int z) = .int z := rfl
  show Steps p.tables e below (T.setTop { method := m, pc := pc, locals := Ls, stack := _ :: rest, locked := none }) _
  jvm_step X.here [X.here.top, hx, hd, hm', hret, hn]
  first | (intro acts; rw [hl _ acts rfl rfl rfl]) | rw [hl _ _ rfl rfl rfl]
  exact Steps.refl _
end New
end Jvm.RoadKit
namespace Jvm.Pilot.@@N@@
open Jvm Jvm.ClassFile Sem Op Lib Jvm.Free Jvm.Stand Jvm.LawKit Jvm.RoadKit Bundle Jvm.Pilot.@@N@@.Jvm.D
/-! ### the frame of this text: 'Ends': the run from u ends in a return that Q says -/
section OwnFrame
variable {p : Program} {l : Launch} {e : Env} {R : Room} {s : State} {m : MethodId} {args : Array Value} {below : List Frame} {meth : Method} {c : Code} {T : State} {locs : List Loc} {cells slots cs ss : Nat} {Z : State} {a0 : Array Value} {h h' : Heap} {Q : Option Value → Heap → List Loc → Prop} {u u' : State}
def Ends (p : Program) (e : Env) (below : List Frame) (s : State) (cs ss : Nat) (Q : Option Value → Heap → List Loc → Prop) (u : State) : Prop :=
  ∃ t v L, Steps p.tables e below u t ∧ t.status = .running ∧ Ended t below (.returned v) ∧ Q v t.heap L ∧ s.WarmedH t.vm ∧ s.sameButNew ({ t with vm := s.vm } : State) L cs ss
theorem Ends.step (h : Ends p e below s cs ss Q u') (k : ∀ t, Steps p.tables e below u' t → Steps p.tables e below u t) : Ends p e below s cs ss Q u := by
  obtain ⟨t, v, L, h1, r⟩ := h; exact ⟨t, v, L, k t h1, r⟩
theorem Ends.ret (X : Stand p l e R s m args below meth c T locs cells slots) {v : Option Value} (hv : meth.sig.returnType = none → v = none) (hlk : meth.locks = false)
    (k : ∀ fs, (∀ (f : JFrame) (acts : List Action), f.method = m → f.locked = none → f.entered = [] → (doReturn e (T.setTop f) acts v).1 = T.setFrames fs) → Steps p.tables e below u (T.setFrames fs))
    (hc : cells ≤ cs) (hs : slots ≤ ss) (hq : Q v T.heap locs) : Ends p e below s cs ss Q u := by
  obtain ⟨fs, hr, hrun, hended, hW, hsame⟩ := X.leave (v := v) hv hlk
  exact ⟨T.setFrames fs, v, locs, k fs hr, hrun, hended, hq, hW, hsame.mono hc hs⟩
/-- what a body promises -/
abbrev Meets (l : Launch) (Z : State) (y : MethodName) (bytes : ByteArray) (maxL : Nat) (ret : Option FieldType) (ws : List Jvm.Cond) (rm : Room) (as' : Array Value) (h : Heap) (Q : Option Value → Heap → List Loc → Prop) (cs ss : Nat) : Prop :=
  MetFree l y (head1 (Jvm.Cond.code y bytes maxL ret :: ws) rm) (fun a U => a = as' ∧ Z.Warmed39 U.vm ∧ U.heap = h) (fun _ _ _ _ _ => True) (fun _ U o U' => ∃ v L, o = .returned v ∧ Q v U'.heap L ∧ FrameEnd U o U' L cs ss)
theorem Meets.of {y : MethodName} {bytes : ByteArray} {maxL : Nat} {ret : Option FieldType} {ws : List Jvm.Cond} {rm : Room} {as' : Array Value} (pn : plainFor y = true)
    (k : ∀ (p : Program) (e : Env) (s : State) (m : MethodId) (below : List Frame) (meth : Method) (c : Code) (s₁ : State), p.tables.exec = Jvm.exec → c.code = bytes → c.maxLocals = maxL → Z.Warmed39 s.vm → s.vm.findClass y.cls = some m.cls → meth.name = y.name → meth.sig.returnType = ret → meth.locks = false →
      Stand p l e rm s m as' below meth c s₁ [] 0 0 → s₁.heap = h → Ends p e below s cs ss Q (s₁.setTop (entryFrame m as' maxL))) : Meets l Z y bytes maxL ret ws rm as' h Q cs ss := by
  refine MetFree.of_bodySF pn hisR ?_
  intro p e s m args below meth c s₁ Bd hml0 hP hK
  obtain ⟨rfl, hZ, hh⟩ := hP
  obtain ⟨t, v, L, h1, h2, h3, h4, h5, h6⟩ := k p e s m below meth c s₁ Bd.exec Bd.bytes hml0 hZ (findClass_of_methodNamed Bd.named) (name_of_methodNamed Bd.named Bd.method).1 Bd.returns (BodyLoose.notSynchronized Bd) (Stand.of_body Bd) (by rw [← hh, Bd.state]; rfl)
  exact ⟨t, .returned v, h1, h2, h3, v, L, rfl, h4, ⟨_, rfl⟩, h5, h6⟩
theorem Ends.callS (X : Stand p l e R s m args below meth c T locs cells slots) (hx : p.tables.exec = Jvm.exec) (hZ : Z.Warmed39 s.vm) {own : String} {index : Nat} {y : MethodName} {bytes : ByteArray} {maxL : Nat} {ret : Option FieldType}
    (hown : s.vm.findClass own = some m.cls) (w1 : (Jvm.Cond.methodLink own index y).before a0 Z = true) (w2 : (Jvm.Cond.static y).before a0 Z = true) (w3 : (Jvm.Cond.initialized y.cls).before a0 Z = true) (w4 : (Jvm.Cond.code y bytes maxL ret).before a0 Z = true)
    (hy : y.cls ≠ "java/lang/invoke/MethodHandle" ∧ y.cls ≠ "java/lang/invoke/VarHandle") {rm : Room} {as' : Array Value} {Q' : Option Value → Heap → List Loc → Prop} (hM : Meets l Z y bytes maxL ret [] rm as' h Q' rm.cells rm.slots)
    (W : Nat) (hf : rm.frames + 1 ≤ R.frames) (hl : W + (maxL + 11) + rm.locals ≤ R.locals) (eT : T.heap = h) {g : JFrame} (hg : g.method = m) (hsize : g.locals.size = c.maxLocals) (argsL rest : List Value)
    (hlen : ∀ sig, parseMethodDescriptor y.desc = some sig → argsL.length = sig.parameters.length) (hstack : g.stack = argsL.reverse ++ rest) (hW : 2 * g.monitorRoom + (rest.map fun v => v.category).sum ≤ W) (hdg : decode c.code g.pc = .ok (.invokestatic index, 3))
    (ha : argsL.toArray = as') (hc : cells + rm.cells ≤ R.cells) (hs : slots + rm.slots ≤ R.slots)
    (k : ∀ v T' L, Stand p l e R s m args below meth c T' (locs ++ L) (cells + rm.cells) (slots + rm.slots) → Q' v T'.heap L → Ends p e below s cs ss Q (T'.setTop { g with pc := g.pc + 3, stack := v.toList ++ rest })) : Ends p e below s cs ss Q (T.setTop g) := by
  obtain ⟨v, _, ⟨T', L', k', n'⟩, -, X', ⟨Lc, hQ, rfl, rfl, rfl⟩, st⟩ := Jvm.LawKit.callS X hx (y := y) hown (mvT hZ w1) (mvT hZ w2) (mvT hZ w3) (mvT hZ w4) hy (backOf (W := W) hM hZ w4 w3 hf hl) hg hsize (argsL := argsL) (rest := rest) hlen hstack hW hdg (fun _ _ => ⟨ha, eT, hc, hs⟩)
  exact (k v T' Lc X' hQ).step st
theorem Ends.callC (X : Stand p l e R s m args below meth c T locs cells slots) (hx : p.tables.exec = Jvm.exec) (hZ : Z.Warmed39 s.vm) {own : String} {index : Nat} {y : MethodName} {bytes : ByteArray} {maxL : Nat} (hy1 : y.name = "<init>")
    (hown : s.vm.findClass own = some m.cls) (w1 : (Jvm.Cond.methodLink own index y).before a0 Z = true) (w2 : (Jvm.Cond.instanceMethod y).before a0 Z = true) (w3 : (Jvm.Cond.initialized y.cls).before a0 Z = true) (w4 : (Jvm.Cond.code y bytes maxL none).before a0 Z = true)
    (hy : y.cls ≠ "java/lang/invoke/MethodHandle" ∧ y.cls ≠ "java/lang/invoke/VarHandle") {rm : Room} {as' : Array Value} {Q' : Option Value → Heap → List Loc → Prop} (hM : Meets l Z y bytes maxL none [] rm as' h Q' rm.cells rm.slots)
    (W : Nat) (hf : rm.frames + 1 ≤ R.frames) (hl : W + (maxL + 11) + rm.locals ≤ R.locals) (eT : T.heap = h) {g : JFrame} (hg : g.method = m) (hsize : g.locals.size = c.maxLocals) (a : Addr) (argsL rest : List Value)
    (hlen : ∀ sig, parseMethodDescriptor y.desc = some sig → argsL.length = sig.parameters.length) (hstack : g.stack = argsL.reverse ++ .ref a :: rest) (hW : 2 * g.monitorRoom + (rest.map fun v => v.category).sum ≤ W) (hdg : decode c.code g.pc = .ok (.invokespecial index, 3))
    (ha : (.ref a :: argsL).toArray = as') (hc : cells + rm.cells ≤ R.cells) (hs : slots + rm.slots ≤ R.slots)
    (k : ∀ v T' L, Stand p l e R s m args below meth c T' (locs ++ L) (cells + rm.cells) (slots + rm.slots) → Q' v T'.heap L → Ends p e below s cs ss Q (T'.setTop { g with pc := g.pc + 3, stack := v.toList ++ rest })) : Ends p e below s cs ss Q (T.setTop g) := by
  obtain ⟨v, _, ⟨T', L', k', n'⟩, -, X', ⟨Lc, hQ, rfl, rfl, rfl⟩, st⟩ := X.specialBack hx (y := y) hy1 hown (mvT hZ w1) (mvT hZ w2) (mvT hZ w4) hy (backOf (W := W) hM hZ w4 w3 hf hl) hg hsize (Steps.refl _) (a := a) (argsL := argsL) (rest := rest) hlen hstack hW hdg (fun _ _ => ⟨ha, eT, hc, hs⟩)
  exact (k v T' Lc X' hQ).step (fun _ q => st.trans q)
theorem Ends.callV (X : Stand p l e R s m args below meth c T locs cells slots) (hx : p.tables.exec = Jvm.exec) (hZ : Z.Warmed39 s.vm) {own C : String} {index : Nat} {y : MethodName} {bytes : ByteArray} {maxL : Nat} {ret : Option FieldType}
    (hown : s.vm.findClass own = some m.cls) (w1 : (Jvm.Cond.methodLink own index y).before a0 Z = true) (wd : (Jvm.Cond.declares y).before a0 Z = true) (wsel : (Jvm.Cond.selects C y y).before a0 Z = true) (w2 : (Jvm.Cond.instanceMethod y).before a0 Z = true) (w3 : (Jvm.Cond.initialized y.cls).before a0 Z = true) (w4 : (Jvm.Cond.code y bytes maxL ret).before a0 Z = true)
    (hy : y.cls ≠ "java/lang/invoke/MethodHandle" ∧ y.cls ≠ "java/lang/invoke/VarHandle") {rm : Room} {as' : Array Value} {Q' : Option Value → Heap → List Loc → Prop} (hM : Meets l Z y bytes maxL ret [] rm as' h Q' rm.cells rm.slots)
    (W : Nat) (hf : rm.frames + 1 ≤ R.frames) (hl : W + (maxL + 11) + rm.locals ≤ R.locals) (eT : T.heap = h) (a : Addr) (E : Exa Z h a C) {g : JFrame} (hg : g.method = m) (hsize : g.locals.size = c.maxLocals) (argsL rest : List Value)
    (hlen : ∀ sig, parseMethodDescriptor y.desc = some sig → argsL.length = sig.parameters.length) (hstack : g.stack = argsL.reverse ++ .ref a :: rest) (hW : 2 * g.monitorRoom + (rest.map fun v => v.category).sum ≤ W) (hdg : decode c.code g.pc = .ok (.invokevirtual index, 3))
    (ha : (.ref a :: argsL).toArray = as') (hc : cells + rm.cells ≤ R.cells) (hs : slots + rm.slots ≤ R.slots)
    (k : ∀ v T' L, Stand p l e R s m args below meth c T' (locs ++ L) (cells + rm.cells) (slots + rm.slots) → Q' v T'.heap L → Ends p e below s cs ss Q (T'.setTop { g with pc := g.pc + 3, stack := v.toList ++ rest })) : Ends p e below s cs ss Q (T.setTop g) := by
  obtain ⟨cq, kq, q1, q2, q3⟩ := isOf (T := T) hZ eT E
  obtain ⟨v, _, ⟨T', L', k', n'⟩, -, X', ⟨Lc, hQ, rfl, rfl, rfl⟩, st⟩ := X.virtualBack hx (y := y) (z := y) hown (mvT hZ w1) (mvT hZ wd) (notFace_of_selects (args := #[]) (mvT hZ wsel)) (mvT hZ wsel) (mvT hZ w2) hy (backOf (W := W) hM hZ w4 w3 hf hl) q1 q3 hg hsize (Steps.refl _) (argsL := argsL) (rest := rest) hlen hstack hW hdg (fun _ _ => ⟨ha, eT, hc, hs⟩)
  exact (k v T' Lc X' hQ).step (fun _ q => st.trans q)
/-! ### arrays of small numbers: what each place holds, as a function -/
def Ar (Z : State) (h : Heap) (a : Addr) (ty : FieldType) (n : Nat) (f : Nat → Int32) : Prop := ∃ cl : Cell, Arr Z h a cl ty ∧ cl.slots.size = n ∧ n < 2 ^ 31 ∧ ∀ i, i < n → cl.slots[i]? = some (.int (f i))
def upd (f : Nat → Int32) (j : Nat) (v : Int32) : Nat → Int32 := fun i => if i = j then v else f i
def inb (j : Int32) (n : Nat) : Prop := ¬ (j < 0 ∨ n ≤ j.toNatClampNeg)
variable {a b : Addr} {ty : FieldType} {n sl : Nat} {f : Nat → Int32} {v : Value} {wsA : List Addr}
theorem Ar.lt (A : Ar Z h a ty n f) : a < h.size := by obtain ⟨cl, A1, -⟩ := A; exact A1.lt
theorem Ar.ext (A : Ar Z h a ty n f) (E : Ext h h') : Ar Z h' a ty n f := by obtain ⟨cl, A1, r⟩ := A; exact ⟨cl, A1.ext E, r⟩
theorem Ar.other (A : Ar Z h b ty n f) (W : Wr h h' a sl v) (q : b ≠ a) : Ar Z h' b ty n f := by obtain ⟨cl, A1, r⟩ := A; exact ⟨cl, A1.other W q, r⟩
theorem Ar.keep (A : Ar Z h a ty n f) (K : Keep h h' wsA) (q : a ∉ wsA) : Ar Z h' a ty n f := by obtain ⟨cl, A1, r⟩ := A; exact ⟨cl, ⟨K.2.1 a cl A1.1 q, A1.2⟩, r⟩
theorem Ar.small (A : Ar Z h a ty n f) : n < 2 ^ 31 := by obtain ⟨cl, A1, -, r, -⟩ := A; exact r
theorem Ar.set {j : Int32} {x : Int32} (A : Ar Z h a ty n f) (W : Wr h h' a j.toNatClampNeg (.int x)) : Ar Z h' a ty n (upd f j.toNatClampNeg x) := by
  obtain ⟨cl, A1, r1, r2, r3⟩ := A
  refine ⟨_, A1.same W, by rw [sz_set]; exact r1, r2, fun i hi => ?_⟩
  by_cases q : i = j.toNatClampNeg
  · subst q; simp [Cell.setSlot, upd, r1, hi]
  · simp only [Cell.setSlot, upd, if_neg q]; rw [Array.getElem?_setIfInBounds_ne (fun z => q z.symm)]; exact r3 i hi
theorem Ar.new {cA : ClassId} {k : Int32} (A : Arr Z h a (newA cA ty k) ty) (q : ¬ k < 0) (hd : defaultValue ty = .int 0) : Ar Z h a ty k.toNatClampNeg (fun _ => 0) :=
  ⟨_, A, sz_new _ _ _, (back32 q).2, fun i hi => by simp [newA, hi, hd]⟩
theorem Ends.newA (X : Stand p l e R s m args below meth c T locs cells slots) (hx : p.tables.exec = Jvm.exec) (hZ : Z.Warmed39 s.vm) {aty : ArrayType} (w : (Jvm.Cond.arrayClass (newarray.typeOf aty)).before a0 Z = true) (eT : T.heap = h) {g : JFrame} (hg : g.method = m) (hd : decode c.code g.pc = .ok (.newarray aty, 2)) {k : Int32} {rest : List Value} (hs : g.stack = .int k :: rest)
    (hdf : defaultValue (newarray.typeOf aty) = .int 0) (hn : ¬ k < 0) (cap : Nat) (hcap : k.toNatClampNeg ≤ cap) (hb : cap * 8 ≤ 536870912) (hc : cells + 1 ≤ R.cells) (hl : slots + cap ≤ R.slots)
    (kk : ∀ T' h' a, Stand p l e R s m args below meth c T' locs (cells + 1) (slots + cap) → T'.heap = h' → Ext h h' → h.size = a → Ar Z h' a (newarray.typeOf aty) k.toNatClampNeg (fun _ => 0) → Ends p e below s cs ss Q (T'.setTop { g with pc := g.pc + 2, stack := .ref a :: rest })) : Ends p e below s cs ss Q (T.setTop g) := by
  obtain ⟨T', h', cA, X', e', E, A, st⟩ := newP X hx hZ w eT hg hd hs hn hcap hb hc hl
  exact (kk T' h' h.size X' e' E rfl (Ar.new A hn hdf)).step st
theorem Ends.iaload (X : Stand p l e R s m args below meth c T locs cells slots) (hx : p.tables.exec = Jvm.exec) (hZ : Z.Warmed39 s.vm) (eT : T.heap = h) (A : Ar Z h a .int n f) {j : Int32} (hj : inb j n) {g : JFrame} (hg : g.method = m) {rest : List Value} (hs : g.stack = .int j :: .ref a :: rest) (hd : decode c.code g.pc = .ok (.iaload, 1))
    (k : Ends p e below s cs ss Q (T.setTop { g with pc := g.pc + 1, stack := .int (f j.toNatClampNeg) :: rest })) : Ends p e below s cs ss Q (T.setTop g) := by
  obtain ⟨cl, A1, r1, -, r3⟩ := A
  subst r1
  exact k.step (X.iaload hx (by rw [eT]; exact A1.1) (State.isArrayOf_alike hZ.alike A1.2.1) A1.2.2 hj (r3 _ (Nat.lt_of_not_le fun q => hj (Or.inr q))) hg hs hd)
theorem Ends.baload (X : Stand p l e R s m args below meth c T locs cells slots) (hx : p.tables.exec = Jvm.exec) (hZ : Z.Warmed39 s.vm) (eT : T.heap = h) (A : Ar Z h a .byte n f) {j : Int32} (hj : inb j n) {g : JFrame} (hg : g.method = m) {rest : List Value} (hs : g.stack = .int j :: .ref a :: rest) (hd : decode c.code g.pc = .ok (.baload, 1))
    (k : Ends p e below s cs ss Q (T.setTop { g with pc := g.pc + 1, stack := .int (f j.toNatClampNeg) :: rest })) : Ends p e below s cs ss Q (T.setTop g) := by
  obtain ⟨cl, A1, r1, -, r3⟩ := A
  subst r1
  exact k.step (X.baloadBytes hx (by rw [eT]; exact A1.1) (State.isArrayOf_alike hZ.alike A1.2.1) A1.2.2 hj (r3 _ (Nat.lt_of_not_le fun q => hj (Or.inr q))) hg hs hd)
theorem Ends.arrlen (X : Stand p l e R s m args below meth c T locs cells slots) (hx : p.tables.exec = Jvm.exec) (hZ : Z.Warmed39 s.vm) (eT : T.heap = h) (A : Ar Z h a ty n f) {g : JFrame} (hg : g.method = m) {rest : List Value} (hs : g.stack = .ref a :: rest) (hd : decode c.code g.pc = .ok (.arraylength, 1))
    (k : Ends p e below s cs ss Q (T.setTop { g with pc := g.pc + 1, stack := .int (Nat.toInt32 n) :: rest })) : Ends p e below s cs ss Q (T.setTop g) := by
  obtain ⟨cl, A1, r1, -, r3⟩ := A
  subst r1
  exact k.step (X.arraylength hx (by rw [eT]; exact A1.1) (State.isArrayOf_alike hZ.alike A1.2.1) hg hs hd)
theorem Ends.iastore (X : Stand p l e R s m args below meth c T locs cells slots) (hx : p.tables.exec = Jvm.exec) (hZ : Z.Warmed39 s.vm) (eT : T.heap = h) (A : Ar Z h a .int n f) {j x : Int32} (hj : inb j n) {n0 : Nat} (N : Fr n0 locs) (ge : n0 ≤ a) {g : JFrame} (hg : g.method = m) {rest : List Value} (hs : g.stack = .int x :: .int j :: .ref a :: rest) (hd : decode c.code g.pc = .ok (.iastore, 1))
    (k : ∀ T' h' sl, Stand p l e R s m args below meth c T' (locs ++ [⟨a, sl⟩]) cells slots → T'.heap = h' → Fr n0 (locs ++ [⟨a, sl⟩]) → Wr h h' a sl (.int x) → Ar Z h' a .int n (upd f j.toNatClampNeg x) → Ends p e below s cs ss Q (T'.setTop { g with pc := g.pc + 1, stack := rest })) : Ends p e below s cs ss Q (T.setTop g) := by
  obtain ⟨cl, A1, r1, r2, r3⟩ := A
  obtain ⟨T', h', X', e', W, st⟩ := stI X hx hZ eT A1 (by rw [r1]; exact hj) hg hs hd
  exact (k T' h' _ X' e' (Fr.snoc X' N ge) W (Ar.set ⟨cl, A1, r1, r2, r3⟩ W)).step st
theorem Ends.bastore (X : Stand p l e R s m args below meth c T locs cells slots) (hx : p.tables.exec = Jvm.exec) (hZ : Z.Warmed39 s.vm) (eT : T.heap = h) (A : Ar Z h a .byte n f) {j x : Int32} (hj : inb j n) {n0 : Nat} (N : Fr n0 locs) (ge : n0 ≤ a) {g : JFrame} (hg : g.method = m) {rest : List Value} (hs : g.stack = .int x :: .int j :: .ref a :: rest) (hd : decode c.code g.pc = .ok (.bastore, 1))
    (k : ∀ T' h' sl, Stand p l e R s m args below meth c T' (locs ++ [⟨a, sl⟩]) cells slots → T'.heap = h' → Fr n0 (locs ++ [⟨a, sl⟩]) → Wr h h' a sl (.int (nar .byte x)) → Ar Z h' a .byte n (upd f j.toNatClampNeg (nar .byte x)) → Ends p e below s cs ss Q (T'.setTop { g with pc := g.pc + 1, stack := rest })) : Ends p e below s cs ss Q (T.setTop g) := by
  obtain ⟨cl, A1, r1, r2, r3⟩ := A
  obtain ⟨T', h', X', e', W, st⟩ := stB X hx hZ eT A1 (by rw [r1]; exact hj) hg hs hd
  exact (k T' h' _ X' e' (Fr.snoc X' N ge) W (Ar.set ⟨cl, A1, r1, r2, r3⟩ W)).step st
theorem Ends.getF (X : Stand p l e R s m args below meth c T locs cells slots) (hx : p.tables.exec = Jvm.exec) (hZ : Z.Warmed39 s.vm) {own O fn d : String} {index : Nat} (hown : s.vm.findClass own = some m.cls) (w : (Jvm.Cond.fieldLink own index O fn d).before a0 Z = true) (eT : T.heap = h) (F : Fld Z h a O fn d v) {g : JFrame} (hg : g.method = m) {rest : List Value} (hs : g.stack = .ref a :: rest) (hd : decode c.code g.pc = .ok (.getfield index, 3))
    (k : ∀ T', Stand p l e R s m args below meth c T' locs cells slots → T'.heap = h → Ends p e below s cs ss Q (T'.setTop { g with pc := g.pc + 3, stack := v :: rest })) : Ends p e below s cs ss Q (T.setTop g) := by
  obtain ⟨T', X', e', st⟩ := Jvm.RoadKit.getF X hx hZ hown (host := "") (Or.inl w) Via.refl eT F hg hs hd
  exact (k T' X' e').step st
theorem Ends.putF (X : Stand p l e R s m args below meth c T locs cells slots) (hx : p.tables.exec = Jvm.exec) (hZ : Z.Warmed39 s.vm) {own O fn d : String} {index kk : Nat} {tf : FieldType} {old : Value} (hown : s.vm.findClass own = some m.cls) (w : (Jvm.Cond.fieldLink own index O fn d).before a0 Z = true) (eT : T.heap = h) (F : Fld Z h a O fn d old) (E : Exa Z h a O) (L : (Jvm.Cond.lays O O fn d).before a0 Z = true ∨ ((Jvm.Cond.laysFinal O O fn d).before a0 Z = true ∧ own = O ∧ meth.name = "<init>")) (wi : (Jvm.Cond.instantiable O kk).before a0 Z = true)
    (hty : parseFieldDescriptor d = some tf) (hn : narrow tf v = v) (hf : fits tf v = true) {n0 : Nat} (N : Fr n0 locs) (ge : n0 ≤ a) {g : JFrame} (hg : g.method = m) {rest : List Value} (hs : g.stack = v :: .ref a :: rest) (hd : decode c.code g.pc = .ok (.putfield index, 3))
    (k : ∀ T' h', Stand p l e R s m args below meth c T' (locs ++ [⟨a, Jvm.RoadKit.slotOf Z O fn d⟩]) cells slots → T'.heap = h' → Fr n0 (locs ++ [⟨a, Jvm.RoadKit.slotOf Z O fn d⟩]) → Wr h h' a (Jvm.RoadKit.slotOf Z O fn d) v → Ends p e below s cs ss Q (T'.setTop { g with pc := g.pc + 3, stack := rest })) : Ends p e below s cs ss Q (T.setTop g) := by
  obtain ⟨T', h', X', e', W, st⟩ := Jvm.RoadKit.putF X hx hZ hown (host := "") (Or.inl w) Via.refl eT F E L wi hty hn hf hg hs hd
  exact (k T' h' X' e' (Fr.snoc X' N ge) W).step st
theorem Ends.newO (X : Stand p l e R s m args below meth c T locs cells slots) (hx : p.tables.exec = Jvm.exec) (hZ : Z.Warmed39 s.vm) {own C : String} {index k : Nat} (hown : s.vm.findClass own = some m.cls) (w : (Jvm.Cond.classLink own index C).before a0 Z = true) (wi : (Jvm.Cond.instantiable C k).before a0 Z = true) (wz : (Jvm.Cond.initialized C).before a0 Z = true) (eT : T.heap = h)
    {g : JFrame} (hg : g.method = m) (hd : decode c.code g.pc = .ok (.new index, 3)) (hc : cells + 1 ≤ R.cells) (hl : slots + k ≤ R.slots)
    (kk : ∀ T' h' a, Stand p l e R s m args below meth c T' locs (cells + 1) (slots + k) → T'.heap = h' → Ext h h' → h.size = a → Exa Z h' a C → (∀ {O nm d : String} {ty : FieldType}, Laid Z a0 C O nm d → parseFieldDescriptor d = some ty → Fld Z h' a O nm d (defaultValue ty)) → Ends p e below s cs ss Q (T'.setTop { g with pc := g.pc + 3, stack := .ref a :: g.stack })) : Ends p e below s cs ss Q (T.setTop g) := by
  obtain ⟨T', h', X', e', E, A, D, -, st⟩ := Jvm.RoadKit.newO X hx hZ hown w wi wz eT hg hd hc hl
  exact (kk T' h' _ X' e' E rfl A D).step st
theorem Ends.initO (X : Stand p l e R s m args below meth c T locs cells slots) (hx : p.tables.exec = Jvm.exec) (hZ : Z.Warmed39 s.vm) {own : String} {idx : Nat} (hown : s.vm.findClass own = some m.cls) (w1 : (Jvm.Cond.methodLink own idx Lib.objectInit).before a0 Z = true) (w2 : (Jvm.Cond.instanceMethod Lib.objectInit).before a0 Z = true)
    (w3 : (Jvm.Cond.code Lib.objectInit ⟨#[0xb1]⟩ 1 none).before a0 Z = true) (eT : T.heap = h) {g : JFrame} (hg : g.method = m) (hsize : g.locals.size = c.maxLocals) {rest : List Value} (hs : g.stack = .ref a :: rest) (hd : decode c.code g.pc = .ok (.invokespecial idx, 3))
    (hf : 1 ≤ R.frames) (W : Nat) (hW : 2 * g.monitorRoom + (rest.map fun v => v.category).sum ≤ W) (hl : W + 12 ≤ R.locals)
    (k : ∀ T', Stand p l e R s m args below meth c T' locs cells slots → T'.heap = h → Ends p e below s cs ss Q (T'.setTop { g with pc := g.pc + 3, stack := rest })) : Ends p e below s cs ss Q (T.setTop g) := by
  obtain ⟨T', X', e', st⟩ := Jvm.RoadKit.initO X hx hZ hown w1 w2 w3 eT hg hsize hs hd hf hW hl
  exact (k T' X' e').step st
def OneS (o : Slot) : Prop := o = .unset ∨ ∃ w, o = .val w ∧ w.category = 1
theorem storeL {ls : Array Slot} {i : Nat} {x : Int64} {o o' : Slot} (h1 : ls[i]? = some o) (h2 : ls[i + 1]? = some o') (p1 : OneS o) (p2 : OneS o') : storeLocals ls i (.long x) = some ((ls.setIfInBounds i (.val (.long x))).setIfInBounds (i + 1) .second) := by
  have l1 : i < ls.size := (Array.getElem?_eq_some_iff.mp h1).1
  have l2 : i + 1 < ls.size := (Array.getElem?_eq_some_iff.mp h2).1
  have e2 : (ls.setIfInBounds i (.val (.long x)))[i + 1]? = some o' := by rw [Array.getElem?_setIfInBounds_ne (by omega)]; exact h2
  have q : storeSelf ls i (.long x) = some ((ls.setIfInBounds i (.val (.long x))).setIfInBounds (i + 1) .second) := by
    have cat : (Value.long x).category = 2 := rfl
    simp only [storeSelf, setAt, if_pos l1, cat, if_true, Option.bind_eq_bind, Option.bind_some, e2]
    rcases p2 with rfl | ⟨w, rfl, hw⟩
    · simp [l2]
    · simp [l2, hw]
  simp only [storeLocals, h1, Option.bind_eq_bind, Option.bind_some]
  rcases p1 with rfl | ⟨w, rfl, hw⟩
  · exact q
  · simp only [hw]; exact q
end OwnFrame
-- body 1
def F1_59 (t0 : Int32) : Int32 := (nar .boolean t0)
def F1_54  : Int32 := (F1_59 (1 : Int32))
def F1_58  : Int32 := (F1_59 (0 : Int32))
def F1_48 (x0 : Int32) : Int32 := if (1114111 : Int32) < x0 then F1_58 else F1_54
def F1_42 (x0 : Int32) : Int32 := if x0 < (65536 : Int32) then F1_58 else (F1_48 x0)
def F1_36 (x0 : Int32) : Int32 := if (65533 : Int32) < x0 then (F1_42 x0) else F1_54
def F1_30 (x0 : Int32) : Int32 := if x0 < (57344 : Int32) then (F1_42 x0) else (F1_36 x0)
def F1_24 (x0 : Int32) : Int32 := if (55295 : Int32) < x0 then (F1_30 x0) else F1_54
def F1_18 (x0 : Int32) : Int32 := if x0 < (32 : Int32) then (F1_30 x0) else (F1_24 x0)
def F1_12 (x0 : Int32) : Int32 := if x0 = (13 : Int32) then F1_54 else (F1_18 x0)
def F1_6 (x0 : Int32) : Int32 := if x0 = (10 : Int32) then F1_54 else (F1_12 x0)
def F1 (p0 : Int32) : Int32 := if p0 = (9 : Int32) then F1_54 else (F1_6 p0)
-- body 2
def F2_10  : Int32 := (nar .boolean (0 : Int32))
def F2_41 (t0 : Int32) : Int32 := (nar .boolean t0)
def F2_36  : Int32 := (F2_41 (1 : Int32))
def F2_40  : Int32 := (F2_41 (0 : Int32))
def F2_30 (x0 : Int32) : Int32 := if x0 = (13 : Int32) then F2_36 else F2_40
def F2_24 (x0 : Int32) : Int32 := if x0 = (10 : Int32) then F2_36 else (F2_30 x0)
def F2_18 (x0 : Int32) : Int32 := if x0 = (9 : Int32) then F2_36 else (F2_24 x0)
def F2_54  : Int32 := (nar .boolean (0 : Int32))
def F2_68  : Int32 := (nar .boolean (0 : Int32))
def F2_70  : Int32 := (nar .boolean (1 : Int32))
def F2_62 (x0 : Int32) : Int32 := if x0 = (65535 : Int32) then F2_68 else F2_70
def F2_56 (x0 : Int32) : Int32 := if x0 = (65534 : Int32) then F2_68 else (F2_62 x0)
def F2_48 (x0 : Int32) : Int32 := if (57343 : Int32) < x0 then (F2_56 x0) else F2_54
def F2_42 (x0 : Int32) : Int32 := if x0 < (55296 : Int32) then (F2_56 x0) else (F2_48 x0)
def F2_12 (x0 : Int32) : Int32 := if x0 < (32 : Int32) then (F2_18 x0) else (F2_42 x0)
def F2_4 (x0 : Int32) : Int32 := if (1114111 : Int32) < x0 then F2_10 else (F2_12 x0)
def F2 (p0 : Int32) : Int32 := if p0 < 0 then F2_10 else (F2_4 p0)
-- body 0
def F0_164 (t0 : Int32) : Int32 := (nar .boolean t0)
def F0_159  : Int32 := (F0_164 (1 : Int32))
def F0_163  : Int32 := (F0_164 (0 : Int32))
def F0_154 (x6 : Int32) : Int32 := if x6 = 0 then F0_163 else F0_159
def F0_147 (x5 : Int32) (t0 : Int32) : Int32 := if x5 = 0 then F0_163 else (F0_154 t0)
def F0_142 (x5 : Int32) : Int32 := (F0_147 x5 (1 : Int32))
def F0_146 (x5 : Int32) : Int32 := (F0_147 x5 (0 : Int32))
def F0_127 (x4 : Int32) (t0 : Int32) : Int32 := if (F1 x4) = (F2 x4) then (F0_142 t0) else (F0_146 t0)
def F0_122 (x4 : Int32) : Int32 := (F0_127 x4 (1 : Int32))
def F0_126 (x4 : Int32) : Int32 := (F0_127 x4 (0 : Int32))
def F0_111 (x0 : Int32) (x4 : Int32) : Int32 := if (F1 x0) = (F2 x0) then (F0_122 x4) else (F0_126 x4)
def F0_94 (cf_q2 : Nat → Int32) (x0 : Int32) (x1 : Int32) (x2 : Int32) : Int32 := (F0_111 x0 (((cf_q2 ((x1 &&& (15 : Int32))).toNatClampNeg) + ((x2 &&& (2147483647 : Int32)) % (5 : Int32))) - (2 : Int32)))
def O0_94 (cf_q2 : Nat → Int32) (x0 : Int32) (x1 : Int32) (x2 : Int32) : Prop := (inb (x1 &&& (15 : Int32)) 16) ∧ True
def F0 (p0 : Int32) (p1 : Int32) (p2 : Int32) : Int32 := (F0_94 (upd (upd (upd (upd (upd (upd (upd (upd (upd (upd (upd (upd (upd (upd (upd (upd (fun _ => 0) 0 (9 : Int32)) 1 (13 : Int32)) 2 (32 : Int32)) 3 (55295 : Int32)) 4 (55296 : Int32)) 5 (57343 : Int32)) 6 (57344 : Int32)) 7 (65533 : Int32)) 8 (65535 : Int32)) 9 (65536 : Int32)) 10 (1114111 : Int32)) 11 (1114112 : Int32)) 12 (-2147483646 : Int32)) 13 (2147483645 : Int32)) 14 (0 : Int32)) 15 (127 : Int32)) p0 p1 p2)
def O0 (p0 : Int32) (p1 : Int32) (p2 : Int32) : Prop := (O0_94 (upd (upd (upd (upd (upd (upd (upd (upd (upd (upd (upd (upd (upd (upd (upd (upd (fun _ => 0) 0 (9 : Int32)) 1 (13 : Int32)) 2 (32 : Int32)) 3 (55295 : Int32)) 4 (55296 : Int32)) 5 (57343 : Int32)) 6 (57344 : Int32)) 7 (65533 : Int32)) 8 (65535 : Int32)) 9 (65536 : Int32)) 10 (1114111 : Int32)) 11 (1114112 : Int32)) 12 (-2147483646 : Int32)) 13 (2147483645 : Int32)) 14 (0 : Int32)) 15 (127 : Int32)) p0 p1 p2)
theorem pd_0 : parseMethodDescriptor "(I)Z" = some ⟨[.int], (some .boolean)⟩ := by decide +kernel
theorem d1_0 : decode prog_24_method_12_code 0 = .ok (.iload_n 0, 1) := by decide +kernel
theorem d1_1 : decode prog_24_method_12_code 1 = .ok (.bipush 9, 2) := by decide +kernel
theorem d1_3 : decode prog_24_method_12_code 3 = .ok (.if_icmp .eq 51, 3) := by decide +kernel
theorem d1_6 : decode prog_24_method_12_code 6 = .ok (.iload_n 0, 1) := by decide +kernel
theorem d1_7 : decode prog_24_method_12_code 7 = .ok (.bipush 10, 2) := by decide +kernel
theorem d1_9 : decode prog_24_method_12_code 9 = .ok (.if_icmp .eq 45, 3) := by decide +kernel
theorem d1_12 : decode prog_24_method_12_code 12 = .ok (.iload_n 0, 1) := by decide +kernel
theorem d1_13 : decode prog_24_method_12_code 13 = .ok (.bipush 13, 2) := by decide +kernel
theorem d1_15 : decode prog_24_method_12_code 15 = .ok (.if_icmp .eq 39, 3) := by decide +kernel
theorem d1_18 : decode prog_24_method_12_code 18 = .ok (.iload_n 0, 1) := by decide +kernel
theorem d1_19 : decode prog_24_method_12_code 19 = .ok (.bipush 32, 2) := by decide +kernel
theorem d1_21 : decode prog_24_method_12_code 21 = .ok (.if_icmp .lt 9, 3) := by decide +kernel
theorem d1_24 : decode prog_24_method_12_code 24 = .ok (.iload_n 0, 1) := by decide +kernel
theorem d1_25 : decode prog_24_method_12_code 25 = .ok (.ldc 41, 2) := by decide +kernel
theorem d1_27 : decode prog_24_method_12_code 27 = .ok (.if_icmp .le 27, 3) := by decide +kernel
theorem d1_30 : decode prog_24_method_12_code 30 = .ok (.iload_n 0, 1) := by decide +kernel
theorem d1_31 : decode prog_24_method_12_code 31 = .ok (.ldc 101, 2) := by decide +kernel
theorem d1_33 : decode prog_24_method_12_code 33 = .ok (.if_icmp .lt 9, 3) := by decide +kernel
theorem d1_36 : decode prog_24_method_12_code 36 = .ok (.iload_n 0, 1) := by decide +kernel
theorem d1_37 : decode prog_24_method_12_code 37 = .ok (.ldc 45, 2) := by decide +kernel
theorem d1_39 : decode prog_24_method_12_code 39 = .ok (.if_icmp .le 15, 3) := by decide +kernel
theorem d1_42 : decode prog_24_method_12_code 42 = .ok (.iload_n 0, 1) := by decide +kernel
theorem d1_43 : decode prog_24_method_12_code 43 = .ok (.ldc 46, 2) := by decide +kernel
theorem d1_45 : decode prog_24_method_12_code 45 = .ok (.if_icmp .lt 13, 3) := by decide +kernel
theorem d1_48 : decode prog_24_method_12_code 48 = .ok (.iload_n 0, 1) := by decide +kernel
theorem d1_49 : decode prog_24_method_12_code 49 = .ok (.ldc 102, 2) := by decide +kernel
theorem d1_51 : decode prog_24_method_12_code 51 = .ok (.if_icmp .gt 7, 3) := by decide +kernel
theorem d1_54 : decode prog_24_method_12_code 54 = .ok (.iconst 1, 1) := by decide +kernel
theorem d1_55 : decode prog_24_method_12_code 55 = .ok (.goto 4, 3) := by decide +kernel
theorem d1_58 : decode prog_24_method_12_code 58 = .ok (.iconst 0, 1) := by decide +kernel
theorem d1_59 : decode prog_24_method_12_code 59 = .ok (.ireturn, 1) := by decide +kernel
theorem pn_1 : plainFor (⟨"com/example/kuopio/kuopio/XmlChars", "isXmlChar", "(I)Z"⟩ : MethodName) = true := by first | exact plainFor_of_name (by first | (simp [plainName, overriddenIn]; done) | decide +kernel) | decide +kernel
theorem ef_1 (m : MethodId) (y0 : Int32) : entryFrame m #[(.int y0)] 1 = mkF m 0 #[.val (.int y0)] [] := by first | (simp [entryFrame, mkF, argsToLocals, Value.category]; done) | rfl
def Q1 (Z : State)   (h0 : Heap) (n0 : Nat) (ans : Int32) (v : Option Value) (h : Heap) (L : List Loc) : Prop := v = some (.int ans) ∧ Fr n0 L ∧ h = h0
set_option maxRecDepth 65536 in
set_option maxHeartbeats 40000000 in
theorem rm1 (l : Launch) (Z : State) (a0 : Array Value) (hw : ∀ d ∈ tables_1, d.before a0 Z = true) (p0 : Int32)  (h0 : Heap) (n0 : Nat) (Z0 : n0 ≤ h0.size)  :
    Meets l Z (⟨"com/example/kuopio/kuopio/XmlChars", "isXmlChar", "(I)Z"⟩ : MethodName) prog_24_method_12_code 1 (some .boolean) [] ({ frames := 0, cells := 0, slots := 0, locals := 0 } : Room) #[(.int p0)] h0 (Q1 Z  h0 n0 (F1 p0)) 0 0 := by
  refine Meets.of pn_1 ?_
  intro p e s m below meth c s₁ hx hby hml hZ hown hnm hret hlk X0 e0
  have hml : c.maxLocals = 1 := hml
  have hown : s.vm.findClass "com/example/kuopio/kuopio/XmlChars" = some m.cls := hown
  have N0 := Fr.nil n0
  have b59 : ∀ (T : State) (L : List Loc) (X : Stand p l e ({ frames := 0, cells := 0, slots := 0, locals := 0 } : Room) s m #[(.int p0)] below meth c T L 0 0) (eT : T.heap = h0) (N : Fr n0 L) (t0 : Int32) (d0 : Slot) (od0 : OneS d0), Ends p e below s 0 0 (Q1 Z  h0 n0 (F1_59 t0)) (T.setTop (mkF m 59 #[d0] [(.int t0)])) := by
    intro T L X eT N t0 d0 od0
    exact Ends.ret X (v := some (.int (nar .boolean t0))) (fun q => by rw [hret] at q; cases q) hlk (fun fs hr => retN X hx (t := .boolean) hret (by simp) (hb hby d1_59) hr) (by decide) (by decide) ⟨rfl, N, eT⟩
  have b54 : ∀ (T : State) (L : List Loc) (X : Stand p l e ({ frames := 0, cells := 0, slots := 0, locals := 0 } : Room) s m #[(.int p0)] below meth c T L 0 0) (eT : T.heap = h0) (N : Fr n0 L) (d0 : Slot) (od0 : OneS d0), Ends p e below s 0 0 (Q1 Z  h0 n0 F1_54) (T.setTop (mkF m 54 #[d0] [])) := by
    intro T L X eT N d0 od0
    refine Ends.step (u' := (T.setTop (mkF m 55 #[d0] [(.int (1 : Int32))]))) ?_ (fun _ k => XT.iconstV X.here hx rfl (1 : Int32) (hb hby d1_54) rfl k)
    refine Ends.step (u' := (T.setTop (mkF m 59 #[d0] [(.int (1 : Int32))]))) ?_ (fun _ k => XS.goto X.here hx rfl (pc0 := 55) (pc' := 59) rfl (hb hby d1_55) (by decide) (by decide) k)
    exact b59 T _ X eT N (1 : Int32) (d0) od0
  have b58 : ∀ (T : State) (L : List Loc) (X : Stand p l e ({ frames := 0, cells := 0, slots := 0, locals := 0 } : Room) s m #[(.int p0)] below meth c T L 0 0) (eT : T.heap = h0) (N : Fr n0 L) (d0 : Slot) (od0 : OneS d0), Ends p e below s 0 0 (Q1 Z  h0 n0 F1_58) (T.setTop (mkF m 58 #[d0] [])) := by
    intro T L X eT N d0 od0
    refine Ends.step (u' := (T.setTop (mkF m 59 #[d0] [(.int (0 : Int32))]))) ?_ (fun _ k => XT.iconstV X.here hx rfl (0 : Int32) (hb hby d1_58) rfl k)
    exact b59 T _ X eT N (0 : Int32) (d0) od0
  have b48 : ∀ (T : State) (L : List Loc) (X : Stand p l e ({ frames := 0, cells := 0, slots := 0, locals := 0 } : Room) s m #[(.int p0)] below meth c T L 0 0) (eT : T.heap = h0) (N : Fr n0 L) (x0 : Int32), Ends p e below s 0 0 (Q1 Z  h0 n0 (F1_48 x0)) (T.setTop (mkF m 48 #[.val (.int x0)] [])) := by
    intro T L X eT N x0
    refine Ends.step (u' := (T.setTop (mkF m 49 #[.val (.int x0)] [(.int x0)]))) ?_ (fun _ k => XS.iloadN X.here hx rfl (hb hby d1_48) rfl k)
    refine Ends.step (u' := (T.setTop (mkF m 51 #[.val (.int x0)] [(.int (1114111 : Int32)), (.int x0)]))) ?_ (fun _ k => X.ldcI hx hown (mvT hZ (hw _ (List.mem_of_getElem? (i := 26) rfl))) rfl (hb hby d1_49) k)
    by_cases hc51 : (1114111 : Int32) < x0
    · refine Eq.mp (congrArg (fun z => Ends p e below s 0 0 (Q1 Z  h0 n0 z) (T.setTop (mkF m 51 #[.val (.int x0)] [(.int (1114111 : Int32)), (.int x0)]))) (show (F1_48 x0) = F1_58 from (if_pos hc51)).symm) ?_
      refine Ends.step (u' := (T.setTop (mkF m 58 #[.val (.int x0)] []))) ?_ (fun _ k => XS.icmpYes X.here hx rfl (pc0 := 51) (pc' := 58) rfl (hb hby d1_51) rfl (XT.ii_gt_t hc51) (by decide) (by decide) k)
      exact b58 T _ X eT N (.val (.int x0)) (Or.inr ⟨_, rfl, rfl⟩)
    · refine Eq.mp (congrArg (fun z => Ends p e below s 0 0 (Q1 Z  h0 n0 z) (T.setTop (mkF m 51 #[.val (.int x0)] [(.int (1114111 : Int32)), (.int x0)]))) (show (F1_48 x0) = F1_54 from (if_neg hc51)).symm) ?_
      refine Ends.step (u' := (T.setTop (mkF m 54 #[.val (.int x0)] []))) ?_ (fun _ k => XS.icmpNo X.here hx rfl (hb hby d1_51) rfl (XT.ii_gt_f hc51) k)
      exact b54 T _ X eT N (.val (.int x0)) (Or.inr ⟨_, rfl, rfl⟩)
  have b42 : ∀ (T : State) (L : List Loc) (X : Stand p l e ({ frames := 0, cells := 0, slots := 0, locals := 0 } : Room) s m #[(.int p0)] below meth c T L 0 0) (eT : T.heap = h0) (N : Fr n0 L) (x0 : Int32), Ends p e below s 0 0 (Q1 Z  h0 n0 (F1_42 x0)) (T.setTop (mkF m 42 #[.val (.int x0)] [])) := by
    intro T L X eT N x0
    refine Ends.step (u' := (T.setTop (mkF m 43 #[.val (.int x0)] [(.int x0)]))) ?_ (fun _ k => XS.iloadN X.here hx rfl (hb hby d1_42) rfl k)
    refine Ends.step (u' := (T.setTop (mkF m 45 #[.val (.int x0)] [(.int (65536 : Int32)), (.int x0)]))) ?_ (fun _ k => X.ldcI hx hown (mvT hZ (hw _ (List.mem_of_getElem? (i := 18) rfl))) rfl (hb hby d1_43) k)
    by_cases hc45 : x0 < (65536 : Int32)
    · refine Eq.mp (congrArg (fun z => Ends p e below s 0 0 (Q1 Z  h0 n0 z) (T.setTop (mkF m 45 #[.val (.int x0)] [(.int (65536 : Int32)), (.int x0)]))) (show (F1_42 x0) = F1_58 from (if_pos hc45)).symm) ?_
      refine Ends.step (u' := (T.setTop (mkF m 58 #[.val (.int x0)] []))) ?_ (fun _ k => XS.icmpYes X.here hx rfl (pc0 := 45) (pc' := 58) rfl (hb hby d1_45) rfl (XT.ii_lt_t hc45) (by decide) (by decide) k)
      exact b58 T _ X eT N (.val (.int x0)) (Or.inr ⟨_, rfl, rfl⟩)
    · refine Eq.mp (congrArg (fun z => Ends p e below s 0 0 (Q1 Z  h0 n0 z) (T.setTop (mkF m 45 #[.val (.int x0)] [(.int (65536 : Int32)), (.int x0)]))) (show (F1_42 x0) = (F1_48 x0) from (if_neg hc45)).symm) ?_
      refine Ends.step (u' := (T.setTop (mkF m 48 #[.val (.int x0)] []))) ?_ (fun _ k => XS.icmpNo X.here hx rfl (hb hby d1_45) rfl (XT.ii_lt_f hc45) k)
      exact b48 T _ X eT N x0
  have b36 : ∀ (T : State) (L : List Loc) (X : Stand p l e ({ frames := 0, cells := 0, slots := 0, locals := 0 } : Room) s m #[(.int p0)] below meth c T L 0 0) (eT : T.heap = h0) (N : Fr n0 L) (x0 : Int32), Ends p e below s 0 0 (Q1 Z  h0 n0 (F1_36 x0)) (T.setTop (mkF m 36 #[.val (.int x0)] [])) := by
    intro T L X eT N x0
    refine Ends.step (u' := (T.setTop (mkF m 37 #[.val (.int x0)] [(.int x0)]))) ?_ (fun _ k => XS.iloadN X.here hx rfl (hb hby d1_36) rfl k)
    refine Ends.step (u' := (T.setTop (mkF m 39 #[.val (.int x0)] [(.int (65533 : Int32)), (.int x0)]))) ?_ (fun _ k => X.ldcI hx hown (mvT hZ (hw _ (List.mem_of_getElem? (i := 25) rfl))) rfl (hb hby d1_37) k)
    by_cases hc39 : (65533 : Int32) < x0
    · refine Eq.mp (congrArg (fun z => Ends p e below s 0 0 (Q1 Z  h0 n0 z) (T.setTop (mkF m 39 #[.val (.int x0)] [(.int (65533 : Int32)), (.int x0)]))) (show (F1_36 x0) = (F1_42 x0) from (if_pos hc39)).symm) ?_
      refine Ends.step (u' := (T.setTop (mkF m 42 #[.val (.int x0)] []))) ?_ (fun _ k => XS.icmpNo X.here hx rfl (hb hby d1_39) rfl (XT.ii_le_f hc39) k)
      exact b42 T _ X eT N x0
    · refine Eq.mp (congrArg (fun z => Ends p e below s 0 0 (Q1 Z  h0 n0 z) (T.setTop (mkF m 39 #[.val (.int x0)] [(.int (65533 : Int32)), (.int x0)]))) (show (F1_36 x0) = F1_54 from (if_neg hc39)).symm) ?_
      refine Ends.step (u' := (T.setTop (mkF m 54 #[.val (.int x0)] []))) ?_ (fun _ k => XS.icmpYes X.here hx rfl (pc0 := 39) (pc' := 54) rfl (hb hby d1_39) rfl (XT.ii_le_t hc39) (by decide) (by decide) k)
      exact b54 T _ X eT N (.val (.int x0)) (Or.inr ⟨_, rfl, rfl⟩)
  have b30 : ∀ (T : State) (L : List Loc) (X : Stand p l e ({ frames := 0, cells := 0, slots := 0, locals := 0 } : Room) s m #[(.int p0)] below meth c T L 0 0) (eT : T.heap = h0) (N : Fr n0 L) (x0 : Int32), Ends p e below s 0 0 (Q1 Z  h0 n0 (F1_30 x0)) (T.setTop (mkF m 30 #[.val (.int x0)] [])) := by
    intro T L X eT N x0
    refine Ends.step (u' := (T.setTop (mkF m 31 #[.val (.int x0)] [(.int x0)]))) ?_ (fun _ k => XS.iloadN X.here hx rfl (hb hby d1_30) rfl k)
    refine Ends.step (u' := (T.setTop (mkF m 33 #[.val (.int x0)] [(.int (57344 : Int32)), (.int x0)]))) ?_ (fun _ k => X.ldcI hx hown (mvT hZ (hw _ (List.mem_of_getElem? (i := 17) rfl))) rfl (hb hby d1_31) k)
    by_cases hc33 : x0 < (57344 : Int32)
    · refine Eq.mp (congrArg (fun z => Ends p e below s 0 0 (Q1 Z  h0 n0 z) (T.setTop (mkF m 33 #[.val (.int x0)] [(.int (57344 : Int32)), (.int x0)]))) (show (F1_30 x0) = (F1_42 x0) from (if_pos hc33)).symm) ?_
      refine Ends.step (u' := (T.setTop (mkF m 42 #[.val (.int x0)] []))) ?_ (fun _ k => XS.icmpYes X.here hx rfl (pc0 := 33) (pc' := 42) rfl (hb hby d1_33) rfl (XT.ii_lt_t hc33) (by decide) (by decide) k)
      exact b42 T _ X eT N x0
    · refine Eq.mp (congrArg (fun z => Ends p e below s 0 0 (Q1 Z  h0 n0 z) (T.setTop (mkF m 33 #[.val (.int x0)] [(.int (57344 : Int32)), (.int x0)]))) (show (F1_30 x0) = (F1_36 x0) from (if_neg hc33)).symm) ?_
      refine Ends.step (u' := (T.setTop (mkF m 36 #[.val (.int x0)] []))) ?_ (fun _ k => XS.icmpNo X.here hx rfl (hb hby d1_33) rfl (XT.ii_lt_f hc33) k)
      exact b36 T _ X eT N x0
  have b24 : ∀ (T : State) (L : List Loc) (X : Stand p l e ({ frames := 0, cells := 0, slots := 0, locals := 0 } : Room) s m #[(.int p0)] below meth c T L 0 0) (eT : T.heap = h0) (N : Fr n0 L) (x0 : Int32), Ends p e below s 0 0 (Q1 Z  h0 n0 (F1_24 x0)) (T.setTop (mkF m 24 #[.val (.int x0)] [])) := by
    intro T L X eT N x0
    refine Ends.step (u' := (T.setTop (mkF m 25 #[.val (.int x0)] [(.int x0)]))) ?_ (fun _ k => XS.iloadN X.here hx rfl (hb hby d1_24) rfl k)
    refine Ends.step (u' := (T.setTop (mkF m 27 #[.val (.int x0)] [(.int (55295 : Int32)), (.int x0)]))) ?_ (fun _ k => X.ldcI hx hown (mvT hZ (hw _ (List.mem_of_getElem? (i := 23) rfl))) rfl (hb hby d1_25) k)
    by_cases hc27 : (55295 : Int32) < x0
    · refine Eq.mp (congrArg (fun z => Ends p e below s 0 0 (Q1 Z  h0 n0 z) (T.setTop (mkF m 27 #[.val (.int x0)] [(.int (55295 : Int32)), (.int x0)]))) (show (F1_24 x0) = (F1_30 x0) from (if_pos hc27)).symm) ?_
      refine Ends.step (u' := (T.setTop (mkF m 30 #[.val (.int x0)] []))) ?_ (fun _ k => XS.icmpNo X.here hx rfl (hb hby d1_27) rfl (XT.ii_le_f hc27) k)
      exact b30 T _ X eT N x0
    · refine Eq.mp (congrArg (fun z => Ends p e below s 0 0 (Q1 Z  h0 n0 z) (T.setTop (mkF m 27 #[.val (.int x0)] [(.int (55295 : Int32)), (.int x0)]))) (show (F1_24 x0) = F1_54 from (if_neg hc27)).symm) ?_
      refine Ends.step (u' := (T.setTop (mkF m 54 #[.val (.int x0)] []))) ?_ (fun _ k => XS.icmpYes X.here hx rfl (pc0 := 27) (pc' := 54) rfl (hb hby d1_27) rfl (XT.ii_le_t hc27) (by decide) (by decide) k)
      exact b54 T _ X eT N (.val (.int x0)) (Or.inr ⟨_, rfl, rfl⟩)
  have b18 : ∀ (T : State) (L : List Loc) (X : Stand p l e ({ frames := 0, cells := 0, slots := 0, locals := 0 } : Room) s m #[(.int p0)] below meth c T L 0 0) (eT : T.heap = h0) (N : Fr n0 L) (x0 : Int32), Ends p e below s 0 0 (Q1 Z  h0 n0 (F1_18 x0)) (T.setTop (mkF m 18 #[.val (.int x0)] [])) := by
    intro T L X eT N x0
    refine Ends.step (u' := (T.setTop (mkF m 19 #[.val (.int x0)] [(.int x0)]))) ?_ (fun _ k => XS.iloadN X.here hx rfl (hb hby d1_18) rfl k)
    refine Ends.step (u' := (T.setTop (mkF m 21 #[.val (.int x0)] [(.int (32 : Int32)), (.int x0)]))) ?_ (fun _ k => XT.bipushV X.here hx rfl (32 : Int32) (hb hby d1_19) rfl k)
    by_cases hc21 : x0 < (32 : Int32)
    · refine Eq.mp (congrArg (fun z => Ends p e below s 0 0 (Q1 Z  h0 n0 z) (T.setTop (mkF m 21 #[.val (.int x0)] [(.int (32 : Int32)), (.int x0)]))) (show (F1_18 x0) = (F1_30 x0) from (if_pos hc21)).symm) ?_
      refine Ends.step (u' := (T.setTop (mkF m 30 #[.val (.int x0)] []))) ?_ (fun _ k => XS.icmpYes X.here hx rfl (pc0 := 21) (pc' := 30) rfl (hb hby d1_21) rfl (XT.ii_lt_t hc21) (by decide) (by decide) k)
      exact b30 T _ X eT N x0
    · refine Eq.mp (congrArg (fun z => Ends p e below s 0 0 (Q1 Z  h0 n0 z) (T.setTop (mkF m 21 #[.val (.int x0)] [(.int (32 : Int32)), (.int x0)]))) (show (F1_18 x0) = (F1_24 x0) from (if_neg hc21)).symm) ?_
      refine Ends.step (u' := (T.setTop (mkF m 24 #[.val (.int x0)] []))) ?_ (fun _ k => XS.icmpNo X.here hx rfl (hb hby d1_21) rfl (XT.ii_lt_f hc21) k)
      exact b24 T _ X eT N x0
  have b12 : ∀ (T : State) (L : List Loc) (X : Stand p l e ({ frames := 0, cells := 0, slots := 0, locals := 0 } : Room) s m #[(.int p0)] below meth c T L 0 0) (eT : T.heap = h0) (N : Fr n0 L) (x0 : Int32), Ends p e below s 0 0 (Q1 Z  h0 n0 (F1_12 x0)) (T.setTop (mkF m 12 #[.val (.int x0)] [])) := by
    intro T L X eT N x0
    refine Ends.step (u' := (T.setTop (mkF m 13 #[.val (.int x0)] [(.int x0)]))) ?_ (fun _ k => XS.iloadN X.here hx rfl (hb hby d1_12) rfl k)
    refine Ends.step (u' := (T.setTop (mkF m 15 #[.val (.int x0)] [(.int (13 : Int32)), (.int x0)]))) ?_ (fun _ k => XT.bipushV X.here hx rfl (13 : Int32) (hb hby d1_13) rfl k)
    by_cases hc15 : x0 = (13 : Int32)
    · refine Eq.mp (congrArg (fun z => Ends p e below s 0 0 (Q1 Z  h0 n0 z) (T.setTop (mkF m 15 #[.val (.int x0)] [(.int (13 : Int32)), (.int x0)]))) (show (F1_12 x0) = F1_54 from (if_pos hc15)).symm) ?_
      refine Ends.step (u' := (T.setTop (mkF m 54 #[.val (.int x0)] []))) ?_ (fun _ k => XS.icmpYes X.here hx rfl (pc0 := 15) (pc' := 54) rfl (hb hby d1_15) rfl (XT.ii_eq_t hc15) (by decide) (by decide) k)
      exact b54 T _ X eT N (.val (.int x0)) (Or.inr ⟨_, rfl, rfl⟩)
    · refine Eq.mp (congrArg (fun z => Ends p e below s 0 0 (Q1 Z  h0 n0 z) (T.setTop (mkF m 15 #[.val (.int x0)] [(.int (13 : Int32)), (.int x0)]))) (show (F1_12 x0) = (F1_18 x0) from (if_neg hc15)).symm) ?_
      refine Ends.step (u' := (T.setTop (mkF m 18 #[.val (.int x0)] []))) ?_ (fun _ k => XS.icmpNo X.here hx rfl (hb hby d1_15) rfl (XT.ii_eq_f hc15) k)
      exact b18 T _ X eT N x0
  have b6 : ∀ (T : State) (L : List Loc) (X : Stand p l e ({ frames := 0, cells := 0, slots := 0, locals := 0 } : Room) s m #[(.int p0)] below meth c T L 0 0) (eT : T.heap = h0) (N : Fr n0 L) (x0 : Int32), Ends p e below s 0 0 (Q1 Z  h0 n0 (F1_6 x0)) (T.setTop (mkF m 6 #[.val (.int x0)] [])) := by
    intro T L X eT N x0
    refine Ends.step (u' := (T.setTop (mkF m 7 #[.val (.int x0)] [(.int x0)]))) ?_ (fun _ k => XS.iloadN X.here hx rfl (hb hby d1_6) rfl k)
    refine Ends.step (u' := (T.setTop (mkF m 9 #[.val (.int x0)] [(.int (10 : Int32)), (.int x0)]))) ?_ (fun _ k => XT.bipushV X.here hx rfl (10 : Int32) (hb hby d1_7) rfl k)
    by_cases hc9 : x0 = (10 : Int32)
    · refine Eq.mp (congrArg (fun z => Ends p e below s 0 0 (Q1 Z  h0 n0 z) (T.setTop (mkF m 9 #[.val (.int x0)] [(.int (10 : Int32)), (.int x0)]))) (show (F1_6 x0) = F1_54 from (if_pos hc9)).symm) ?_
      refine Ends.step (u' := (T.setTop (mkF m 54 #[.val (.int x0)] []))) ?_ (fun _ k => XS.icmpYes X.here hx rfl (pc0 := 9) (pc' := 54) rfl (hb hby d1_9) rfl (XT.ii_eq_t hc9) (by decide) (by decide) k)
      exact b54 T _ X eT N (.val (.int x0)) (Or.inr ⟨_, rfl, rfl⟩)
    · refine Eq.mp (congrArg (fun z => Ends p e below s 0 0 (Q1 Z  h0 n0 z) (T.setTop (mkF m 9 #[.val (.int x0)] [(.int (10 : Int32)), (.int x0)]))) (show (F1_6 x0) = (F1_12 x0) from (if_neg hc9)).symm) ?_
      refine Ends.step (u' := (T.setTop (mkF m 12 #[.val (.int x0)] []))) ?_ (fun _ k => XS.icmpNo X.here hx rfl (hb hby d1_9) rfl (XT.ii_eq_f hc9) k)
      exact b12 T _ X eT N x0
  refine Ends.step (u' := (s₁.setTop (mkF m 0 #[.val (.int p0)] []))) ?_ (fun _ k => castTop (ef_1 m p0) k)
  refine Ends.step (u' := (s₁.setTop (mkF m 1 #[.val (.int p0)] [(.int p0)]))) ?_ (fun _ k => XS.iloadN X0.here hx rfl (hb hby d1_0) rfl k)
  refine Ends.step (u' := (s₁.setTop (mkF m 3 #[.val (.int p0)] [(.int (9 : Int32)), (.int p0)]))) ?_ (fun _ k => XT.bipushV X0.here hx rfl (9 : Int32) (hb hby d1_1) rfl k)
  by_cases hc3 : p0 = (9 : Int32)
  · refine Eq.mp (congrArg (fun z => Ends p e below s 0 0 (Q1 Z  h0 n0 z) (s₁.setTop (mkF m 3 #[.val (.int p0)] [(.int (9 : Int32)), (.int p0)]))) (show (F1 p0) = F1_54 from (if_pos hc3)).symm) ?_
    refine Ends.step (u' := (s₁.setTop (mkF m 54 #[.val (.int p0)] []))) ?_ (fun _ k => XS.icmpYes X0.here hx rfl (pc0 := 3) (pc' := 54) rfl (hb hby d1_3) rfl (XT.ii_eq_t hc3) (by decide) (by decide) k)
    exact b54 s₁ _ X0 e0 N0 (.val (.int p0)) (Or.inr ⟨_, rfl, rfl⟩)
  · refine Eq.mp (congrArg (fun z => Ends p e below s 0 0 (Q1 Z  h0 n0 z) (s₁.setTop (mkF m 3 #[.val (.int p0)] [(.int (9 : Int32)), (.int p0)]))) (show (F1 p0) = (F1_6 p0) from (if_neg hc3)).symm) ?_
    refine Ends.step (u' := (s₁.setTop (mkF m 6 #[.val (.int p0)] []))) ?_ (fun _ k => XS.icmpNo X0.here hx rfl (hb hby d1_3) rfl (XT.ii_eq_f hc3) k)
    exact b6 s₁ _ X0 e0 N0 p0
theorem d2_0 : decode method_2_code 0 = .ok (.iload_n 0, 1) := by decide +kernel
theorem d2_1 : decode method_2_code 1 = .ok (.ifCond .lt 9, 3) := by decide +kernel
theorem d2_4 : decode method_2_code 4 = .ok (.iload_n 0, 1) := by decide +kernel
theorem d2_5 : decode method_2_code 5 = .ok (.ldc 7, 2) := by decide +kernel
theorem d2_7 : decode method_2_code 7 = .ok (.if_icmp .le 5, 3) := by decide +kernel
theorem d2_10 : decode method_2_code 10 = .ok (.iconst 0, 1) := by decide +kernel
theorem d2_11 : decode method_2_code 11 = .ok (.ireturn, 1) := by decide +kernel
theorem d2_12 : decode method_2_code 12 = .ok (.iload_n 0, 1) := by decide +kernel
theorem d2_13 : decode method_2_code 13 = .ok (.bipush 32, 2) := by decide +kernel
theorem d2_15 : decode method_2_code 15 = .ok (.if_icmp .ge 27, 3) := by decide +kernel
theorem d2_18 : decode method_2_code 18 = .ok (.iload_n 0, 1) := by decide +kernel
theorem d2_19 : decode method_2_code 19 = .ok (.bipush 9, 2) := by decide +kernel
theorem d2_21 : decode method_2_code 21 = .ok (.if_icmp .eq 15, 3) := by decide +kernel
theorem d2_24 : decode method_2_code 24 = .ok (.iload_n 0, 1) := by decide +kernel
theorem d2_25 : decode method_2_code 25 = .ok (.bipush 10, 2) := by decide +kernel
theorem d2_27 : decode method_2_code 27 = .ok (.if_icmp .eq 9, 3) := by decide +kernel
theorem d2_30 : decode method_2_code 30 = .ok (.iload_n 0, 1) := by decide +kernel
theorem d2_31 : decode method_2_code 31 = .ok (.bipush 13, 2) := by decide +kernel
theorem d2_33 : decode method_2_code 33 = .ok (.if_icmp .ne 7, 3) := by decide +kernel
theorem d2_36 : decode method_2_code 36 = .ok (.iconst 1, 1) := by decide +kernel
theorem d2_37 : decode method_2_code 37 = .ok (.goto 4, 3) := by decide +kernel
theorem d2_40 : decode method_2_code 40 = .ok (.iconst 0, 1) := by decide +kernel
theorem d2_41 : decode method_2_code 41 = .ok (.ireturn, 1) := by decide +kernel
theorem d2_42 : decode method_2_code 42 = .ok (.iload_n 0, 1) := by decide +kernel
theorem d2_43 : decode method_2_code 43 = .ok (.ldc 8, 2) := by decide +kernel
theorem d2_45 : decode method_2_code 45 = .ok (.if_icmp .lt 11, 3) := by decide +kernel
theorem d2_48 : decode method_2_code 48 = .ok (.iload_n 0, 1) := by decide +kernel
theorem d2_49 : decode method_2_code 49 = .ok (.ldc 9, 2) := by decide +kernel
theorem d2_51 : decode method_2_code 51 = .ok (.if_icmp .gt 5, 3) := by decide +kernel
theorem d2_54 : decode method_2_code 54 = .ok (.iconst 0, 1) := by decide +kernel
theorem d2_55 : decode method_2_code 55 = .ok (.ireturn, 1) := by decide +kernel
theorem d2_56 : decode method_2_code 56 = .ok (.iload_n 0, 1) := by decide +kernel
theorem d2_57 : decode method_2_code 57 = .ok (.ldc 10, 2) := by decide +kernel
theorem d2_59 : decode method_2_code 59 = .ok (.if_icmp .eq 9, 3) := by decide +kernel
theorem d2_62 : decode method_2_code 62 = .ok (.iload_n 0, 1) := by decide +kernel
theorem d2_63 : decode method_2_code 63 = .ok (.ldc 11, 2) := by decide +kernel
theorem d2_65 : decode method_2_code 65 = .ok (.if_icmp .ne 5, 3) := by decide +kernel
theorem d2_68 : decode method_2_code 68 = .ok (.iconst 0, 1) := by decide +kernel
theorem d2_69 : decode method_2_code 69 = .ok (.ireturn, 1) := by decide +kernel
theorem d2_70 : decode method_2_code 70 = .ok (.iconst 1, 1) := by decide +kernel
theorem d2_71 : decode method_2_code 71 = .ok (.ireturn, 1) := by decide +kernel
theorem pn_2 : plainFor (⟨"com/example/kuopio/kuopio/XmlCharsIsXmlCharPinLaw", "reference", "(I)Z"⟩ : MethodName) = true := by first | exact plainFor_of_name (by first | (simp [plainName, overriddenIn]; done) | decide +kernel) | decide +kernel
theorem ef_2 (m : MethodId) (y0 : Int32) : entryFrame m #[(.int y0)] 1 = mkF m 0 #[.val (.int y0)] [] := by first | (simp [entryFrame, mkF, argsToLocals, Value.category]; done) | rfl
def Q2 (Z : State)   (h0 : Heap) (n0 : Nat) (ans : Int32) (v : Option Value) (h : Heap) (L : List Loc) : Prop := v = some (.int ans) ∧ Fr n0 L ∧ h = h0
set_option maxRecDepth 65536 in
set_option maxHeartbeats 40000000 in
theorem rm2 (l : Launch) (Z : State) (a0 : Array Value) (hw : ∀ d ∈ tables_1, d.before a0 Z = true) (p0 : Int32)  (h0 : Heap) (n0 : Nat) (Z0 : n0 ≤ h0.size)  :
    Meets l Z (⟨"com/example/kuopio/kuopio/XmlCharsIsXmlCharPinLaw", "reference", "(I)Z"⟩ : MethodName) method_2_code 1 (some .boolean) [] ({ frames := 0, cells := 0, slots := 0, locals := 0 } : Room) #[(.int p0)] h0 (Q2 Z  h0 n0 (F2 p0)) 0 0 := by
  refine Meets.of pn_2 ?_
  intro p e s m below meth c s₁ hx hby hml hZ hown hnm hret hlk X0 e0
  have hml : c.maxLocals = 1 := hml
  have hown : s.vm.findClass "com/example/kuopio/kuopio/XmlCharsIsXmlCharPinLaw" = some m.cls := hown
  have N0 := Fr.nil n0
  have b10 : ∀ (T : State) (L : List Loc) (X : Stand p l e ({ frames := 0, cells := 0, slots := 0, locals := 0 } : Room) s m #[(.int p0)] below meth c T L 0 0) (eT : T.heap = h0) (N : Fr n0 L) (d0 : Slot) (od0 : OneS d0), Ends p e below s 0 0 (Q2 Z  h0 n0 F2_10) (T.setTop (mkF m 10 #[d0] [])) := by
    intro T L X eT N d0 od0
    refine Ends.step (u' := (T.setTop (mkF m 11 #[d0] [(.int (0 : Int32))]))) ?_ (fun _ k => XT.iconstV X.here hx rfl (0 : Int32) (hb hby d2_10) rfl k)
    exact Ends.ret X (v := some (.int (nar .boolean (0 : Int32)))) (fun q => by rw [hret] at q; cases q) hlk (fun fs hr => retN X hx (t := .boolean) hret (by simp) (hb hby d2_11) hr) (by decide) (by decide) ⟨rfl, N, eT⟩
  have b41 : ∀ (T : State) (L : List Loc) (X : Stand p l e ({ frames := 0, cells := 0, slots := 0, locals := 0 } : Room) s m #[(.int p0)] below meth c T L 0 0) (eT : T.heap = h0) (N : Fr n0 L) (t0 : Int32) (d0 : Slot) (od0 : OneS d0), Ends p e below s 0 0 (Q2 Z  h0 n0 (F2_41 t0)) (T.setTop (mkF m 41 #[d0] [(.int t0)])) := by
    intro T L X eT N t0 d0 od0
    exact Ends.ret X (v := some (.int (nar .boolean t0))) (fun q => by rw [hret] at q; cases q) hlk (fun fs hr => retN X hx (t := .boolean) hret (by simp) (hb hby d2_41) hr) (by decide) (by decide) ⟨rfl, N, eT⟩
  have b36 : ∀ (T : State) (L : List Loc) (X : Stand p l e ({ frames := 0, cells := 0, slots := 0, locals := 0 } : Room) s m #[(.int p0)] below meth c T L 0 0) (eT : T.heap = h0) (N : Fr n0 L) (d0 : Slot) (od0 : OneS d0), Ends p e below s 0 0 (Q2 Z  h0 n0 F2_36) (T.setTop (mkF m 36 #[d0] [])) := by
    intro T L X eT N d0 od0
    refine Ends.step (u' := (T.setTop (mkF m 37 #[d0] [(.int (1 : Int32))]))) ?_ (fun _ k => XT.iconstV X.here hx rfl (1 : Int32) (hb hby d2_36) rfl k)
    refine Ends.step (u' := (T.setTop (mkF m 41 #[d0] [(.int (1 : Int32))]))) ?_ (fun _ k => XS.goto X.here hx rfl (pc0 := 37) (pc' := 41) rfl (hb hby d2_37) (by decide) (by decide) k)
    exact b41 T _ X eT N (1 : Int32) (d0) od0
  have b40 : ∀ (T : State) (L : List Loc) (X : Stand p l e ({ frames := 0, cells := 0, slots := 0, locals := 0 } : Room) s m #[(.int p0)] below meth c T L 0 0) (eT : T.heap = h0) (N : Fr n0 L) (d0 : Slot) (od0 : OneS d0), Ends p e below s 0 0 (Q2 Z  h0 n0 F2_40) (T.setTop (mkF m 40 #[d0] [])) := by
    intro T L X eT N d0 od0
    refine Ends.step (u' := (T.setTop (mkF m 41 #[d0] [(.int (0 : Int32))]))) ?_ (fun _ k => XT.iconstV X.here hx rfl (0 : Int32) (hb hby d2_40) rfl k)
    exact b41 T _ X eT N (0 : Int32) (d0) od0
  have b30 : ∀ (T : State) (L : List Loc) (X : Stand p l e ({ frames := 0, cells := 0, slots := 0, locals := 0 } : Room) s m #[(.int p0)] below meth c T L 0 0) (eT : T.heap = h0) (N : Fr n0 L) (x0 : Int32), Ends p e below s 0 0 (Q2 Z  h0 n0 (F2_30 x0)) (T.setTop (mkF m 30 #[.val (.int x0)] [])) := by
    intro T L X eT N x0
    refine Ends.step (u' := (T.setTop (mkF m 31 #[.val (.int x0)] [(.int x0)]))) ?_ (fun _ k => XS.iloadN X.here hx rfl (hb hby d2_30) rfl k)
    refine Ends.step (u' := (T.setTop (mkF m 33 #[.val (.int x0)] [(.int (13 : Int32)), (.int x0)]))) ?_ (fun _ k => XT.bipushV X.here hx rfl (13 : Int32) (hb hby d2_31) rfl k)
    by_cases hc33 : x0 = (13 : Int32)
    · refine Eq.mp (congrArg (fun z => Ends p e below s 0 0 (Q2 Z  h0 n0 z) (T.setTop (mkF m 33 #[.val (.int x0)] [(.int (13 : Int32)), (.int x0)]))) (show (F2_30 x0) = F2_36 from (if_pos hc33)).symm) ?_
      refine Ends.step (u' := (T.setTop (mkF m 36 #[.val (.int x0)] []))) ?_ (fun _ k => XS.icmpNo X.here hx rfl (hb hby d2_33) rfl (XT.ii_ne_f hc33) k)
      exact b36 T _ X eT N (.val (.int x0)) (Or.inr ⟨_, rfl, rfl⟩)
    · refine Eq.mp (congrArg (fun z => Ends p e below s 0 0 (Q2 Z  h0 n0 z) (T.setTop (mkF m 33 #[.val (.int x0)] [(.int (13 : Int32)), (.int x0)]))) (show (F2_30 x0) = F2_40 from (if_neg hc33)).symm) ?_
      refine Ends.step (u' := (T.setTop (mkF m 40 #[.val (.int x0)] []))) ?_ (fun _ k => XS.icmpYes X.here hx rfl (pc0 := 33) (pc' := 40) rfl (hb hby d2_33) rfl (XT.ii_ne_t hc33) (by decide) (by decide) k)
      exact b40 T _ X eT N (.val (.int x0)) (Or.inr ⟨_, rfl, rfl⟩)
  have b24 : ∀ (T : State) (L : List Loc) (X : Stand p l e ({ frames := 0, cells := 0, slots := 0, locals := 0 } : Room) s m #[(.int p0)] below meth c T L 0 0) (eT : T.heap = h0) (N : Fr n0 L) (x0 : Int32), Ends p e below s 0 0 (Q2 Z  h0 n0 (F2_24 x0)) (T.setTop (mkF m 24 #[.val (.int x0)] [])) := by
    intro T L X eT N x0
    refine Ends.step (u' := (T.setTop (mkF m 25 #[.val (.int x0)] [(.int x0)]))) ?_ (fun _ k => XS.iloadN X.here hx rfl (hb hby d2_24) rfl k)
    refine Ends.step (u' := (T.setTop (mkF m 27 #[.val (.int x0)] [(.int (10 : Int32)), (.int x0)]))) ?_ (fun _ k => XT.bipushV X.here hx rfl (10 : Int32) (hb hby d2_25) rfl k)
    by_cases hc27 : x0 = (10 : Int32)
    · refine Eq.mp (congrArg (fun z => Ends p e below s 0 0 (Q2 Z  h0 n0 z) (T.setTop (mkF m 27 #[.val (.int x0)] [(.int (10 : Int32)), (.int x0)]))) (show (F2_24 x0) = F2_36 from (if_pos hc27)).symm) ?_
      refine Ends.step (u' := (T.setTop (mkF m 36 #[.val (.int x0)] []))) ?_ (fun _ k => XS.icmpYes X.here hx rfl (pc0 := 27) (pc' := 36) rfl (hb hby d2_27) rfl (XT.ii_eq_t hc27) (by decide) (by decide) k)
      exact b36 T _ X eT N (.val (.int x0)) (Or.inr ⟨_, rfl, rfl⟩)
    · refine Eq.mp (congrArg (fun z => Ends p e below s 0 0 (Q2 Z  h0 n0 z) (T.setTop (mkF m 27 #[.val (.int x0)] [(.int (10 : Int32)), (.int x0)]))) (show (F2_24 x0) = (F2_30 x0) from (if_neg hc27)).symm) ?_
      refine Ends.step (u' := (T.setTop (mkF m 30 #[.val (.int x0)] []))) ?_ (fun _ k => XS.icmpNo X.here hx rfl (hb hby d2_27) rfl (XT.ii_eq_f hc27) k)
      exact b30 T _ X eT N x0
  have b18 : ∀ (T : State) (L : List Loc) (X : Stand p l e ({ frames := 0, cells := 0, slots := 0, locals := 0 } : Room) s m #[(.int p0)] below meth c T L 0 0) (eT : T.heap = h0) (N : Fr n0 L) (x0 : Int32), Ends p e below s 0 0 (Q2 Z  h0 n0 (F2_18 x0)) (T.setTop (mkF m 18 #[.val (.int x0)] [])) := by
    intro T L X eT N x0
    refine Ends.step (u' := (T.setTop (mkF m 19 #[.val (.int x0)] [(.int x0)]))) ?_ (fun _ k => XS.iloadN X.here hx rfl (hb hby d2_18) rfl k)
    refine Ends.step (u' := (T.setTop (mkF m 21 #[.val (.int x0)] [(.int (9 : Int32)), (.int x0)]))) ?_ (fun _ k => XT.bipushV X.here hx rfl (9 : Int32) (hb hby d2_19) rfl k)
    by_cases hc21 : x0 = (9 : Int32)
    · refine Eq.mp (congrArg (fun z => Ends p e below s 0 0 (Q2 Z  h0 n0 z) (T.setTop (mkF m 21 #[.val (.int x0)] [(.int (9 : Int32)), (.int x0)]))) (show (F2_18 x0) = F2_36 from (if_pos hc21)).symm) ?_
      refine Ends.step (u' := (T.setTop (mkF m 36 #[.val (.int x0)] []))) ?_ (fun _ k => XS.icmpYes X.here hx rfl (pc0 := 21) (pc' := 36) rfl (hb hby d2_21) rfl (XT.ii_eq_t hc21) (by decide) (by decide) k)
      exact b36 T _ X eT N (.val (.int x0)) (Or.inr ⟨_, rfl, rfl⟩)
    · refine Eq.mp (congrArg (fun z => Ends p e below s 0 0 (Q2 Z  h0 n0 z) (T.setTop (mkF m 21 #[.val (.int x0)] [(.int (9 : Int32)), (.int x0)]))) (show (F2_18 x0) = (F2_24 x0) from (if_neg hc21)).symm) ?_
      refine Ends.step (u' := (T.setTop (mkF m 24 #[.val (.int x0)] []))) ?_ (fun _ k => XS.icmpNo X.here hx rfl (hb hby d2_21) rfl (XT.ii_eq_f hc21) k)
      exact b24 T _ X eT N x0
  have b54 : ∀ (T : State) (L : List Loc) (X : Stand p l e ({ frames := 0, cells := 0, slots := 0, locals := 0 } : Room) s m #[(.int p0)] below meth c T L 0 0) (eT : T.heap = h0) (N : Fr n0 L) (d0 : Slot) (od0 : OneS d0), Ends p e below s 0 0 (Q2 Z  h0 n0 F2_54) (T.setTop (mkF m 54 #[d0] [])) := by
    intro T L X eT N d0 od0
    refine Ends.step (u' := (T.setTop (mkF m 55 #[d0] [(.int (0 : Int32))]))) ?_ (fun _ k => XT.iconstV X.here hx rfl (0 : Int32) (hb hby d2_54) rfl k)
    exact Ends.ret X (v := some (.int (nar .boolean (0 : Int32)))) (fun q => by rw [hret] at q; cases q) hlk (fun fs hr => retN X hx (t := .boolean) hret (by simp) (hb hby d2_55) hr) (by decide) (by decide) ⟨rfl, N, eT⟩
  have b68 : ∀ (T : State) (L : List Loc) (X : Stand p l e ({ frames := 0, cells := 0, slots := 0, locals := 0 } : Room) s m #[(.int p0)] below meth c T L 0 0) (eT : T.heap = h0) (N : Fr n0 L) (d0 : Slot) (od0 : OneS d0), Ends p e below s 0 0 (Q2 Z  h0 n0 F2_68) (T.setTop (mkF m 68 #[d0] [])) := by
    intro T L X eT N d0 od0
    refine Ends.step (u' := (T.setTop (mkF m 69 #[d0] [(.int (0 : Int32))]))) ?_ (fun _ k => XT.iconstV X.here hx rfl (0 : Int32) (hb hby d2_68) rfl k)
    exact Ends.ret X (v := some (.int (nar .boolean (0 : Int32)))) (fun q => by rw [hret] at q; cases q) hlk (fun fs hr => retN X hx (t := .boolean) hret (by simp) (hb hby d2_69) hr) (by decide) (by decide) ⟨rfl, N, eT⟩
  have b70 : ∀ (T : State) (L : List Loc) (X : Stand p l e ({ frames := 0, cells := 0, slots := 0, locals := 0 } : Room) s m #[(.int p0)] below meth c T L 0 0) (eT : T.heap = h0) (N : Fr n0 L) (d0 : Slot) (od0 : OneS d0), Ends p e below s 0 0 (Q2 Z  h0 n0 F2_70) (T.setTop (mkF m 70 #[d0] [])) := by
    intro T L X eT N d0 od0
    refine Ends.step (u' := (T.setTop (mkF m 71 #[d0] [(.int (1 : Int32))]))) ?_ (fun _ k => XT.iconstV X.here hx rfl (1 : Int32) (hb hby d2_70) rfl k)
    exact Ends.ret X (v := some (.int (nar .boolean (1 : Int32)))) (fun q => by rw [hret] at q; cases q) hlk (fun fs hr => retN X hx (t := .boolean) hret (by simp) (hb hby d2_71) hr) (by decide) (by decide) ⟨rfl, N, eT⟩
  have b62 : ∀ (T : State) (L : List Loc) (X : Stand p l e ({ frames := 0, cells := 0, slots := 0, locals := 0 } : Room) s m #[(.int p0)] below meth c T L 0 0) (eT : T.heap = h0) (N : Fr n0 L) (x0 : Int32), Ends p e below s 0 0 (Q2 Z  h0 n0 (F2_62 x0)) (T.setTop (mkF m 62 #[.val (.int x0)] [])) := by
    intro T L X eT N x0
    refine Ends.step (u' := (T.setTop (mkF m 63 #[.val (.int x0)] [(.int x0)]))) ?_ (fun _ k => XS.iloadN X.here hx rfl (hb hby d2_62) rfl k)
    refine Ends.step (u' := (T.setTop (mkF m 65 #[.val (.int x0)] [(.int (65535 : Int32)), (.int x0)]))) ?_ (fun _ k => X.ldcI hx hown (mvT hZ (hw _ (List.mem_of_getElem? (i := 6) rfl))) rfl (hb hby d2_63) k)
    by_cases hc65 : x0 = (65535 : Int32)
    · refine Eq.mp (congrArg (fun z => Ends p e below s 0 0 (Q2 Z  h0 n0 z) (T.setTop (mkF m 65 #[.val (.int x0)] [(.int (65535 : Int32)), (.int x0)]))) (show (F2_62 x0) = F2_68 from (if_pos hc65)).symm) ?_
      refine Ends.step (u' := (T.setTop (mkF m 68 #[.val (.int x0)] []))) ?_ (fun _ k => XS.icmpNo X.here hx rfl (hb hby d2_65) rfl (XT.ii_ne_f hc65) k)
      exact b68 T _ X eT N (.val (.int x0)) (Or.inr ⟨_, rfl, rfl⟩)
    · refine Eq.mp (congrArg (fun z => Ends p e below s 0 0 (Q2 Z  h0 n0 z) (T.setTop (mkF m 65 #[.val (.int x0)] [(.int (65535 : Int32)), (.int x0)]))) (show (F2_62 x0) = F2_70 from (if_neg hc65)).symm) ?_
      refine Ends.step (u' := (T.setTop (mkF m 70 #[.val (.int x0)] []))) ?_ (fun _ k => XS.icmpYes X.here hx rfl (pc0 := 65) (pc' := 70) rfl (hb hby d2_65) rfl (XT.ii_ne_t hc65) (by decide) (by decide) k)
      exact b70 T _ X eT N (.val (.int x0)) (Or.inr ⟨_, rfl, rfl⟩)
  have b56 : ∀ (T : State) (L : List Loc) (X : Stand p l e ({ frames := 0, cells := 0, slots := 0, locals := 0 } : Room) s m #[(.int p0)] below meth c T L 0 0) (eT : T.heap = h0) (N : Fr n0 L) (x0 : Int32), Ends p e below s 0 0 (Q2 Z  h0 n0 (F2_56 x0)) (T.setTop (mkF m 56 #[.val (.int x0)] [])) := by
    intro T L X eT N x0
    refine Ends.step (u' := (T.setTop (mkF m 57 #[.val (.int x0)] [(.int x0)]))) ?_ (fun _ k => XS.iloadN X.here hx rfl (hb hby d2_56) rfl k)
    refine Ends.step (u' := (T.setTop (mkF m 59 #[.val (.int x0)] [(.int (65534 : Int32)), (.int x0)]))) ?_ (fun _ k => X.ldcI hx hown (mvT hZ (hw _ (List.mem_of_getElem? (i := 24) rfl))) rfl (hb hby d2_57) k)
    by_cases hc59 : x0 = (65534 : Int32)
    · refine Eq.mp (congrArg (fun z => Ends p e below s 0 0 (Q2 Z  h0 n0 z) (T.setTop (mkF m 59 #[.val (.int x0)] [(.int (65534 : Int32)), (.int x0)]))) (show (F2_56 x0) = F2_68 from (if_pos hc59)).symm) ?_
      refine Ends.step (u' := (T.setTop (mkF m 68 #[.val (.int x0)] []))) ?_ (fun _ k => XS.icmpYes X.here hx rfl (pc0 := 59) (pc' := 68) rfl (hb hby d2_59) rfl (XT.ii_eq_t hc59) (by decide) (by decide) k)
      exact b68 T _ X eT N (.val (.int x0)) (Or.inr ⟨_, rfl, rfl⟩)
    · refine Eq.mp (congrArg (fun z => Ends p e below s 0 0 (Q2 Z  h0 n0 z) (T.setTop (mkF m 59 #[.val (.int x0)] [(.int (65534 : Int32)), (.int x0)]))) (show (F2_56 x0) = (F2_62 x0) from (if_neg hc59)).symm) ?_
      refine Ends.step (u' := (T.setTop (mkF m 62 #[.val (.int x0)] []))) ?_ (fun _ k => XS.icmpNo X.here hx rfl (hb hby d2_59) rfl (XT.ii_eq_f hc59) k)
      exact b62 T _ X eT N x0
  have b48 : ∀ (T : State) (L : List Loc) (X : Stand p l e ({ frames := 0, cells := 0, slots := 0, locals := 0 } : Room) s m #[(.int p0)] below meth c T L 0 0) (eT : T.heap = h0) (N : Fr n0 L) (x0 : Int32), Ends p e below s 0 0 (Q2 Z  h0 n0 (F2_48 x0)) (T.setTop (mkF m 48 #[.val (.int x0)] [])) := by
    intro T L X eT N x0
    refine Ends.step (u' := (T.setTop (mkF m 49 #[.val (.int x0)] [(.int x0)]))) ?_ (fun _ k => XS.iloadN X.here hx rfl (hb hby d2_48) rfl k)
    refine Ends.step (u' := (T.setTop (mkF m 51 #[.val (.int x0)] [(.int (57343 : Int32)), (.int x0)]))) ?_ (fun _ k => X.ldcI hx hown (mvT hZ (hw _ (List.mem_of_getElem? (i := 3) rfl))) rfl (hb hby d2_49) k)
    by_cases hc51 : (57343 : Int32) < x0
    · refine Eq.mp (congrArg (fun z => Ends p e below s 0 0 (Q2 Z  h0 n0 z) (T.setTop (mkF m 51 #[.val (.int x0)] [(.int (57343 : Int32)), (.int x0)]))) (show (F2_48 x0) = (F2_56 x0) from (if_pos hc51)).symm) ?_
      refine Ends.step (u' := (T.setTop (mkF m 56 #[.val (.int x0)] []))) ?_ (fun _ k => XS.icmpYes X.here hx rfl (pc0 := 51) (pc' := 56) rfl (hb hby d2_51) rfl (XT.ii_gt_t hc51) (by decide) (by decide) k)
      exact b56 T _ X eT N x0
    · refine Eq.mp (congrArg (fun z => Ends p e below s 0 0 (Q2 Z  h0 n0 z) (T.setTop (mkF m 51 #[.val (.int x0)] [(.int (57343 : Int32)), (.int x0)]))) (show (F2_48 x0) = F2_54 from (if_neg hc51)).symm) ?_
      refine Ends.step (u' := (T.setTop (mkF m 54 #[.val (.int x0)] []))) ?_ (fun _ k => XS.icmpNo X.here hx rfl (hb hby d2_51) rfl (XT.ii_gt_f hc51) k)
      exact b54 T _ X eT N (.val (.int x0)) (Or.inr ⟨_, rfl, rfl⟩)
  have b42 : ∀ (T : State) (L : List Loc) (X : Stand p l e ({ frames := 0, cells := 0, slots := 0, locals := 0 } : Room) s m #[(.int p0)] below meth c T L 0 0) (eT : T.heap = h0) (N : Fr n0 L) (x0 : Int32), Ends p e below s 0 0 (Q2 Z  h0 n0 (F2_42 x0)) (T.setTop (mkF m 42 #[.val (.int x0)] [])) := by
    intro T L X eT N x0
    refine Ends.step (u' := (T.setTop (mkF m 43 #[.val (.int x0)] [(.int x0)]))) ?_ (fun _ k => XS.iloadN X.here hx rfl (hb hby d2_42) rfl k)
    refine Ends.step (u' := (T.setTop (mkF m 45 #[.val (.int x0)] [(.int (55296 : Int32)), (.int x0)]))) ?_ (fun _ k => X.ldcI hx hown (mvT hZ (hw _ (List.mem_of_getElem? (i := 2) rfl))) rfl (hb hby d2_43) k)
    by_cases hc45 : x0 < (55296 : Int32)
    · refine Eq.mp (congrArg (fun z => Ends p e below s 0 0 (Q2 Z  h0 n0 z) (T.setTop (mkF m 45 #[.val (.int x0)] [(.int (55296 : Int32)), (.int x0)]))) (show (F2_42 x0) = (F2_56 x0) from (if_pos hc45)).symm) ?_
      refine Ends.step (u' := (T.setTop (mkF m 56 #[.val (.int x0)] []))) ?_ (fun _ k => XS.icmpYes X.here hx rfl (pc0 := 45) (pc' := 56) rfl (hb hby d2_45) rfl (XT.ii_lt_t hc45) (by decide) (by decide) k)
      exact b56 T _ X eT N x0
    · refine Eq.mp (congrArg (fun z => Ends p e below s 0 0 (Q2 Z  h0 n0 z) (T.setTop (mkF m 45 #[.val (.int x0)] [(.int (55296 : Int32)), (.int x0)]))) (show (F2_42 x0) = (F2_48 x0) from (if_neg hc45)).symm) ?_
      refine Ends.step (u' := (T.setTop (mkF m 48 #[.val (.int x0)] []))) ?_ (fun _ k => XS.icmpNo X.here hx rfl (hb hby d2_45) rfl (XT.ii_lt_f hc45) k)
      exact b48 T _ X eT N x0
  have b12 : ∀ (T : State) (L : List Loc) (X : Stand p l e ({ frames := 0, cells := 0, slots := 0, locals := 0 } : Room) s m #[(.int p0)] below meth c T L 0 0) (eT : T.heap = h0) (N : Fr n0 L) (x0 : Int32), Ends p e below s 0 0 (Q2 Z  h0 n0 (F2_12 x0)) (T.setTop (mkF m 12 #[.val (.int x0)] [])) := by
    intro T L X eT N x0
    refine Ends.step (u' := (T.setTop (mkF m 13 #[.val (.int x0)] [(.int x0)]))) ?_ (fun _ k => XS.iloadN X.here hx rfl (hb hby d2_12) rfl k)
    refine Ends.step (u' := (T.setTop (mkF m 15 #[.val (.int x0)] [(.int (32 : Int32)), (.int x0)]))) ?_ (fun _ k => XT.bipushV X.here hx rfl (32 : Int32) (hb hby d2_13) rfl k)
    by_cases hc15 : x0 < (32 : Int32)
    · refine Eq.mp (congrArg (fun z => Ends p e below s 0 0 (Q2 Z  h0 n0 z) (T.setTop (mkF m 15 #[.val (.int x0)] [(.int (32 : Int32)), (.int x0)]))) (show (F2_12 x0) = (F2_18 x0) from (if_pos hc15)).symm) ?_
      refine Ends.step (u' := (T.setTop (mkF m 18 #[.val (.int x0)] []))) ?_ (fun _ k => XS.icmpNo X.here hx rfl (hb hby d2_15) rfl (XT.ii_ge_f hc15) k)
      exact b18 T _ X eT N x0
    · refine Eq.mp (congrArg (fun z => Ends p e below s 0 0 (Q2 Z  h0 n0 z) (T.setTop (mkF m 15 #[.val (.int x0)] [(.int (32 : Int32)), (.int x0)]))) (show (F2_12 x0) = (F2_42 x0) from (if_neg hc15)).symm) ?_
      refine Ends.step (u' := (T.setTop (mkF m 42 #[.val (.int x0)] []))) ?_ (fun _ k => XS.icmpYes X.here hx rfl (pc0 := 15) (pc' := 42) rfl (hb hby d2_15) rfl (XT.ii_ge_t hc15) (by decide) (by decide) k)
      exact b42 T _ X eT N x0
  have b4 : ∀ (T : State) (L : List Loc) (X : Stand p l e ({ frames := 0, cells := 0, slots := 0, locals := 0 } : Room) s m #[(.int p0)] below meth c T L 0 0) (eT : T.heap = h0) (N : Fr n0 L) (x0 : Int32), Ends p e below s 0 0 (Q2 Z  h0 n0 (F2_4 x0)) (T.setTop (mkF m 4 #[.val (.int x0)] [])) := by
    intro T L X eT N x0
    refine Ends.step (u' := (T.setTop (mkF m 5 #[.val (.int x0)] [(.int x0)]))) ?_ (fun _ k => XS.iloadN X.here hx rfl (hb hby d2_4) rfl k)
    refine Ends.step (u' := (T.setTop (mkF m 7 #[.val (.int x0)] [(.int (1114111 : Int32)), (.int x0)]))) ?_ (fun _ k => X.ldcI hx hown (mvT hZ (hw _ (List.mem_of_getElem? (i := 8) rfl))) rfl (hb hby d2_5) k)
    by_cases hc7 : (1114111 : Int32) < x0
    · refine Eq.mp (congrArg (fun z => Ends p e below s 0 0 (Q2 Z  h0 n0 z) (T.setTop (mkF m 7 #[.val (.int x0)] [(.int (1114111 : Int32)), (.int x0)]))) (show (F2_4 x0) = F2_10 from (if_pos hc7)).symm) ?_
      refine Ends.step (u' := (T.setTop (mkF m 10 #[.val (.int x0)] []))) ?_ (fun _ k => XS.icmpNo X.here hx rfl (hb hby d2_7) rfl (XT.ii_le_f hc7) k)
      exact b10 T _ X eT N (.val (.int x0)) (Or.inr ⟨_, rfl, rfl⟩)
    · refine Eq.mp (congrArg (fun z => Ends p e below s 0 0 (Q2 Z  h0 n0 z) (T.setTop (mkF m 7 #[.val (.int x0)] [(.int (1114111 : Int32)), (.int x0)]))) (show (F2_4 x0) = (F2_12 x0) from (if_neg hc7)).symm) ?_
      refine Ends.step (u' := (T.setTop (mkF m 12 #[.val (.int x0)] []))) ?_ (fun _ k => XS.icmpYes X.here hx rfl (pc0 := 7) (pc' := 12) rfl (hb hby d2_7) rfl (XT.ii_le_t hc7) (by decide) (by decide) k)
      exact b12 T _ X eT N x0
  refine Ends.step (u' := (s₁.setTop (mkF m 0 #[.val (.int p0)] []))) ?_ (fun _ k => castTop (ef_2 m p0) k)
  refine Ends.step (u' := (s₁.setTop (mkF m 1 #[.val (.int p0)] [(.int p0)]))) ?_ (fun _ k => XS.iloadN X0.here hx rfl (hb hby d2_0) rfl k)
  by_cases hc1 : p0 < 0
  · refine Eq.mp (congrArg (fun z => Ends p e below s 0 0 (Q2 Z  h0 n0 z) (s₁.setTop (mkF m 1 #[.val (.int p0)] [(.int p0)]))) (show (F2 p0) = F2_10 from (if_pos hc1)).symm) ?_
    refine Ends.step (u' := (s₁.setTop (mkF m 10 #[.val (.int p0)] []))) ?_ (fun _ k => XS.ifYes X0.here hx rfl (pc0 := 1) (pc' := 10) rfl (hb hby d2_1) rfl (XT.i0_lt_t hc1) (by decide) (by decide) k)
    exact b10 s₁ _ X0 e0 N0 (.val (.int p0)) (Or.inr ⟨_, rfl, rfl⟩)
  · refine Eq.mp (congrArg (fun z => Ends p e below s 0 0 (Q2 Z  h0 n0 z) (s₁.setTop (mkF m 1 #[.val (.int p0)] [(.int p0)]))) (show (F2 p0) = (F2_4 p0) from (if_neg hc1)).symm) ?_
    refine Ends.step (u' := (s₁.setTop (mkF m 4 #[.val (.int p0)] []))) ?_ (fun _ k => XS.ifNo X0.here hx rfl (hb hby d2_1) rfl (XT.i0_lt_f hc1) k)
    exact b4 s₁ _ X0 e0 N0 p0
theorem pn_0 : plainFor x = true := by first | exact plainFor_of_name (by first | (simp [plainName, overriddenIn]; done) | decide +kernel) | decide +kernel
theorem ef_0 (m : MethodId) (y0 : Int32) (y1 : Int32) (y2 : Int32) : entryFrame m #[(.int y0), (.int y1), (.int y2)] maxLocals = mkF m 0 #[.val (.int y0), .val (.int y1), .val (.int y2), .unset, .unset, .unset, .unset] [] := by first | (simp [entryFrame, mkF, argsToLocals, Value.category, maxLocals]; done) | rfl
def Q0 (Z : State)   (h0 : Heap) (n0 : Nat) (ans : Int32) (v : Option Value) (h : Heap) (L : List Loc) : Prop := v = some (.int ans) ∧ Fr n0 L
set_option maxRecDepth 65536 in
set_option maxHeartbeats 40000000 in
theorem rm0 (l : Launch) (Z : State) (a0 : Array Value) (hw : ∀ d ∈ tables_1, d.before a0 Z = true) (p0 : Int32) (p1 : Int32) (p2 : Int32)  (h0 : Heap) (n0 : Nat) (Z0 : n0 ≤ h0.size)  (ok : O0 p0 p1 p2) :
    Meets l Z x code maxLocals ret tables_1 room_1 #[(.int p0), (.int p1), (.int p2)] h0 (Q0 Z  h0 n0 (F0 p0 p1 p2)) 1 16 := by
  refine Meets.of pn_0 ?_
  intro p e s m below meth c s₁ hx hby hml hZ hown hnm hret hlk X0 e0
  have hml : c.maxLocals = 7 := hml
  have hown : s.vm.findClass "com/example/kuopio/kuopio/XmlCharsIsXmlCharPinLaw" = some m.cls := hown
  have N0 := Fr.nil n0
  have b164 : ∀ (T : State) (L : List Loc) (h : Heap) (X : Stand p l e room_1 s m #[(.int p0), (.int p1), (.int p2)] below meth c T L 1 16) (eT : T.heap = h) (N : Fr n0 L) (Zs : n0 ≤ h.size) (t0 : Int32) (d0 : Slot) (od0 : OneS d0) (d1 : Slot) (od1 : OneS d1) (d2 : Slot) (od2 : OneS d2) (d3 : Slot) (od3 : OneS d3) (d4 : Slot) (od4 : OneS d4) (d5 : Slot) (od5 : OneS d5) (d6 : Slot) (od6 : OneS d6), Ends p e below s 1 16 (Q0 Z  h0 n0 (F0_164 t0)) (T.setTop (mkF m 164 #[d0, d1, d2, d3, d4, d5, d6] [(.int t0)])) := by
    intro T L h X eT N Zs t0 d0 od0 d1 od1 d2 od2 d3 od3 d4 od4 d5 od5 d6 od6
    exact Ends.ret X (v := some (.int (nar .boolean t0))) (fun q => by rw [hret] at q; cases q) hlk (fun fs hr => retN X hx (t := .boolean) hret (by simp) (hb hby at_164) hr) (by decide) (by decide) ⟨rfl, N⟩
  have b159 : ∀ (T : State) (L : List Loc) (h : Heap) (X : Stand p l e room_1 s m #[(.int p0), (.int p1), (.int p2)] below meth c T L 1 16) (eT : T.heap = h) (N : Fr n0 L) (Zs : n0 ≤ h.size) (d0 : Slot) (od0 : OneS d0) (d1 : Slot) (od1 : OneS d1) (d2 : Slot) (od2 : OneS d2) (d3 : Slot) (od3 : OneS d3) (d4 : Slot) (od4 : OneS d4) (d5 : Slot) (od5 : OneS d5) (d6 : Slot) (od6 : OneS d6), Ends p e below s 1 16 (Q0 Z  h0 n0 F0_159) (T.setTop (mkF m 159 #[d0, d1, d2, d3, d4, d5, d6] [])) := by
    intro T L h X eT N Zs d0 od0 d1 od1 d2 od2 d3 od3 d4 od4 d5 od5 d6 od6
    refine Ends.step (u' := (T.setTop (mkF m 160 #[d0, d1, d2, d3, d4, d5, d6] [(.int (1 : Int32))]))) ?_ (fun _ k => XT.iconstV X.here hx rfl (1 : Int32) (hb hby at_159) rfl k)
    refine Ends.step (u' := (T.setTop (mkF m 164 #[d0, d1, d2, d3, d4, d5, d6] [(.int (1 : Int32))]))) ?_ (fun _ k => XS.goto X.here hx rfl (pc0 := 160) (pc' := 164) rfl (hb hby at_160) (by decide) (by decide) k)
    exact b164 T _ _ X eT N Zs (1 : Int32) (d0) od0 (d1) od1 (d2) od2 (d3) od3 (d4) od4 (d5) od5 (d6) od6
  have b163 : ∀ (T : State) (L : List Loc) (h : Heap) (X : Stand p l e room_1 s m #[(.int p0), (.int p1), (.int p2)] below meth c T L 1 16) (eT : T.heap = h) (N : Fr n0 L) (Zs : n0 ≤ h.size) (d0 : Slot) (od0 : OneS d0) (d1 : Slot) (od1 : OneS d1) (d2 : Slot) (od2 : OneS d2) (d3 : Slot) (od3 : OneS d3) (d4 : Slot) (od4 : OneS d4) (d5 : Slot) (od5 : OneS d5) (d6 : Slot) (od6 : OneS d6), Ends p e below s 1 16 (Q0 Z  h0 n0 F0_163) (T.setTop (mkF m 163 #[d0, d1, d2, d3, d4, d5, d6] [])) := by
    intro T L h X eT N Zs d0 od0 d1 od1 d2 od2 d3 od3 d4 od4 d5 od5 d6 od6
    refine Ends.step (u' := (T.setTop (mkF m 164 #[d0, d1, d2, d3, d4, d5, d6] [(.int (0 : Int32))]))) ?_ (fun _ k => XT.iconstV X.here hx rfl (0 : Int32) (hb hby at_163) rfl k)
    exact b164 T _ _ X eT N Zs (0 : Int32) (d0) od0 (d1) od1 (d2) od2 (d3) od3 (d4) od4 (d5) od5 (d6) od6
  have b154 : ∀ (T : State) (L : List Loc) (h : Heap) (X : Stand p l e room_1 s m #[(.int p0), (.int p1), (.int p2)] below meth c T L 1 16) (eT : T.heap = h) (N : Fr n0 L) (Zs : n0 ≤ h.size) (x6 : Int32) (d0 : Slot) (od0 : OneS d0) (d1 : Slot) (od1 : OneS d1) (d2 : Slot) (od2 : OneS d2) (d3 : Slot) (od3 : OneS d3) (d4 : Slot) (od4 : OneS d4) (d5 : Slot) (od5 : OneS d5), Ends p e below s 1 16 (Q0 Z  h0 n0 (F0_154 x6)) (T.setTop (mkF m 154 #[d0, d1, d2, d3, d4, d5, .val (.int x6)] [])) := by
    intro T L h X eT N Zs x6 d0 od0 d1 od1 d2 od2 d3 od3 d4 od4 d5 od5
    refine Ends.step (u' := (T.setTop (mkF m 156 #[d0, d1, d2, d3, d4, d5, .val (.int x6)] [(.int x6)]))) ?_ (fun _ k => XS.iload X.here hx rfl (hb hby at_154) rfl k)
    by_cases hc156 : x6 = 0
    · refine Eq.mp (congrArg (fun z => Ends p e below s 1 16 (Q0 Z  h0 n0 z) (T.setTop (mkF m 156 #[d0, d1, d2, d3, d4, d5, .val (.int x6)] [(.int x6)]))) (show (F0_154 x6) = F0_163 from (if_pos hc156)).symm) ?_
      refine Ends.step (u' := (T.setTop (mkF m 163 #[d0, d1, d2, d3, d4, d5, .val (.int x6)] []))) ?_ (fun _ k => XS.ifYes X.here hx rfl (pc0 := 156) (pc' := 163) rfl (hb hby at_156) rfl (XT.i0_eq_t hc156) (by decide) (by decide) k)
      exact b163 T _ _ X eT N Zs (d0) od0 (d1) od1 (d2) od2 (d3) od3 (d4) od4 (d5) od5 (.val (.int x6)) (Or.inr ⟨_, rfl, rfl⟩)
    · refine Eq.mp (congrArg (fun z => Ends p e below s 1 16 (Q0 Z  h0 n0 z) (T.setTop (mkF m 156 #[d0, d1, d2, d3, d4, d5, .val (.int x6)] [(.int x6)]))) (show (F0_154 x6) = F0_159 from (if_neg hc156)).symm) ?_
      refine Ends.step (u' := (T.setTop (mkF m 159 #[d0, d1, d2, d3, d4, d5, .val (.int x6)] []))) ?_ (fun _ k => XS.ifNo X.here hx rfl (hb hby at_156) rfl (XT.i0_eq_f hc156) k)
      exact b159 T _ _ X eT N Zs (d0) od0 (d1) od1 (d2) od2 (d3) od3 (d4) od4 (d5) od5 (.val (.int x6)) (Or.inr ⟨_, rfl, rfl⟩)
  have b147 : ∀ (T : State) (L : List Loc) (h : Heap) (X : Stand p l e room_1 s m #[(.int p0), (.int p1), (.int p2)] below meth c T L 1 16) (eT : T.heap = h) (N : Fr n0 L) (Zs : n0 ≤ h.size) (x5 : Int32) (t0 : Int32) (d0 : Slot) (od0 : OneS d0) (d1 : Slot) (od1 : OneS d1) (d2 : Slot) (od2 : OneS d2) (d3 : Slot) (od3 : OneS d3) (d4 : Slot) (od4 : OneS d4), Ends p e below s 1 16 (Q0 Z  h0 n0 (F0_147 x5 t0)) (T.setTop (mkF m 147 #[d0, d1, d2, d3, d4, .val (.int x5), .unset] [(.int t0)])) := by
    intro T L h X eT N Zs x5 t0 d0 od0 d1 od1 d2 od2 d3 od3 d4 od4
    refine Ends.step (u' := (T.setTop (mkF m 149 #[d0, d1, d2, d3, d4, .val (.int x5), .val (.int t0)] []))) ?_ (fun _ k => XS.istore X.here hx rfl (hb hby at_147) rfl (l' := #[d0, d1, d2, d3, d4, .val (.int x5), .val (.int t0)]) rfl k)
    refine Ends.step (u' := (T.setTop (mkF m 151 #[d0, d1, d2, d3, d4, .val (.int x5), .val (.int t0)] [(.int x5)]))) ?_ (fun _ k => XS.iload X.here hx rfl (hb hby at_149) rfl k)
    by_cases hc151 : x5 = 0
    · refine Eq.mp (congrArg (fun z => Ends p e below s 1 16 (Q0 Z  h0 n0 z) (T.setTop (mkF m 151 #[d0, d1, d2, d3, d4, .val (.int x5), .val (.int t0)] [(.int x5)]))) (show (F0_147 x5 t0) = F0_163 from (if_pos hc151)).symm) ?_
      refine Ends.step (u' := (T.setTop (mkF m 163 #[d0, d1, d2, d3, d4, .val (.int x5), .val (.int t0)] []))) ?_ (fun _ k => XS.ifYes X.here hx rfl (pc0 := 151) (pc' := 163) rfl (hb hby at_151) rfl (XT.i0_eq_t hc151) (by decide) (by decide) k)
      exact b163 T _ _ X eT N Zs (d0) od0 (d1) od1 (d2) od2 (d3) od3 (d4) od4 (.val (.int x5)) (Or.inr ⟨_, rfl, rfl⟩) (.val (.int t0)) (Or.inr ⟨_, rfl, rfl⟩)
    · refine Eq.mp (congrArg (fun z => Ends p e below s 1 16 (Q0 Z  h0 n0 z) (T.setTop (mkF m 151 #[d0, d1, d2, d3, d4, .val (.int x5), .val (.int t0)] [(.int x5)]))) (show (F0_147 x5 t0) = (F0_154 t0) from (if_neg hc151)).symm) ?_
      refine Ends.step (u' := (T.setTop (mkF m 154 #[d0, d1, d2, d3, d4, .val (.int x5), .val (.int t0)] []))) ?_ (fun _ k => XS.ifNo X.here hx rfl (hb hby at_151) rfl (XT.i0_eq_f hc151) k)
      exact b154 T _ _ X eT N Zs t0 (d0) od0 (d1) od1 (d2) od2 (d3) od3 (d4) od4 (.val (.int x5)) (Or.inr ⟨_, rfl, rfl⟩)
  have b142 : ∀ (T : State) (L : List Loc) (h : Heap) (X : Stand p l e room_1 s m #[(.int p0), (.int p1), (.int p2)] below meth c T L 1 16) (eT : T.heap = h) (N : Fr n0 L) (Zs : n0 ≤ h.size) (x5 : Int32) (d0 : Slot) (od0 : OneS d0) (d1 : Slot) (od1 : OneS d1) (d2 : Slot) (od2 : OneS d2) (d3 : Slot) (od3 : OneS d3) (d4 : Slot) (od4 : OneS d4), Ends p e below s 1 16 (Q0 Z  h0 n0 (F0_142 x5)) (T.setTop (mkF m 142 #[d0, d1, d2, d3, d4, .val (.int x5), .unset] [])) := by
    intro T L h X eT N Zs x5 d0 od0 d1 od1 d2 od2 d3 od3 d4 od4
    refine Ends.step (u' := (T.setTop (mkF m 143 #[d0, d1, d2, d3, d4, .val (.int x5), .unset] [(.int (1 : Int32))]))) ?_ (fun _ k => XT.iconstV X.here hx rfl (1 : Int32) (hb hby at_142) rfl k)
    refine Ends.step (u' := (T.setTop (mkF m 147 #[d0, d1, d2, d3, d4, .val (.int x5), .unset] [(.int (1 : Int32))]))) ?_ (fun _ k => XS.goto X.here hx rfl (pc0 := 143) (pc' := 147) rfl (hb hby at_143) (by decide) (by decide) k)
    exact b147 T _ _ X eT N Zs x5 (1 : Int32) (d0) od0 (d1) od1 (d2) od2 (d3) od3 (d4) od4
  have b146 : ∀ (T : State) (L : List Loc) (h : Heap) (X : Stand p l e room_1 s m #[(.int p0), (.int p1), (.int p2)] below meth c T L 1 16) (eT : T.heap = h) (N : Fr n0 L) (Zs : n0 ≤ h.size) (x5 : Int32) (d0 : Slot) (od0 : OneS d0) (d1 : Slot) (od1 : OneS d1) (d2 : Slot) (od2 : OneS d2) (d3 : Slot) (od3 : OneS d3) (d4 : Slot) (od4 : OneS d4), Ends p e below s 1 16 (Q0 Z  h0 n0 (F0_146 x5)) (T.setTop (mkF m 146 #[d0, d1, d2, d3, d4, .val (.int x5), .unset] [])) := by
    intro T L h X eT N Zs x5 d0 od0 d1 od1 d2 od2 d3 od3 d4 od4
    refine Ends.step (u' := (T.setTop (mkF m 147 #[d0, d1, d2, d3, d4, .val (.int x5), .unset] [(.int (0 : Int32))]))) ?_ (fun _ k => XT.iconstV X.here hx rfl (0 : Int32) (hb hby at_146) rfl k)
    exact b147 T _ _ X eT N Zs x5 (0 : Int32) (d0) od0 (d1) od1 (d2) od2 (d3) od3 (d4) od4
  have b127 : ∀ (T : State) (L : List Loc) (h : Heap) (X : Stand p l e room_1 s m #[(.int p0), (.int p1), (.int p2)] below meth c T L 1 16) (eT : T.heap = h) (N : Fr n0 L) (Zs : n0 ≤ h.size) (x4 : Int32) (t0 : Int32) (d0 : Slot) (od0 : OneS d0) (d1 : Slot) (od1 : OneS d1) (d2 : Slot) (od2 : OneS d2) (d3 : Slot) (od3 : OneS d3), Ends p e below s 1 16 (Q0 Z  h0 n0 (F0_127 x4 t0)) (T.setTop (mkF m 127 #[d0, d1, d2, d3, .val (.int x4), .unset, .unset] [(.int t0)])) := by
    intro T L h X eT N Zs x4 t0 d0 od0 d1 od1 d2 od2 d3 od3
    refine Ends.step (u' := (T.setTop (mkF m 129 #[d0, d1, d2, d3, .val (.int x4), .val (.int t0), .unset] []))) ?_ (fun _ k => XS.istore X.here hx rfl (hb hby at_127) rfl (l' := #[d0, d1, d2, d3, .val (.int x4), .val (.int t0), .unset]) rfl k)
    refine Ends.step (u' := (T.setTop (mkF m 131 #[d0, d1, d2, d3, .val (.int x4), .val (.int t0), .unset] [(.int x4)]))) ?_ (fun _ k => XS.iload X.here hx rfl (hb hby at_129) rfl k)
    refine Ends.callS X hx hZ hown (hw _ (List.mem_of_getElem? (i := 13) rfl)) (hw _ (List.mem_of_getElem? (i := 14) rfl)) (hw _ (List.mem_of_getElem? (i := 15) rfl)) (hw _ (List.mem_of_getElem? (i := 16) rfl)) (by decide) (rm1 l Z a0 hw x4 h n0 Zs) 0 (by decide) (by decide) eT  (g := (mkF m 131 #[d0, d1, d2, d3, .val (.int x4), .val (.int t0), .unset] [(.int x4)])) rfl (by rw [hml]; rfl)  [(.int x4)] [] (lenOf pd_0 rfl) rfl (by show 2 * 0 + _ ≤ _; exact Nat.le_of_eq rfl) (hb hby at_131) rfl (by decide) (by decide) (fun v1 T1 L1 X1 hQ1 => ?_)
    obtain ⟨rfl, Nq1, e1⟩ := hQ1
    have N1 := Fr.app N Nq1
    show Ends p e below s _ _ _ (T1.setTop (mkF m 134 #[d0, d1, d2, d3, .val (.int x4), .val (.int t0), .unset] [(.int (F1 x4))]))
    refine Ends.step (u' := (T1.setTop (mkF m 136 #[d0, d1, d2, d3, .val (.int x4), .val (.int t0), .unset] [(.int x4), (.int (F1 x4))]))) ?_ (fun _ k => XS.iload X1.here hx rfl (hb hby at_134) rfl k)
    refine Ends.callS X1 hx hZ hown (hw _ (List.mem_of_getElem? (i := 19) rfl)) (hw _ (List.mem_of_getElem? (i := 20) rfl)) (hw _ (List.mem_of_getElem? (i := 21) rfl)) (hw _ (List.mem_of_getElem? (i := 22) rfl)) (by decide) (rm2 l Z a0 hw x4 h n0 Zs) 1 (by decide) (by decide) e1  (g := (mkF m 136 #[d0, d1, d2, d3, .val (.int x4), .val (.int t0), .unset] [(.int x4), (.int (F1 x4))])) rfl (by rw [hml]; rfl)  [(.int x4)] [(.int (F1 x4))] (lenOf pd_0 rfl) rfl (by show 2 * 0 + _ ≤ _; exact Nat.le_of_eq rfl) (hb hby at_136) rfl (by decide) (by decide) (fun v2 T2 L2 X2 hQ2 => ?_)
    obtain ⟨rfl, Nq2, e2⟩ := hQ2
    have N2 := Fr.app N1 Nq2
    show Ends p e below s _ _ _ (T2.setTop (mkF m 139 #[d0, d1, d2, d3, .val (.int x4), .val (.int t0), .unset] [(.int (F2 x4)), (.int (F1 x4))]))
    by_cases hc139 : (F1 x4) = (F2 x4)
    · refine Eq.mp (congrArg (fun z => Ends p e below s 1 16 (Q0 Z  h0 n0 z) (T2.setTop (mkF m 139 #[d0, d1, d2, d3, .val (.int x4), .val (.int t0), .unset] [(.int (F2 x4)), (.int (F1 x4))]))) (show (F0_127 x4 t0) = (F0_142 t0) from (if_pos hc139)).symm) ?_
      refine Ends.step (u' := (T2.setTop (mkF m 142 #[d0, d1, d2, d3, .val (.int x4), .val (.int t0), .unset] []))) ?_ (fun _ k => XS.icmpNo X2.here hx rfl (hb hby at_139) rfl (XT.ii_ne_f hc139) k)
      exact b142 T2 _ _ X2 e2 N2 Zs t0 (d0) od0 (d1) od1 (d2) od2 (d3) od3 (.val (.int x4)) (Or.inr ⟨_, rfl, rfl⟩)
    · refine Eq.mp (congrArg (fun z => Ends p e below s 1 16 (Q0 Z  h0 n0 z) (T2.setTop (mkF m 139 #[d0, d1, d2, d3, .val (.int x4), .val (.int t0), .unset] [(.int (F2 x4)), (.int (F1 x4))]))) (show (F0_127 x4 t0) = (F0_146 t0) from (if_neg hc139)).symm) ?_
      refine Ends.step (u' := (T2.setTop (mkF m 146 #[d0, d1, d2, d3, .val (.int x4), .val (.int t0), .unset] []))) ?_ (fun _ k => XS.icmpYes X2.here hx rfl (pc0 := 139) (pc' := 146) rfl (hb hby at_139) rfl (XT.ii_ne_t hc139) (by decide) (by decide) k)
      exact b146 T2 _ _ X2 e2 N2 Zs t0 (d0) od0 (d1) od1 (d2) od2 (d3) od3 (.val (.int x4)) (Or.inr ⟨_, rfl, rfl⟩)
  have b122 : ∀ (T : State) (L : List Loc) (h : Heap) (X : Stand p l e room_1 s m #[(.int p0), (.int p1), (.int p2)] below meth c T L 1 16) (eT : T.heap = h) (N : Fr n0 L) (Zs : n0 ≤ h.size) (x4 : Int32) (d0 : Slot) (od0 : OneS d0) (d1 : Slot) (od1 : OneS d1) (d2 : Slot) (od2 : OneS d2) (d3 : Slot) (od3 : OneS d3), Ends p e below s 1 16 (Q0 Z  h0 n0 (F0_122 x4)) (T.setTop (mkF m 122 #[d0, d1, d2, d3, .val (.int x4), .unset, .unset] [])) := by
    intro T L h X eT N Zs x4 d0 od0 d1 od1 d2 od2 d3 od3
    refine Ends.step (u' := (T.setTop (mkF m 123 #[d0, d1, d2, d3, .val (.int x4), .unset, .unset] [(.int (1 : Int32))]))) ?_ (fun _ k => XT.iconstV X.here hx rfl (1 : Int32) (hb hby at_122) rfl k)
    refine Ends.step (u' := (T.setTop (mkF m 127 #[d0, d1, d2, d3, .val (.int x4), .unset, .unset] [(.int (1 : Int32))]))) ?_ (fun _ k => XS.goto X.here hx rfl (pc0 := 123) (pc' := 127) rfl (hb hby at_123) (by decide) (by decide) k)
    exact b127 T _ _ X eT N Zs x4 (1 : Int32) (d0) od0 (d1) od1 (d2) od2 (d3) od3
  have b126 : ∀ (T : State) (L : List Loc) (h : Heap) (X : Stand p l e room_1 s m #[(.int p0), (.int p1), (.int p2)] below meth c T L 1 16) (eT : T.heap = h) (N : Fr n0 L) (Zs : n0 ≤ h.size) (x4 : Int32) (d0 : Slot) (od0 : OneS d0) (d1 : Slot) (od1 : OneS d1) (d2 : Slot) (od2 : OneS d2) (d3 : Slot) (od3 : OneS d3), Ends p e below s 1 16 (Q0 Z  h0 n0 (F0_126 x4)) (T.setTop (mkF m 126 #[d0, d1, d2, d3, .val (.int x4), .unset, .unset] [])) := by
    intro T L h X eT N Zs x4 d0 od0 d1 od1 d2 od2 d3 od3
    refine Ends.step (u' := (T.setTop (mkF m 127 #[d0, d1, d2, d3, .val (.int x4), .unset, .unset] [(.int (0 : Int32))]))) ?_ (fun _ k => XT.iconstV X.here hx rfl (0 : Int32) (hb hby at_126) rfl k)
    exact b127 T _ _ X eT N Zs x4 (0 : Int32) (d0) od0 (d1) od1 (d2) od2 (d3) od3
  have b111 : ∀ (T : State) (L : List Loc) (h : Heap) (X : Stand p l e room_1 s m #[(.int p0), (.int p1), (.int p2)] below meth c T L 1 16) (eT : T.heap = h) (N : Fr n0 L) (Zs : n0 ≤ h.size) (x0 : Int32) (x4 : Int32) (d1 : Slot) (od1 : OneS d1) (d2 : Slot) (od2 : OneS d2) (d3 : Slot) (od3 : OneS d3), Ends p e below s 1 16 (Q0 Z  h0 n0 (F0_111 x0 x4)) (T.setTop (mkF m 111 #[.val (.int x0), d1, d2, d3, .val (.int x4), .unset, .unset] [])) := by
    intro T L h X eT N Zs x0 x4 d1 od1 d2 od2 d3 od3
    refine Ends.step (u' := (T.setTop (mkF m 112 #[.val (.int x0), d1, d2, d3, .val (.int x4), .unset, .unset] [(.int x0)]))) ?_ (fun _ k => XS.iloadN X.here hx rfl (hb hby at_111) rfl k)
    refine Ends.callS X hx hZ hown (hw _ (List.mem_of_getElem? (i := 13) rfl)) (hw _ (List.mem_of_getElem? (i := 14) rfl)) (hw _ (List.mem_of_getElem? (i := 15) rfl)) (hw _ (List.mem_of_getElem? (i := 16) rfl)) (by decide) (rm1 l Z a0 hw x0 h n0 Zs) 0 (by decide) (by decide) eT  (g := (mkF m 112 #[.val (.int x0), d1, d2, d3, .val (.int x4), .unset, .unset] [(.int x0)])) rfl (by rw [hml]; rfl)  [(.int x0)] [] (lenOf pd_0 rfl) rfl (by show 2 * 0 + _ ≤ _; exact Nat.le_of_eq rfl) (hb hby at_112) rfl (by decide) (by decide) (fun v3 T3 L3 X3 hQ3 => ?_)
    obtain ⟨rfl, Nq3, e3⟩ := hQ3
    have N3 := Fr.app N Nq3
    show Ends p e below s _ _ _ (T3.setTop (mkF m 115 #[.val (.int x0), d1, d2, d3, .val (.int x4), .unset, .unset] [(.int (F1 x0))]))
    refine Ends.step (u' := (T3.setTop (mkF m 116 #[.val (.int x0), d1, d2, d3, .val (.int x4), .unset, .unset] [(.int x0), (.int (F1 x0))]))) ?_ (fun _ k => XS.iloadN X3.here hx rfl (hb hby at_115) rfl k)
    refine Ends.callS X3 hx hZ hown (hw _ (List.mem_of_getElem? (i := 19) rfl)) (hw _ (List.mem_of_getElem? (i := 20) rfl)) (hw _ (List.mem_of_getElem? (i := 21) rfl)) (hw _ (List.mem_of_getElem? (i := 22) rfl)) (by decide) (rm2 l Z a0 hw x0 h n0 Zs) 1 (by decide) (by decide) e3  (g := (mkF m 116 #[.val (.int x0), d1, d2, d3, .val (.int x4), .unset, .unset] [(.int x0), (.int (F1 x0))])) rfl (by rw [hml]; rfl)  [(.int x0)] [(.int (F1 x0))] (lenOf pd_0 rfl) rfl (by show 2 * 0 + _ ≤ _; exact Nat.le_of_eq rfl) (hb hby at_116) rfl (by decide) (by decide) (fun v4 T4 L4 X4 hQ4 => ?_)
    obtain ⟨rfl, Nq4, e4⟩ := hQ4
    have N4 := Fr.app N3 Nq4
    show Ends p e below s _ _ _ (T4.setTop (mkF m 119 #[.val (.int x0), d1, d2, d3, .val (.int x4), .unset, .unset] [(.int (F2 x0)), (.int (F1 x0))]))
    by_cases hc119 : (F1 x0) = (F2 x0)
    · refine Eq.mp (congrArg (fun z => Ends p e below s 1 16 (Q0 Z  h0 n0 z) (T4.setTop (mkF m 119 #[.val (.int x0), d1, d2, d3, .val (.int x4), .unset, .unset] [(.int (F2 x0)), (.int (F1 x0))]))) (show (F0_111 x0 x4) = (F0_122 x4) from (if_pos hc119)).symm) ?_
      refine Ends.step (u' := (T4.setTop (mkF m 122 #[.val (.int x0), d1, d2, d3, .val (.int x4), .unset, .unset] []))) ?_ (fun _ k => XS.icmpNo X4.here hx rfl (hb hby at_119) rfl (XT.ii_ne_f hc119) k)
      exact b122 T4 _ _ X4 e4 N4 Zs x4 (.val (.int x0)) (Or.inr ⟨_, rfl, rfl⟩) (d1) od1 (d2) od2 (d3) od3
    · refine Eq.mp (congrArg (fun z => Ends p e below s 1 16 (Q0 Z  h0 n0 z) (T4.setTop (mkF m 119 #[.val (.int x0), d1, d2, d3, .val (.int x4), .unset, .unset] [(.int (F2 x0)), (.int (F1 x0))]))) (show (F0_111 x0 x4) = (F0_126 x4) from (if_neg hc119)).symm) ?_
      refine Ends.step (u' := (T4.setTop (mkF m 126 #[.val (.int x0), d1, d2, d3, .val (.int x4), .unset, .unset] []))) ?_ (fun _ k => XS.icmpYes X4.here hx rfl (pc0 := 119) (pc' := 126) rfl (hb hby at_119) rfl (XT.ii_ne_t hc119) (by decide) (by decide) k)
      exact b126 T4 _ _ X4 e4 N4 Zs x4 (.val (.int x0)) (Or.inr ⟨_, rfl, rfl⟩) (d1) od1 (d2) od2 (d3) od3
  have b94 : ∀ (T : State) (L : List Loc) (h : Heap) (X : Stand p l e room_1 s m #[(.int p0), (.int p1), (.int p2)] below meth c T L 1 16) (eT : T.heap = h) (N : Fr n0 L) (Zs : n0 ≤ h.size) (cf_q2 : Nat → Int32) (x0 : Int32) (x1 : Int32) (x2 : Int32) (a_q2 : Addr) (g_q2 : n0 ≤ a_q2) (A_q2 : Ar Z h a_q2 .int 16 cf_q2) (ok : (O0_94 cf_q2 x0 x1 x2)), Ends p e below s 1 16 (Q0 Z  h0 n0 (F0_94 cf_q2 x0 x1 x2)) (T.setTop (mkF m 94 #[.val (.int x0), .val (.int x1), .val (.int x2), .val (.ref a_q2), .unset, .unset, .unset] [])) := by
    intro T L h X eT N Zs cf_q2 x0 x1 x2 a_q2 g_q2 A_q2 ok
    obtain ⟨o1, ok⟩ := ok
    refine Ends.step (u' := (T.setTop (mkF m 95 #[.val (.int x0), .val (.int x1), .val (.int x2), .val (.ref a_q2), .unset, .unset, .unset] [(.ref a_q2)]))) ?_ (fun _ k => XS.aloadN X.here hx rfl (hb hby at_94) rfl rfl k)
    refine Ends.step (u' := (T.setTop (mkF m 96 #[.val (.int x0), .val (.int x1), .val (.int x2), .val (.ref a_q2), .unset, .unset, .unset] [(.int x1), (.ref a_q2)]))) ?_ (fun _ k => XS.iloadN X.here hx rfl (hb hby at_95) rfl k)
    refine Ends.step (u' := (T.setTop (mkF m 98 #[.val (.int x0), .val (.int x1), .val (.int x2), .val (.ref a_q2), .unset, .unset, .unset] [(.int (15 : Int32)), (.int x1), (.ref a_q2)]))) ?_ (fun _ k => XT.bipushV X.here hx rfl (15 : Int32) (hb hby at_96) rfl k)
    refine Ends.step (u' := (T.setTop (mkF m 99 #[.val (.int x0), .val (.int x1), .val (.int x2), .val (.ref a_q2), .unset, .unset, .unset] [(.int (x1 &&& (15 : Int32))), (.ref a_q2)]))) ?_ (fun _ k => XS.iand X.here hx rfl (hb hby at_98) rfl k)
    refine Ends.iaload X hx hZ eT A_q2 o1 (g := (mkF m 99 #[.val (.int x0), .val (.int x1), .val (.int x2), .val (.ref a_q2), .unset, .unset, .unset] [(.int (x1 &&& (15 : Int32))), (.ref a_q2)])) rfl rfl (hb hby at_99) ?_
    show Ends p e below s _ _ _ (T.setTop (mkF m 100 #[.val (.int x0), .val (.int x1), .val (.int x2), .val (.ref a_q2), .unset, .unset, .unset] [(.int (cf_q2 ((x1 &&& (15 : Int32))).toNatClampNeg))]))
    refine Ends.step (u' := (T.setTop (mkF m 101 #[.val (.int x0), .val (.int x1), .val (.int x2), .val (.ref a_q2), .unset, .unset, .unset] [(.int x2), (.int (cf_q2 ((x1 &&& (15 : Int32))).toNatClampNeg))]))) ?_ (fun _ k => XS.iloadN X.here hx rfl (hb hby at_100) rfl k)
    refine Ends.step (u' := (T.setTop (mkF m 103 #[.val (.int x0), .val (.int x1), .val (.int x2), .val (.ref a_q2), .unset, .unset, .unset] [(.int (2147483647 : Int32)), (.int x2), (.int (cf_q2 ((x1 &&& (15 : Int32))).toNatClampNeg))]))) ?_ (fun _ k => X.ldcI hx hown (mvT hZ (hw _ (List.mem_of_getElem? (i := 12) rfl))) rfl (hb hby at_101) k)
    refine Ends.step (u' := (T.setTop (mkF m 104 #[.val (.int x0), .val (.int x1), .val (.int x2), .val (.ref a_q2), .unset, .unset, .unset] [(.int (x2 &&& (2147483647 : Int32))), (.int (cf_q2 ((x1 &&& (15 : Int32))).toNatClampNeg))]))) ?_ (fun _ k => XS.iand X.here hx rfl (hb hby at_103) rfl k)
    refine Ends.step (u' := (T.setTop (mkF m 105 #[.val (.int x0), .val (.int x1), .val (.int x2), .val (.ref a_q2), .unset, .unset, .unset] [(.int (5 : Int32)), (.int (x2 &&& (2147483647 : Int32))), (.int (cf_q2 ((x1 &&& (15 : Int32))).toNatClampNeg))]))) ?_ (fun _ k => XT.iconstV X.here hx rfl (5 : Int32) (hb hby at_104) rfl k)
    refine Ends.step (u' := (T.setTop (mkF m 106 #[.val (.int x0), .val (.int x1), .val (.int x2), .val (.ref a_q2), .unset, .unset, .unset] [(.int ((x2 &&& (2147483647 : Int32)) % (5 : Int32))), (.int (cf_q2 ((x1 &&& (15 : Int32))).toNatClampNeg))]))) ?_ (fun _ k => iremM X hx rfl (hb hby at_105) rfl (by decide) k)
    refine Ends.step (u' := (T.setTop (mkF m 107 #[.val (.int x0), .val (.int x1), .val (.int x2), .val (.ref a_q2), .unset, .unset, .unset] [(.int ((cf_q2 ((x1 &&& (15 : Int32))).toNatClampNeg) + ((x2 &&& (2147483647 : Int32)) % (5 : Int32))))]))) ?_ (fun _ k => XS.iadd X.here hx rfl (hb hby at_106) rfl k)
    refine Ends.step (u' := (T.setTop (mkF m 108 #[.val (.int x0), .val (.int x1), .val (.int x2), .val (.ref a_q2), .unset, .unset, .unset] [(.int (2 : Int32)), (.int ((cf_q2 ((x1 &&& (15 : Int32))).toNatClampNeg) + ((x2 &&& (2147483647 : Int32)) % (5 : Int32))))]))) ?_ (fun _ k => XT.iconstV X.here hx rfl (2 : Int32) (hb hby at_107) rfl k)
    refine Ends.step (u' := (T.setTop (mkF m 109 #[.val (.int x0), .val (.int x1), .val (.int x2), .val (.ref a_q2), .unset, .unset, .unset] [(.int (((cf_q2 ((x1 &&& (15 : Int32))).toNatClampNeg) + ((x2 &&& (2147483647 : Int32)) % (5 : Int32))) - (2 : Int32)))]))) ?_ (fun _ k => XS.isub X.here hx rfl (hb hby at_108) rfl k)
    refine Ends.step (u' := (T.setTop (mkF m 111 #[.val (.int x0), .val (.int x1), .val (.int x2), .val (.ref a_q2), .val (.int (((cf_q2 ((x1 &&& (15 : Int32))).toNatClampNeg) + ((x2 &&& (2147483647 : Int32)) % (5 : Int32))) - (2 : Int32))), .unset, .unset] []))) ?_ (fun _ k => XS.istore X.here hx rfl (hb hby at_109) rfl (l' := #[.val (.int x0), .val (.int x1), .val (.int x2), .val (.ref a_q2), .val (.int (((cf_q2 ((x1 &&& (15 : Int32))).toNatClampNeg) + ((x2 &&& (2147483647 : Int32)) % (5 : Int32))) - (2 : Int32))), .unset, .unset]) rfl k)
    exact b111 T _ _ X eT N Zs x0 (((cf_q2 ((x1 &&& (15 : Int32))).toNatClampNeg) + ((x2 &&& (2147483647 : Int32)) % (5 : Int32))) - (2 : Int32)) (.val (.int x1)) (Or.inr ⟨_, rfl, rfl⟩) (.val (.int x2)) (Or.inr ⟨_, rfl, rfl⟩) (.val (.ref a_q2)) (Or.inr ⟨_, rfl, rfl⟩)
  refine Ends.step (u' := (s₁.setTop (mkF m 0 #[.val (.int p0), .val (.int p1), .val (.int p2), .unset, .unset, .unset, .unset] []))) ?_ (fun _ k => castTop (ef_0 m p0 p1 p2) k)
  refine Ends.step (u' := (s₁.setTop (mkF m 2 #[.val (.int p0), .val (.int p1), .val (.int p2), .unset, .unset, .unset, .unset] [(.int (16 : Int32))]))) ?_ (fun _ k => XT.bipushV X0.here hx rfl (16 : Int32) (hb hby at_0) rfl k)
  refine Ends.newA X0 hx hZ (hw _ (List.mem_of_getElem? (i := 0) rfl)) e0 (g := (mkF m 2 #[.val (.int p0), .val (.int p1), .val (.int p2), .unset, .unset, .unset, .unset] [(.int (16 : Int32))])) rfl (hb hby at_2) rfl rfl (by decide) 16 (by decide) (by decide) (by decide) (by decide) (fun T5 h5 a5 X5 e5 E5 q5 A5 => ?_)
  have g6 : n0 ≤ a5 := q5 ▸ Z0
  have Z7 := Nat.le_trans Z0 E5.1
  show Ends p e below s _ _ _ (T5.setTop (mkF m 4 #[.val (.int p0), .val (.int p1), .val (.int p2), .unset, .unset, .unset, .unset] [(.ref a5)]))
  refine Ends.step (u' := (T5.setTop (mkF m 5 #[.val (.int p0), .val (.int p1), .val (.int p2), .unset, .unset, .unset, .unset] [(.ref a5), (.ref a5)]))) ?_ (fun _ k => XS.dup X5.here hx rfl (hb hby at_4) rfl rfl k)
  refine Ends.step (u' := (T5.setTop (mkF m 6 #[.val (.int p0), .val (.int p1), .val (.int p2), .unset, .unset, .unset, .unset] [(.int (0 : Int32)), (.ref a5), (.ref a5)]))) ?_ (fun _ k => XT.iconstV X5.here hx rfl (0 : Int32) (hb hby at_5) rfl k)
  refine Ends.step (u' := (T5.setTop (mkF m 8 #[.val (.int p0), .val (.int p1), .val (.int p2), .unset, .unset, .unset, .unset] [(.int (9 : Int32)), (.int (0 : Int32)), (.ref a5), (.ref a5)]))) ?_ (fun _ k => XT.bipushV X5.here hx rfl (9 : Int32) (hb hby at_6) rfl k)
  refine Ends.iastore X5 hx hZ e5 A5 (by unfold inb; decide) N0 g6 (g := (mkF m 8 #[.val (.int p0), .val (.int p1), .val (.int p2), .unset, .unset, .unset, .unset] [(.int (9 : Int32)), (.int (0 : Int32)), (.ref a5), (.ref a5)])) rfl rfl (hb hby at_8) (fun T8 h8 sl8 X8 e8 N8 W8 A8 => ?_)
  show Ends p e below s _ _ _ (T8.setTop (mkF m 9 #[.val (.int p0), .val (.int p1), .val (.int p2), .unset, .unset, .unset, .unset] [(.ref a5)]))
  have Z9 : n0 ≤ h8.size := W8.size.symm ▸ Z7
  refine Ends.step (u' := (T8.setTop (mkF m 10 #[.val (.int p0), .val (.int p1), .val (.int p2), .unset, .unset, .unset, .unset] [(.ref a5), (.ref a5)]))) ?_ (fun _ k => XS.dup X8.here hx rfl (hb hby at_9) rfl rfl k)
  refine Ends.step (u' := (T8.setTop (mkF m 11 #[.val (.int p0), .val (.int p1), .val (.int p2), .unset, .unset, .unset, .unset] [(.int (1 : Int32)), (.ref a5), (.ref a5)]))) ?_ (fun _ k => XT.iconstV X8.here hx rfl (1 : Int32) (hb hby at_10) rfl k)
  refine Ends.step (u' := (T8.setTop (mkF m 13 #[.val (.int p0), .val (.int p1), .val (.int p2), .unset, .unset, .unset, .unset] [(.int (13 : Int32)), (.int (1 : Int32)), (.ref a5), (.ref a5)]))) ?_ (fun _ k => XT.bipushV X8.here hx rfl (13 : Int32) (hb hby at_11) rfl k)
  refine Ends.iastore X8 hx hZ e8 A8 (by unfold inb; decide) N8 g6 (g := (mkF m 13 #[.val (.int p0), .val (.int p1), .val (.int p2), .unset, .unset, .unset, .unset] [(.int (13 : Int32)), (.int (1 : Int32)), (.ref a5), (.ref a5)])) rfl rfl (hb hby at_13) (fun T10 h10 sl10 X10 e10 N10 W10 A10 => ?_)
  show Ends p e below s _ _ _ (T10.setTop (mkF m 14 #[.val (.int p0), .val (.int p1), .val (.int p2), .unset, .unset, .unset, .unset] [(.ref a5)]))
  have Z11 : n0 ≤ h10.size := W10.size.symm ▸ Z9
  refine Ends.step (u' := (T10.setTop (mkF m 15 #[.val (.int p0), .val (.int p1), .val (.int p2), .unset, .unset, .unset, .unset] [(.ref a5), (.ref a5)]))) ?_ (fun _ k => XS.dup X10.here hx rfl (hb hby at_14) rfl rfl k)
  refine Ends.step (u' := (T10.setTop (mkF m 16 #[.val (.int p0), .val (.int p1), .val (.int p2), .unset, .unset, .unset, .unset] [(.int (2 : Int32)), (.ref a5), (.ref a5)]))) ?_ (fun _ k => XT.iconstV X10.here hx rfl (2 : Int32) (hb hby at_15) rfl k)
  refine Ends.step (u' := (T10.setTop (mkF m 18 #[.val (.int p0), .val (.int p1), .val (.int p2), .unset, .unset, .unset, .unset] [(.int (32 : Int32)), (.int (2 : Int32)), (.ref a5), (.ref a5)]))) ?_ (fun _ k => XT.bipushV X10.here hx rfl (32 : Int32) (hb hby at_16) rfl k)
  refine Ends.iastore X10 hx hZ e10 A10 (by unfold inb; decide) N10 g6 (g := (mkF m 18 #[.val (.int p0), .val (.int p1), .val (.int p2), .unset, .unset, .unset, .unset] [(.int (32 : Int32)), (.int (2 : Int32)), (.ref a5), (.ref a5)])) rfl rfl (hb hby at_18) (fun T12 h12 sl12 X12 e12 N12 W12 A12 => ?_)
  show Ends p e below s _ _ _ (T12.setTop (mkF m 19 #[.val (.int p0), .val (.int p1), .val (.int p2), .unset, .unset, .unset, .unset] [(.ref a5)]))
  have Z13 : n0 ≤ h12.size := W12.size.symm ▸ Z11
  refine Ends.step (u' := (T12.setTop (mkF m 20 #[.val (.int p0), .val (.int p1), .val (.int p2), .unset, .unset, .unset, .unset] [(.ref a5), (.ref a5)]))) ?_ (fun _ k => XS.dup X12.here hx rfl (hb hby at_19) rfl rfl k)
  refine Ends.step (u' := (T12.setTop (mkF m 21 #[.val (.int p0), .val (.int p1), .val (.int p2), .unset, .unset, .unset, .unset] [(.int (3 : Int32)), (.ref a5), (.ref a5)]))) ?_ (fun _ k => XT.iconstV X12.here hx rfl (3 : Int32) (hb hby at_20) rfl k)
  refine Ends.step (u' := (T12.setTop (mkF m 23 #[.val (.int p0), .val (.int p1), .val (.int p2), .unset, .unset, .unset, .unset] [(.int (55295 : Int32)), (.int (3 : Int32)), (.ref a5), (.ref a5)]))) ?_ (fun _ k => X12.ldcI hx hown (mvT hZ (hw _ (List.mem_of_getElem? (i := 1) rfl))) rfl (hb hby at_21) k)
  refine Ends.iastore X12 hx hZ e12 A12 (by unfold inb; decide) N12 g6 (g := (mkF m 23 #[.val (.int p0), .val (.int p1), .val (.int p2), .unset, .unset, .unset, .unset] [(.int (55295 : Int32)), (.int (3 : Int32)), (.ref a5), (.ref a5)])) rfl rfl (hb hby at_23) (fun T14 h14 sl14 X14 e14 N14 W14 A14 => ?_)
  show Ends p e below s _ _ _ (T14.setTop (mkF m 24 #[.val (.int p0), .val (.int p1), .val (.int p2), .unset, .unset, .unset, .unset] [(.ref a5)]))
  have Z15 : n0 ≤ h14.size := W14.size.symm ▸ Z13
  refine Ends.step (u' := (T14.setTop (mkF m 25 #[.val (.int p0), .val (.int p1), .val (.int p2), .unset, .unset, .unset, .unset] [(.ref a5), (.ref a5)]))) ?_ (fun _ k => XS.dup X14.here hx rfl (hb hby at_24) rfl rfl k)
  refine Ends.step (u' := (T14.setTop (mkF m 26 #[.val (.int p0), .val (.int p1), .val (.int p2), .unset, .unset, .unset, .unset] [(.int (4 : Int32)), (.ref a5), (.ref a5)]))) ?_ (fun _ k => XT.iconstV X14.here hx rfl (4 : Int32) (hb hby at_25) rfl k)
  refine Ends.step (u' := (T14.setTop (mkF m 28 #[.val (.int p0), .val (.int p1), .val (.int p2), .unset, .unset, .unset, .unset] [(.int (55296 : Int32)), (.int (4 : Int32)), (.ref a5), (.ref a5)]))) ?_ (fun _ k => X14.ldcI hx hown (mvT hZ (hw _ (List.mem_of_getElem? (i := 2) rfl))) rfl (hb hby at_26) k)
  refine Ends.iastore X14 hx hZ e14 A14 (by unfold inb; decide) N14 g6 (g := (mkF m 28 #[.val (.int p0), .val (.int p1), .val (.int p2), .unset, .unset, .unset, .unset] [(.int (55296 : Int32)), (.int (4 : Int32)), (.ref a5), (.ref a5)])) rfl rfl (hb hby at_28) (fun T16 h16 sl16 X16 e16 N16 W16 A16 => ?_)
  show Ends p e below s _ _ _ (T16.setTop (mkF m 29 #[.val (.int p0), .val (.int p1), .val (.int p2), .unset, .unset, .unset, .unset] [(.ref a5)]))
  have Z17 : n0 ≤ h16.size := W16.size.symm ▸ Z15
  refine Ends.step (u' := (T16.setTop (mkF m 30 #[.val (.int p0), .val (.int p1), .val (.int p2), .unset, .unset, .unset, .unset] [(.ref a5), (.ref a5)]))) ?_ (fun _ k => XS.dup X16.here hx rfl (hb hby at_29) rfl rfl k)
  refine Ends.step (u' := (T16.setTop (mkF m 31 #[.val (.int p0), .val (.int p1), .val (.int p2), .unset, .unset, .unset, .unset] [(.int (5 : Int32)), (.ref a5), (.ref a5)]))) ?_ (fun _ k => XT.iconstV X16.here hx rfl (5 : Int32) (hb hby at_30) rfl k)
  refine Ends.step (u' := (T16.setTop (mkF m 33 #[.val (.int p0), .val (.int p1), .val (.int p2), .unset, .unset, .unset, .unset] [(.int (57343 : Int32)), (.int (5 : Int32)), (.ref a5), (.ref a5)]))) ?_ (fun _ k => X16.ldcI hx hown (mvT hZ (hw _ (List.mem_of_getElem? (i := 3) rfl))) rfl (hb hby at_31) k)
  refine Ends.iastore X16 hx hZ e16 A16 (by unfold inb; decide) N16 g6 (g := (mkF m 33 #[.val (.int p0), .val (.int p1), .val (.int p2), .unset, .unset, .unset, .unset] [(.int (57343 : Int32)), (.int (5 : Int32)), (.ref a5), (.ref a5)])) rfl rfl (hb hby at_33) (fun T18 h18 sl18 X18 e18 N18 W18 A18 => ?_)
  show Ends p e below s _ _ _ (T18.setTop (mkF m 34 #[.val (.int p0), .val (.int p1), .val (.int p2), .unset, .unset, .unset, .unset] [(.ref a5)]))
  have Z19 : n0 ≤ h18.size := W18.size.symm ▸ Z17
  refine Ends.step (u' := (T18.setTop (mkF m 35 #[.val (.int p0), .val (.int p1), .val (.int p2), .unset, .unset, .unset, .unset] [(.ref a5), (.ref a5)]))) ?_ (fun _ k => XS.dup X18.here hx rfl (hb hby at_34) rfl rfl k)
  refine Ends.step (u' := (T18.setTop (mkF m 37 #[.val (.int p0), .val (.int p1), .val (.int p2), .unset, .unset, .unset, .unset] [(.int (6 : Int32)), (.ref a5), (.ref a5)]))) ?_ (fun _ k => XT.bipushV X18.here hx rfl (6 : Int32) (hb hby at_35) rfl k)
  refine Ends.step (u' := (T18.setTop (mkF m 39 #[.val (.int p0), .val (.int p1), .val (.int p2), .unset, .unset, .unset, .unset] [(.int (57344 : Int32)), (.int (6 : Int32)), (.ref a5), (.ref a5)]))) ?_ (fun _ k => X18.ldcI hx hown (mvT hZ (hw _ (List.mem_of_getElem? (i := 4) rfl))) rfl (hb hby at_37) k)
  refine Ends.iastore X18 hx hZ e18 A18 (by unfold inb; decide) N18 g6 (g := (mkF m 39 #[.val (.int p0), .val (.int p1), .val (.int p2), .unset, .unset, .unset, .unset] [(.int (57344 : Int32)), (.int (6 : Int32)), (.ref a5), (.ref a5)])) rfl rfl (hb hby at_39) (fun T20 h20 sl20 X20 e20 N20 W20 A20 => ?_)
  show Ends p e below s _ _ _ (T20.setTop (mkF m 40 #[.val (.int p0), .val (.int p1), .val (.int p2), .unset, .unset, .unset, .unset] [(.ref a5)]))
  have Z21 : n0 ≤ h20.size := W20.size.symm ▸ Z19
  refine Ends.step (u' := (T20.setTop (mkF m 41 #[.val (.int p0), .val (.int p1), .val (.int p2), .unset, .unset, .unset, .unset] [(.ref a5), (.ref a5)]))) ?_ (fun _ k => XS.dup X20.here hx rfl (hb hby at_40) rfl rfl k)
  refine Ends.step (u' := (T20.setTop (mkF m 43 #[.val (.int p0), .val (.int p1), .val (.int p2), .unset, .unset, .unset, .unset] [(.int (7 : Int32)), (.ref a5), (.ref a5)]))) ?_ (fun _ k => XT.bipushV X20.here hx rfl (7 : Int32) (hb hby at_41) rfl k)
  refine Ends.step (u' := (T20.setTop (mkF m 45 #[.val (.int p0), .val (.int p1), .val (.int p2), .unset, .unset, .unset, .unset] [(.int (65533 : Int32)), (.int (7 : Int32)), (.ref a5), (.ref a5)]))) ?_ (fun _ k => X20.ldcI hx hown (mvT hZ (hw _ (List.mem_of_getElem? (i := 5) rfl))) rfl (hb hby at_43) k)
  refine Ends.iastore X20 hx hZ e20 A20 (by unfold inb; decide) N20 g6 (g := (mkF m 45 #[.val (.int p0), .val (.int p1), .val (.int p2), .unset, .unset, .unset, .unset] [(.int (65533 : Int32)), (.int (7 : Int32)), (.ref a5), (.ref a5)])) rfl rfl (hb hby at_45) (fun T22 h22 sl22 X22 e22 N22 W22 A22 => ?_)
  show Ends p e below s _ _ _ (T22.setTop (mkF m 46 #[.val (.int p0), .val (.int p1), .val (.int p2), .unset, .unset, .unset, .unset] [(.ref a5)]))
  have Z23 : n0 ≤ h22.size := W22.size.symm ▸ Z21
  refine Ends.step (u' := (T22.setTop (mkF m 47 #[.val (.int p0), .val (.int p1), .val (.int p2), .unset, .unset, .unset, .unset] [(.ref a5), (.ref a5)]))) ?_ (fun _ k => XS.dup X22.here hx rfl (hb hby at_46) rfl rfl k)
  refine Ends.step (u' := (T22.setTop (mkF m 49 #[.val (.int p0), .val (.int p1), .val (.int p2), .unset, .unset, .unset, .unset] [(.int (8 : Int32)), (.ref a5), (.ref a5)]))) ?_ (fun _ k => XT.bipushV X22.here hx rfl (8 : Int32) (hb hby at_47) rfl k)
  refine Ends.step (u' := (T22.setTop (mkF m 51 #[.val (.int p0), .val (.int p1), .val (.int p2), .unset, .unset, .unset, .unset] [(.int (65535 : Int32)), (.int (8 : Int32)), (.ref a5), (.ref a5)]))) ?_ (fun _ k => X22.ldcI hx hown (mvT hZ (hw _ (List.mem_of_getElem? (i := 6) rfl))) rfl (hb hby at_49) k)
  refine Ends.iastore X22 hx hZ e22 A22 (by unfold inb; decide) N22 g6 (g := (mkF m 51 #[.val (.int p0), .val (.int p1), .val (.int p2), .unset, .unset, .unset, .unset] [(.int (65535 : Int32)), (.int (8 : Int32)), (.ref a5), (.ref a5)])) rfl rfl (hb hby at_51) (fun T24 h24 sl24 X24 e24 N24 W24 A24 => ?_)
  show Ends p e below s _ _ _ (T24.setTop (mkF m 52 #[.val (.int p0), .val (.int p1), .val (.int p2), .unset, .unset, .unset, .unset] [(.ref a5)]))
  have Z25 : n0 ≤ h24.size := W24.size.symm ▸ Z23
  refine Ends.step (u' := (T24.setTop (mkF m 53 #[.val (.int p0), .val (.int p1), .val (.int p2), .unset, .unset, .unset, .unset] [(.ref a5), (.ref a5)]))) ?_ (fun _ k => XS.dup X24.here hx rfl (hb hby at_52) rfl rfl k)
  refine Ends.step (u' := (T24.setTop (mkF m 55 #[.val (.int p0), .val (.int p1), .val (.int p2), .unset, .unset, .unset, .unset] [(.int (9 : Int32)), (.ref a5), (.ref a5)]))) ?_ (fun _ k => XT.bipushV X24.here hx rfl (9 : Int32) (hb hby at_53) rfl k)
  refine Ends.step (u' := (T24.setTop (mkF m 57 #[.val (.int p0), .val (.int p1), .val (.int p2), .unset, .unset, .unset, .unset] [(.int (65536 : Int32)), (.int (9 : Int32)), (.ref a5), (.ref a5)]))) ?_ (fun _ k => X24.ldcI hx hown (mvT hZ (hw _ (List.mem_of_getElem? (i := 7) rfl))) rfl (hb hby at_55) k)
  refine Ends.iastore X24 hx hZ e24 A24 (by unfold inb; decide) N24 g6 (g := (mkF m 57 #[.val (.int p0), .val (.int p1), .val (.int p2), .unset, .unset, .unset, .unset] [(.int (65536 : Int32)), (.int (9 : Int32)), (.ref a5), (.ref a5)])) rfl rfl (hb hby at_57) (fun T26 h26 sl26 X26 e26 N26 W26 A26 => ?_)
  show Ends p e below s _ _ _ (T26.setTop (mkF m 58 #[.val (.int p0), .val (.int p1), .val (.int p2), .unset, .unset, .unset, .unset] [(.ref a5)]))
  have Z27 : n0 ≤ h26.size := W26.size.symm ▸ Z25
  refine Ends.step (u' := (T26.setTop (mkF m 59 #[.val (.int p0), .val (.int p1), .val (.int p2), .unset, .unset, .unset, .unset] [(.ref a5), (.ref a5)]))) ?_ (fun _ k => XS.dup X26.here hx rfl (hb hby at_58) rfl rfl k)
  refine Ends.step (u' := (T26.setTop (mkF m 61 #[.val (.int p0), .val (.int p1), .val (.int p2), .unset, .unset, .unset, .unset] [(.int (10 : Int32)), (.ref a5), (.ref a5)]))) ?_ (fun _ k => XT.bipushV X26.here hx rfl (10 : Int32) (hb hby at_59) rfl k)
  refine Ends.step (u' := (T26.setTop (mkF m 63 #[.val (.int p0), .val (.int p1), .val (.int p2), .unset, .unset, .unset, .unset] [(.int (1114111 : Int32)), (.int (10 : Int32)), (.ref a5), (.ref a5)]))) ?_ (fun _ k => X26.ldcI hx hown (mvT hZ (hw _ (List.mem_of_getElem? (i := 8) rfl))) rfl (hb hby at_61) k)
  refine Ends.iastore X26 hx hZ e26 A26 (by unfold inb; decide) N26 g6 (g := (mkF m 63 #[.val (.int p0), .val (.int p1), .val (.int p2), .unset, .unset, .unset, .unset] [(.int (1114111 : Int32)), (.int (10 : Int32)), (.ref a5), (.ref a5)])) rfl rfl (hb hby at_63) (fun T28 h28 sl28 X28 e28 N28 W28 A28 => ?_)
  show Ends p e below s _ _ _ (T28.setTop (mkF m 64 #[.val (.int p0), .val (.int p1), .val (.int p2), .unset, .unset, .unset, .unset] [(.ref a5)]))
  have Z29 : n0 ≤ h28.size := W28.size.symm ▸ Z27
  refine Ends.step (u' := (T28.setTop (mkF m 65 #[.val (.int p0), .val (.int p1), .val (.int p2), .unset, .unset, .unset, .unset] [(.ref a5), (.ref a5)]))) ?_ (fun _ k => XS.dup X28.here hx rfl (hb hby at_64) rfl rfl k)
  refine Ends.step (u' := (T28.setTop (mkF m 67 #[.val (.int p0), .val (.int p1), .val (.int p2), .unset, .unset, .unset, .unset] [(.int (11 : Int32)), (.ref a5), (.ref a5)]))) ?_ (fun _ k => XT.bipushV X28.here hx rfl (11 : Int32) (hb hby at_65) rfl k)
  refine Ends.step (u' := (T28.setTop (mkF m 69 #[.val (.int p0), .val (.int p1), .val (.int p2), .unset, .unset, .unset, .unset] [(.int (1114112 : Int32)), (.int (11 : Int32)), (.ref a5), (.ref a5)]))) ?_ (fun _ k => X28.ldcI hx hown (mvT hZ (hw _ (List.mem_of_getElem? (i := 9) rfl))) rfl (hb hby at_67) k)
  refine Ends.iastore X28 hx hZ e28 A28 (by unfold inb; decide) N28 g6 (g := (mkF m 69 #[.val (.int p0), .val (.int p1), .val (.int p2), .unset, .unset, .unset, .unset] [(.int (1114112 : Int32)), (.int (11 : Int32)), (.ref a5), (.ref a5)])) rfl rfl (hb hby at_69) (fun T30 h30 sl30 X30 e30 N30 W30 A30 => ?_)
  show Ends p e below s _ _ _ (T30.setTop (mkF m 70 #[.val (.int p0), .val (.int p1), .val (.int p2), .unset, .unset, .unset, .unset] [(.ref a5)]))
  have Z31 : n0 ≤ h30.size := W30.size.symm ▸ Z29
  refine Ends.step (u' := (T30.setTop (mkF m 71 #[.val (.int p0), .val (.int p1), .val (.int p2), .unset, .unset, .unset, .unset] [(.ref a5), (.ref a5)]))) ?_ (fun _ k => XS.dup X30.here hx rfl (hb hby at_70) rfl rfl k)
  refine Ends.step (u' := (T30.setTop (mkF m 73 #[.val (.int p0), .val (.int p1), .val (.int p2), .unset, .unset, .unset, .unset] [(.int (12 : Int32)), (.ref a5), (.ref a5)]))) ?_ (fun _ k => XT.bipushV X30.here hx rfl (12 : Int32) (hb hby at_71) rfl k)
  refine Ends.step (u' := (T30.setTop (mkF m 75 #[.val (.int p0), .val (.int p1), .val (.int p2), .unset, .unset, .unset, .unset] [(.int (-2147483646 : Int32)), (.int (12 : Int32)), (.ref a5), (.ref a5)]))) ?_ (fun _ k => X30.ldcI hx hown (mvT hZ (hw _ (List.mem_of_getElem? (i := 10) rfl))) rfl (hb hby at_73) k)
  refine Ends.iastore X30 hx hZ e30 A30 (by unfold inb; decide) N30 g6 (g := (mkF m 75 #[.val (.int p0), .val (.int p1), .val (.int p2), .unset, .unset, .unset, .unset] [(.int (-2147483646 : Int32)), (.int (12 : Int32)), (.ref a5), (.ref a5)])) rfl rfl (hb hby at_75) (fun T32 h32 sl32 X32 e32 N32 W32 A32 => ?_)
  show Ends p e below s _ _ _ (T32.setTop (mkF m 76 #[.val (.int p0), .val (.int p1), .val (.int p2), .unset, .unset, .unset, .unset] [(.ref a5)]))
  have Z33 : n0 ≤ h32.size := W32.size.symm ▸ Z31
  refine Ends.step (u' := (T32.setTop (mkF m 77 #[.val (.int p0), .val (.int p1), .val (.int p2), .unset, .unset, .unset, .unset] [(.ref a5), (.ref a5)]))) ?_ (fun _ k => XS.dup X32.here hx rfl (hb hby at_76) rfl rfl k)
  refine Ends.step (u' := (T32.setTop (mkF m 79 #[.val (.int p0), .val (.int p1), .val (.int p2), .unset, .unset, .unset, .unset] [(.int (13 : Int32)), (.ref a5), (.ref a5)]))) ?_ (fun _ k => XT.bipushV X32.here hx rfl (13 : Int32) (hb hby at_77) rfl k)
  refine Ends.step (u' := (T32.setTop (mkF m 81 #[.val (.int p0), .val (.int p1), .val (.int p2), .unset, .unset, .unset, .unset] [(.int (2147483645 : Int32)), (.int (13 : Int32)), (.ref a5), (.ref a5)]))) ?_ (fun _ k => X32.ldcI hx hown (mvT hZ (hw _ (List.mem_of_getElem? (i := 11) rfl))) rfl (hb hby at_79) k)
  refine Ends.iastore X32 hx hZ e32 A32 (by unfold inb; decide) N32 g6 (g := (mkF m 81 #[.val (.int p0), .val (.int p1), .val (.int p2), .unset, .unset, .unset, .unset] [(.int (2147483645 : Int32)), (.int (13 : Int32)), (.ref a5), (.ref a5)])) rfl rfl (hb hby at_81) (fun T34 h34 sl34 X34 e34 N34 W34 A34 => ?_)
  show Ends p e below s _ _ _ (T34.setTop (mkF m 82 #[.val (.int p0), .val (.int p1), .val (.int p2), .unset, .unset, .unset, .unset] [(.ref a5)]))
  have Z35 : n0 ≤ h34.size := W34.size.symm ▸ Z33
  refine Ends.step (u' := (T34.setTop (mkF m 83 #[.val (.int p0), .val (.int p1), .val (.int p2), .unset, .unset, .unset, .unset] [(.ref a5), (.ref a5)]))) ?_ (fun _ k => XS.dup X34.here hx rfl (hb hby at_82) rfl rfl k)
  refine Ends.step (u' := (T34.setTop (mkF m 85 #[.val (.int p0), .val (.int p1), .val (.int p2), .unset, .unset, .unset, .unset] [(.int (14 : Int32)), (.ref a5), (.ref a5)]))) ?_ (fun _ k => XT.bipushV X34.here hx rfl (14 : Int32) (hb hby at_83) rfl k)
  refine Ends.step (u' := (T34.setTop (mkF m 86 #[.val (.int p0), .val (.int p1), .val (.int p2), .unset, .unset, .unset, .unset] [(.int (0 : Int32)), (.int (14 : Int32)), (.ref a5), (.ref a5)]))) ?_ (fun _ k => XT.iconstV X34.here hx rfl (0 : Int32) (hb hby at_85) rfl k)
  refine Ends.iastore X34 hx hZ e34 A34 (by unfold inb; decide) N34 g6 (g := (mkF m 86 #[.val (.int p0), .val (.int p1), .val (.int p2), .unset, .unset, .unset, .unset] [(.int (0 : Int32)), (.int (14 : Int32)), (.ref a5), (.ref a5)])) rfl rfl (hb hby at_86) (fun T36 h36 sl36 X36 e36 N36 W36 A36 => ?_)
  show Ends p e below s _ _ _ (T36.setTop (mkF m 87 #[.val (.int p0), .val (.int p1), .val (.int p2), .unset, .unset, .unset, .unset] [(.ref a5)]))
  have Z37 : n0 ≤ h36.size := W36.size.symm ▸ Z35
  refine Ends.step (u' := (T36.setTop (mkF m 88 #[.val (.int p0), .val (.int p1), .val (.int p2), .unset, .unset, .unset, .unset] [(.ref a5), (.ref a5)]))) ?_ (fun _ k => XS.dup X36.here hx rfl (hb hby at_87) rfl rfl k)
  refine Ends.step (u' := (T36.setTop (mkF m 90 #[.val (.int p0), .val (.int p1), .val (.int p2), .unset, .unset, .unset, .unset] [(.int (15 : Int32)), (.ref a5), (.ref a5)]))) ?_ (fun _ k => XT.bipushV X36.here hx rfl (15 : Int32) (hb hby at_88) rfl k)
  refine Ends.step (u' := (T36.setTop (mkF m 92 #[.val (.int p0), .val (.int p1), .val (.int p2), .unset, .unset, .unset, .unset] [(.int (127 : Int32)), (.int (15 : Int32)), (.ref a5), (.ref a5)]))) ?_ (fun _ k => XT.bipushV X36.here hx rfl (127 : Int32) (hb hby at_90) rfl k)
  refine Ends.iastore X36 hx hZ e36 A36 (by unfold inb; decide) N36 g6 (g := (mkF m 92 #[.val (.int p0), .val (.int p1), .val (.int p2), .unset, .unset, .unset, .unset] [(.int (127 : Int32)), (.int (15 : Int32)), (.ref a5), (.ref a5)])) rfl rfl (hb hby at_92) (fun T38 h38 sl38 X38 e38 N38 W38 A38 => ?_)
  show Ends p e below s _ _ _ (T38.setTop (mkF m 93 #[.val (.int p0), .val (.int p1), .val (.int p2), .unset, .unset, .unset, .unset] [(.ref a5)]))
  have Z39 : n0 ≤ h38.size := W38.size.symm ▸ Z37
  refine Ends.step (u' := (T38.setTop (mkF m 94 #[.val (.int p0), .val (.int p1), .val (.int p2), .val (.ref a5), .unset, .unset, .unset] []))) ?_ (fun _ k => XS.astoreN X38.here hx rfl (hb hby at_93) rfl rfl (l' := #[.val (.int p0), .val (.int p1), .val (.int p2), .val (.ref a5), .unset, .unset, .unset]) rfl k)
  exact b94 T38 _ _ X38 e38 N38 Z39 (upd (upd (upd (upd (upd (upd (upd (upd (upd (upd (upd (upd (upd (upd (upd (upd (fun _ => 0) 0 (9 : Int32)) 1 (13 : Int32)) 2 (32 : Int32)) 3 (55295 : Int32)) 4 (55296 : Int32)) 5 (57343 : Int32)) 6 (57344 : Int32)) 7 (65533 : Int32)) 8 (65535 : Int32)) 9 (65536 : Int32)) 10 (1114111 : Int32)) 11 (1114112 : Int32)) 12 (-2147483646 : Int32)) 13 (2147483645 : Int32)) 14 (0 : Int32)) 15 (127 : Int32)) p0 p1 p2 a5 g6 A38 ok
theorem own_1 : nar .boolean 1 = 1 := rfl
theorem own_0 : nar .boolean 0 = 0 := rfl
theorem own_ne : ((1 : Int32) = 0) = False := by decide
theorem own_rng (x lo hi : Int32) (A B : Int32) : (if x < lo then A else if hi < x then A else B) = if (lo.toInt ≤ x.toInt ∧ x.toInt ≤ hi.toInt) then B else A := by
  simp only [Int32.lt_iff_toInt_lt]
  split
  · rw [if_neg (by omega)]
  · split
    · rw [if_neg (by omega)]
    · rw [if_pos (by omega)]
theorem own_eq (x c : Int32) (A B : Int32) : (if x = c then A else B) = if x.toInt = c.toInt then A else B := by
  simp only [Int32.toInt_inj]
theorem own_or (p q : Prop) [Decidable p] [Decidable q] : (if p then (1 : Int32) else if q then 1 else 0) = if p ∨ q then 1 else 0 := by
  by_cases hp : p <;> by_cases hq : q <;> simp [hp, hq]
theorem own_and (p q : Prop) [Decidable p] [Decidable q] : (if p then (0 : Int32) else if q then 1 else 0) = if ¬ p ∧ q then 1 else 0 := by
  by_cases hp : p <;> by_cases hq : q <;> simp [hp, hq]
theorem own_no (p : Prop) [Decidable p] : (if p then (0 : Int32) else 1) = if ¬ p then 1 else 0 := by
  by_cases hp : p <;> simp [hp]
theorem own_imp (p q : Prop) [Decidable p] [Decidable q] : (if p then (if q then (1 : Int32) else 0) else 0) = if p ∧ q then 1 else 0 := by
  by_cases hp : p <;> by_cases hq : q <;> simp [hp, hq]
theorem own_toInt (x : Int32) (h : x.toBitVec.toNat < 2 ^ 31) : x.toInt = x.toBitVec.toNat := by
  show x.toBitVec.toInt = _
  rw [BitVec.toInt_eq_toNat_cond, if_pos (by omega)]
theorem own_nonneg (x : Int32) (h : 0 ≤ x.toInt) : x.toBitVec.toNat < 2 ^ 31 := by
  have h' : 0 ≤ x.toBitVec.toInt := h
  rw [BitVec.toInt_eq_toNat_cond] at h'
  split at h' <;> omega
theorem own_band (x c : Int32) (hc : 0 ≤ c.toInt) : 0 ≤ (x &&& c).toInt ∧ (x &&& c).toInt ≤ c.toInt := by
  have hb := own_nonneg c hc
  have e : (x &&& c).toBitVec.toNat = x.toBitVec.toNat &&& c.toBitVec.toNat := by rw [Int32.toBitVec_and, BitVec.toNat_and]
  have l : x.toBitVec.toNat &&& c.toBitVec.toNat ≤ c.toBitVec.toNat := Nat.and_le_right
  rw [own_toInt (x &&& c) (by omega), own_toInt c hb, e]
  omega
theorem own_inb (j : Int32) (n : Nat) (h0 : 0 ≤ j.toInt) (h1 : j.toInt < n) : inb j n := by
  intro h
  rcases h with h | h
  · rw [Int32.lt_iff_toInt_lt] at h
    have : (0 : Int32).toInt = 0 := rfl
    omega
  · simp only [Int32.toNatClampNeg] at h
    omega
theorem own_C1 (x : Int32) : F1 x = if (x.toInt = 9 ∨ (x.toInt = 10 ∨ (x.toInt = 13 ∨ ((32 ≤ x.toInt ∧ x.toInt ≤ 55295) ∨ ((57344 ≤ x.toInt ∧ x.toInt ≤ 65533) ∨ (65536 ≤ x.toInt ∧ x.toInt ≤ 1114111)))))) then 1 else 0 := by
  have e_F1 : F1 x = if x.toInt = 9 then 1 else F1_6 x := own_eq x 9 1 _
  have e_F1_6 : F1_6 x = if x.toInt = 10 then 1 else F1_12 x := own_eq x 10 1 _
  have e_F1_12 : F1_12 x = if x.toInt = 13 then 1 else F1_18 x := own_eq x 13 1 _
  have e_F1_18 : F1_18 x = if (32 ≤ x.toInt ∧ x.toInt ≤ 55295) then 1 else F1_30 x := own_rng x 32 55295 _ _
  have e_F1_30 : F1_30 x = if (57344 ≤ x.toInt ∧ x.toInt ≤ 65533) then 1 else F1_42 x := own_rng x 57344 65533 _ _
  have e_F1_42 : F1_42 x = if (65536 ≤ x.toInt ∧ x.toInt ≤ 1114111) then 1 else 0 := own_rng x 65536 1114111 _ _
  rw [e_F1, e_F1_6, e_F1_12, e_F1_18, e_F1_30, e_F1_42]
  simp only [own_or, own_and, own_no, own_imp]
theorem own_same (x : Int32) : F1 x = F2 x := by
  rw [own_C1]
  simp only [F2, F2_4, F2_10, F2_12, F2_18, F2_24, F2_30, F2_36, F2_40, F2_41, F2_42, F2_48, F2_54, F2_56, F2_62, F2_68, F2_70, own_0, own_1, Int32.lt_iff_toInt_lt, ← Int32.toInt_inj, Int32.reduceToInt]
  generalize x.toInt = k
  repeat' split
  all_goals first | rfl | (exfalso; omega)
theorem own_111 (x y : Int32) : F0_111 x y = 1 := by
  simp only [F0_111, F0_122, F0_127, F0_142, F0_147, F0_154, own_same, if_true]
  rfl
theorem own_law (i0 : Int32) (i1 : Int32) (i2 : Int32) : O0 i0 i1 i2 ∧ F0 i0 i1 i2 = 1 := by
  have h := own_band i1 15 (by decide)
  have e : (15 : Int32).toInt = 15 := rfl
  exact ⟨⟨own_inb _ _ (by omega) (by omega), trivial⟩, own_111 _ _⟩
set_option maxRecDepth 65536 in
set_option maxHeartbeats 40000000 in
theorem comes_1 {Post : Tables → Env → Array Value → State → Outcome → State → Prop} (hpost : ∀ tb e args s v u, (limb_1_1.after args s (.returned v) u = true ∧ limb_1_2.after args s (.returned v) u = true ∧ True) → FrameEnd s (.returned v) u (Jvm.fieldLocs frame_1_writes args s ++ Jvm.arrayLocs frame_1_arrays args s ++ Jvm.staticLocs frame_1_statics s) 16 128 → Post tb e args s (.returned v) u) :
    ArmFor flags0 classFile x code maxLocals ret World_1 tables_1 room_1 Calls_1 rest_1 Pre_1 Post := by
  intro l hfl _ _ p e ha hc hk s m args below hf hA hF happ hP
  obtain ⟨hcalls, hrest, hpre⟩ := hP
  obtain ⟨-, -, -, hnamed, -, -, -, hat⟩ := (Spec.applies_iff hf).mp happ
  obtain ⟨hg, hn⟩ := and_e (Cond.before_iff.mp (show (Jvm.Cond.and given_1 narrow_1).before args s = true from hpre))
  obtain ⟨h1, r0⟩ := and_e hg
  obtain ⟨k0, r1⟩ := and_e r0
  obtain ⟨k1, r2⟩ := and_e r1
  obtain ⟨w0, w1, w2, rfl⟩ : ∃ w0 w1 w2 : Value, args = #[w0, w1, w2] := by
    have hs : args.size = 3 := by simpa [Cond.value, given_1] using h1
    obtain ⟨L⟩ := args
    match L, hs with
    | [w0, w1, w2], _ => exact ⟨w0, w1, w2, rfl⟩
  have hw := fun d (hd : d ∈ tables_1) => atoms_spec (ws := Jvm.Cond.code x code maxLocals ret :: tables_1) hat d (List.mem_cons_of_mem _ hd)
  obtain ⟨i0, e0⟩ := is_v k0
  obtain rfl : w0 = (.int i0) := Option.some.inj e0
  obtain ⟨i1, e1⟩ := is_v k1
  obtain rfl : w1 = (.int i1) := Option.some.inj e1
  obtain ⟨i2, e2⟩ := is_v r2
  obtain rfl : w2 = (.int i2) := Option.some.inj e2
  obtain ⟨ok, val⟩ := own_law i0 i1 i2
  obtain ⟨n, o, h1, h2, h3, _, L, rfl, ⟨rfl, N⟩, hq⟩ := rm0 l s _ hw i0 i1 i2 s.heap s.heap.size (Nat.le_refl _) ok p e ha hc hk s m _ below hf ((Spec.applies_iff_loose hf).mp happ).1 ⟨rfl, State.Warmed39.refl s, rfl⟩ trivial
  refine ⟨n, _, h1, h2, h3, hpost _ _ _ _ _ _ ⟨Cond.after_iff.mpr rfl, Cond.after_iff.mpr (eq_i res_at (Term.int_eval (1)) (by rw [val])), trivial⟩ ⟨hq.1, hq.2.1, (hq.2.2.sift fun y hy => Or.inr (N y hy)).mono (by decide) (by decide)⟩⟩
theorem main_1_1 : Claimed_1_1 := comes_1 fun _ _ _ _ _ _ h hF => ⟨h.1, hF⟩
theorem main_1_2 : Claimed_1_2 := comes_1 fun _ _ _ _ _ _ h hF => ⟨h.2.1, hF⟩
end Jvm.Pilot.@@N@@
namespace Jvm.Pilot.@@N@@
open Jvm Jvm.ClassFile Sem Op Lib Jvm.Free Jvm.Stand Jvm.Pilot.@@N@@.Jvm.D
/-! MADE BY PROGRAM (witnessworld.py) out of the Statement's table words and the real class files: 9 classes; the members and pool entries that the words name. The judged class is class 1, her method 2. -/
namespace start1
open Jvm.ClassFile
def u (s : String) : CpInfo := .utf8 (stringToUtf16 s)
/-- a pool by its gaps: so many unusable entries, then the entry; so many at the end -/
def gap : Nat → List CpInfo → List CpInfo
  | 0, r => r
  | n + 1, r => .unusable :: gap n r
def poolList (es : List (Nat × CpInfo)) (last : Nat) : List CpInfo := es.foldr (fun e r => gap e.1 (e.2 :: r)) (gap last [])
def pool (es : List (Nat × CpInfo)) (last : Nat) : Array CpInfo := ⟨poolList es last⟩
def fileOf (pool : Array CpInfo) (this : Nat) (attrs : Array Attribute := #[]) (ms : Array MethodInfo := #[]) (fl : Nat := 33) (sup : Nat := 0) (ifs : Array Nat := #[]) (fds : Array FieldInfo := #[]) : ClassFile where
  minorVersion := 0
  majorVersion := 65
  constantPool := pool
  accessFlags := fl
  thisClass := this
  superClass := sup
  interfaces := ifs
  fields := fds
  methods := ms
  attributes := attrs
def plain (name : String) (sup : Option ClassId) : Class where
  name := name
  kind := .ordinary
  loader := none
  accessFlags := 33
  super := sup
  interfaces := #[]
  cf := none
  fields := #[]
  methods := #[]
  instanceTypes := #[]
  staticTypes := #[]
  resolved := #[]
  callSites := []
  init := .initialized
  statics := none
  mirror := none

def pool0 : Array CpInfo := pool [(5, u "<init>"), (0, u "()V"), (1, .class_ 10), (1, u "java/lang/Object")] 113

def k0m0 : Method := { name := "<init>", desc := "()V", sig := { parameters := [], returnType := none }, accessFlags := 1, code := none }
/-- java/lang/Object -/
def k0 : Class := { plain "java/lang/Object" none with
  accessFlags := 33
  interfaces := #[]
  cf := some (fileOf pool0 8 #[] #[{ accessFlags := 1, nameIndex := 5, descriptorIndex := 6, attributes := #[] }] 33 0 #[] #[])
  fields := #[]
  methods := #[k0m0]
  instanceTypes := #[]
  staticTypes := #[]
  resolved := Array.replicate 124 none
  statics := none }

def pool1 : Array CpInfo := pool [(2, .class_ 4), (1, u "java/lang/Object"), (0, u "<init>"), (0, u "()V"), (0, .integer 1114111), (0, .integer 55296), (0, .integer 57343), (0, .integer 65534), (0, .integer 65535), (0, .integer 55295), (0, .integer 57344), (0, .integer 65533), (0, .integer 65536), (0, .integer 1114112), (2, .integer 2147483650), (0, .integer 2147483645), (0, .integer 2147483647), (0, .methodref 23 24), (0, .class_ 25), (0, .nameAndType 26 27), (0, u "com/example/kuopio/kuopio/XmlChars"), (0, u "isXmlChar"), (0, u "(I)Z"), (0, .methodref 29 30), (0, .class_ 31), (0, .nameAndType 32 27), (0, u "com/example/kuopio/kuopio/XmlCharsIsXmlCharPinLaw"), (0, u "reference"), (3, u "law"), (0, u "(III)Z")] 4

def k1m0 : Method := { name := "<init>", desc := "()V", sig := { parameters := [], returnType := none }, accessFlags := 2, code := none }
def k1c1 : Code := { maxStack := 2, maxLocals := 1, code := method_2_code, exceptionTable := #[], attributes := #[] }
def k1m1 : Method := { name := "reference", desc := "(I)Z", sig := { parameters := [.int], returnType := some .boolean }, accessFlags := 10, code := some k1c1 }
def k1c2 : Code := { maxStack := 4, maxLocals := 7, code := code, exceptionTable := #[], attributes := #[] }
def k1m2 : Method := { name := "law", desc := "(III)Z", sig := { parameters := [.int, .int, .int], returnType := some .boolean }, accessFlags := 9, code := some k1c2 }
/-- com/example/kuopio/kuopio/XmlCharsIsXmlCharPinLaw -/
def k1 : Class := { plain "com/example/kuopio/kuopio/XmlCharsIsXmlCharPinLaw" (some 0) with
  accessFlags := 49
  interfaces := #[]
  cf := some (fileOf pool1 29 #[] #[{ accessFlags := 2, nameIndex := 5, descriptorIndex := 6, attributes := #[] }, { accessFlags := 10, nameIndex := 32, descriptorIndex := 27, attributes := #[] }, { accessFlags := 9, nameIndex := 36, descriptorIndex := 37, attributes := #[] }] 49 2 #[] #[])
  fields := #[]
  methods := #[k1m0, k1m1, k1m2]
  instanceTypes := #[]
  staticTypes := #[]
  resolved := Array.replicate 42 none
  statics := none }

def pool2 : Array CpInfo := pool [(2, .class_ 4), (1, u "java/lang/Object"), (0, u "<init>"), (0, u "()V"), (11, .class_ 20), (1, u "com/example/kuopio/kuopio/XmlChars"), (1, u "(I)Z"), (18, .integer 55295), (3, .integer 65533), (0, .integer 65536), (54, .integer 57344), (0, .integer 1114111), (11, u "isXmlChar")] 19

def k2m0 : Method := { name := "<init>", desc := "()V", sig := { parameters := [], returnType := none }, accessFlags := 2, code := none }
def k2c1 : Code := { maxStack := 2, maxLocals := 1, code := prog_24_method_12_code, exceptionTable := #[], attributes := #[] }
def k2m1 : Method := { name := "isXmlChar", desc := "(I)Z", sig := { parameters := [.int], returnType := some .boolean }, accessFlags := 9, code := some k2c1 }
/-- com/example/kuopio/kuopio/XmlChars -/
def k2 : Class := { plain "com/example/kuopio/kuopio/XmlChars" (some 0) with
  accessFlags := 49
  interfaces := #[]
  cf := some (fileOf pool2 18 #[] #[{ accessFlags := 2, nameIndex := 5, descriptorIndex := 6, attributes := #[] }, { accessFlags := 9, nameIndex := 114, descriptorIndex := 22, attributes := #[] }] 49 2 #[] #[])
  fields := #[]
  methods := #[k2m0, k2m1]
  instanceTypes := #[]
  staticTypes := #[]
  resolved := Array.replicate 134 none
  statics := none }

def pool3 : Array CpInfo := pool [(1, u "java/lang/Cloneable"), (0, .class_ 1), (0, u "java/lang/Object"), (0, .class_ 3)] 3

/-- java/lang/Cloneable -/
def k3 : Class := { plain "java/lang/Cloneable" (some 0) with
  accessFlags := 1537
  interfaces := #[]
  cf := some (fileOf pool3 2 #[] #[] 1537 4 #[] #[])
  fields := #[]
  methods := #[]
  instanceTypes := #[]
  staticTypes := #[]
  resolved := Array.replicate 8 none
  statics := none }

def pool4 : Array CpInfo := pool [(1, u "java/io/Serializable"), (0, .class_ 1), (0, u "java/lang/Object"), (0, .class_ 3)] 3

/-- java/io/Serializable -/
def k4 : Class := { plain "java/io/Serializable" (some 0) with
  accessFlags := 1537
  interfaces := #[]
  cf := some (fileOf pool4 2 #[] #[] 1537 4 #[] #[])
  fields := #[]
  methods := #[]
  instanceTypes := #[]
  staticTypes := #[]
  resolved := Array.replicate 8 none
  statics := none }

/-- the primitive byte -/
def k5 : Class := { plain "byte" none with kind := .primitive 'B', accessFlags := 0x411 }
/-- [B -/
def k6 : Class := { plain "[B" (some 0) with kind := .array 5 .byte, interfaces := #[3, 4], accessFlags := 1041 }

/-- the primitive int -/
def k7 : Class := { plain "int" none with kind := .primitive 'I', accessFlags := 0x411 }
/-- [I -/
def k8 : Class := { plain "[I" (some 0) with kind := .array 7 .int, interfaces := #[3, 4], accessFlags := 1041 }

def heap : Heap := #[]
def classes : Array Class := #[k0, k1, k2, k3, k4, k5, k6, k7, k8]
def interned : List (Array UInt16 × Addr) := []
def slotsUsed : Nat := 0
def theMethod : MethodId := ⟨1, 2⟩
def args0 : Array Value := #[.int 5, .int 7, .int 3]
def aboutOver (below : List Frame) : State where
  vm := { classes := classes, interned := interned.toArray }
  heap := heap
  slotsUsed := slotsUsed
  threads := #[{ frames := .invoking theMethod args0 :: below }]
def below0 : List Frame := [.native { method := ⟨0, 0⟩, args := #[] }]
def about1 : State := aboutOver below0
def p0 : Program := .bare "" "" ""
def e0 : Env := launch0.env 0 0 0
theorem w_frames : about1.frames = Frame.invoking theMethod args0 :: below0 := rfl
set_option maxRecDepth 65536 in
theorem w_args : argsFit about1.vm theMethod args0 = true := by decide +kernel
set_option maxRecDepth 65536 in
theorem w_heap : heapFits about1 = true := by decide +kernel
set_option maxRecDepth 65536 in
theorem w_runnable : about1.curStatus? = some .runnable := by decide +kernel
set_option maxRecDepth 65536 in
theorem w_alone : about1.alone = true := by decide +kernel
set_option maxRecDepth 65536 in
theorem w_named : about1.methodNamed? x = some theMethod := by decide +kernel
set_option maxRecDepth 65536 in
theorem w_hears : about1.hears theMethod below0 = true := by decide +kernel
set_option maxRecDepth 65536 in
theorem w_ripe : about1.ripe theMethod args0 below0 = true := by decide +kernel
theorem w_running : about1.status = .running := rfl
set_option maxRecDepth 65536 in
theorem w_room : about1.hasRoom e0.platform room_1 = true :=
  launch0.hasRoom_least _ room_1 (by decide +kernel) (by decide +kernel) (by decide +kernel) (by decide +kernel) (by decide +kernel) (by decide +kernel)
theorem allAtoms_all (ts : List Jvm.Cond) (a : Array Jvm.Value) (st : Jvm.State) : (allAtoms ts).before a st = ts.all (fun c => c.before a st) := by
  induction ts with
  | nil => rfl
  | cons c t ih =>
    show (Jvm.Cond.and c (allAtoms t)).before a st = _
    rw [Jvm.Cond.before_and, ih, List.all_cons]
def words1 : List Jvm.Cond := Jvm.Cond.code x code maxLocals ret :: tables_1
/-- a 'code' word, met by the world's own term for the bytes: nothing is compared byte by byte -/
theorem code_word {y : MethodName} {bytes : ByteArray} {mx : Nat} {rt : Option FieldType} {a : Array Value} {s : State} {m : MethodId} {meth : Method} {c : Code} (h1 : s.methodNamed? y = some m) (h2 : s.vm.method? m = some meth) (h3 : meth.code = some c) (h4 : c.code = bytes)
    (h5 : (c.maxLocals == mx && c.exceptionTable.isEmpty && decide (c.maxStack ≤ mostOperands) && decide (meth.sig.returnType = rt) && !meth.locks && decide (parseMethodDescriptor y.desc = some meth.sig)) = true) : (Jvm.Cond.code y bytes mx rt).before a s = true := by
  simp only [Bool.and_eq_true, beq_iff_eq, Bool.not_eq_true', decide_eq_true_eq] at h5
  obtain ⟨⟨⟨⟨⟨g1, g2⟩, g3⟩, g4⟩, g5⟩, g6⟩ := h5
  simp [Cond.before, Cond.holds, Cond.value, h1, h2, h3, h4, g1, g2, g3, g4, g5, g6]
def isCode : Jvm.Cond → Bool
  | .code _ _ _ _ => true
  | _ => false
theorem all_split {L : List Jvm.Cond} {P : Jvm.Cond → Bool} (h1 : L.all (fun c => isCode c || P c) = true) (h2 : ∀ c ∈ L.filter isCode, P c = true) : L.all P = true := by
  refine List.all_eq_true.mpr fun c hc => ?_
  have h := List.all_eq_true.mp h1 c hc
  rcases Bool.eq_false_or_eq_true (isCode c) with hi | hi
  · exact h2 c (List.mem_filter.mpr ⟨hc, hi⟩)
  · simpa [hi] using h
set_option maxRecDepth 65536 in
theorem w_c0 : (Jvm.Cond.code x code maxLocals ret).before args0 about1 = true := code_word (m := ⟨1, 2⟩) (meth := k1m2) (c := k1c2) (by decide +kernel) rfl rfl rfl (by decide +kernel)
set_option maxRecDepth 65536 in
theorem w_c1 : (Jvm.Cond.code ({ cls := "com/example/kuopio/kuopio/XmlChars", name := "isXmlChar", desc := "(I)Z" } : Jvm.MethodName) prog_24_method_12_code (1 : Nat) (Option.some Jvm.ClassFile.FieldType.boolean)).before args0 about1 = true := code_word (m := ⟨2, 1⟩) (meth := k2m1) (c := k2c1) (by decide +kernel) rfl rfl rfl (by decide +kernel)
set_option maxRecDepth 65536 in
theorem w_c2 : (Jvm.Cond.code ({ cls := "com/example/kuopio/kuopio/XmlCharsIsXmlCharPinLaw", name := "reference", desc := "(I)Z" } : Jvm.MethodName) method_2_code (1 : Nat) (Option.some Jvm.ClassFile.FieldType.boolean)).before args0 about1 = true := code_word (m := ⟨1, 1⟩) (meth := k1m1) (c := k1c1) (by decide +kernel) rfl rfl rfl (by decide +kernel)
def codes1 : List Jvm.Cond := [Jvm.Cond.code x code maxLocals ret, Jvm.Cond.code ({ cls := "com/example/kuopio/kuopio/XmlChars", name := "isXmlChar", desc := "(I)Z" } : Jvm.MethodName) prog_24_method_12_code (1 : Nat) (Option.some Jvm.ClassFile.FieldType.boolean), Jvm.Cond.code ({ cls := "com/example/kuopio/kuopio/XmlCharsIsXmlCharPinLaw", name := "reference", desc := "(I)Z" } : Jvm.MethodName) method_2_code (1 : Nat) (Option.some Jvm.ClassFile.FieldType.boolean)]
set_option maxRecDepth 65536 in
theorem codes_eq : words1.filter isCode = codes1 := rfl
theorem w_codes : ∀ c ∈ words1.filter isCode, c.before args0 about1 = true := by
  rw [codes_eq]
  intro c hc
  simp only [codes1, List.mem_cons, List.not_mem_nil, or_false] at hc
  rcases hc with rfl | rfl | rfl
  · exact w_c0
  · exact w_c1
  · exact w_c2
set_option maxRecDepth 65536 in
theorem w_t1 : (words1.take 24).all (fun c => isCode c || c.before args0 about1) = true := by decide +kernel
set_option maxRecDepth 65536 in
theorem w_t2 : (words1.drop 24).all (fun c => isCode c || c.before args0 about1) = true := by decide +kernel
theorem w_tables : (allAtoms (Jvm.Cond.code x code maxLocals ret :: tables_1)).before args0 about1 = true := by
  rw [allAtoms_all]
  show words1.all (fun c => c.before args0 about1) = true
  refine all_split ?_ w_codes
  rw [← List.take_append_drop 24 words1, List.all_append, w_t1, w_t2]
  rfl
set_option maxRecDepth 65536 in
theorem w_case : (Jvm.Cond.and given_1 narrow_1).before args0 about1 = true := by decide +kernel
theorem w_applies : (headSpec (Jvm.Cond.code x code maxLocals ret :: tables_1) room_1).applies x e0.platform about1 = true :=
  (Spec.applies_iff w_frames).mpr ⟨w_running, w_runnable, w_alone, w_named, w_hears, w_ripe, w_room, w_tables⟩
theorem atStart : AtStart classFile x code maxLocals ret World_1 tables_1 room_1 Calls_1 rest_1 Pre_1 launch0 p0 e0 about1 theMethod args0 below0 :=
  ⟨lists_1, trivial, launch0.admits_env _ _ _, launch0.least_env, fairChoices_fair.cas, fairChoices_fair.clock, w_frames, w_args, w_heap, w_applies, trivial, trivial, w_case⟩
end start1
theorem witness_1 : WitnessClaimed_1 := ⟨start1.p0, start1.e0, start1.about1, start1.theMethod, start1.args0, start1.below0, start1.atStart⟩
end Jvm.Pilot.@@N@@
