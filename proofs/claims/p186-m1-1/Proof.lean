import JvmDerived
import JvmDerived.Pilot.@@N@@Statement
import JvmDerived.Pilot.@@N@@Code
set_option linter.unusedVariables false
set_option linter.unusedSimpArgs false
namespace Jvm.RoadKit
open Sem ClassFile Op Lib Jvm.Stand Jvm.Free Jvm.LawKit
section New
variable {p : Program} {l : Launch} {e : Env} {R : Room} {s : State} {m : MethodId} {args : Array Value} {below : List Frame} {meth : Method} {c : Code} {T : State} {locs : List Loc} {cells slots : Nat}
theorem retI (X : Stand p l e R s m args below meth c T locs cells slots) (hx : p.tables.exec = Jvm.exec) {pc : Nat} {Ls : Array Slot} {z : Int32} {rest : List Value} (hret : meth.sig.returnType = some .int) (hd : decode c.code pc = .ok (.ireturn, 1)) {fs : List Frame}
    (hl : ∀ (f : JFrame) (acts : List Action), f.method = m → f.locked = none → f.entered = [] → (doReturn e (T.setTop f) acts (some (.int z))).1 = T.setFrames fs) : Steps p.tables e below (T.setTop (mkF m pc Ls (.int z :: rest))) (T.setFrames fs) := by
  have hm' : T.vm.method? m = some meth := X.method'
  have hn : narrow .int (.int z) = .int z := rfl
  show Steps p.tables e below (T.setTop { method := m, pc := pc, locals := Ls, stack := _ :: rest, locked := none }) _
  jvm_step X.here [X.here.top, hx, hd, hm', hret, hn]
  first | (intro acts; rw [hl _ acts rfl rfl rfl]) | rw [hl _ _ rfl rfl rfl]
  exact Steps.refl _
end New
end Jvm.RoadKit
namespace Jvm.Pilot.@@N@@
open Jvm Jvm.ClassFile Sem Op Lib Jvm.Free Jvm.Stand Jvm.LawKit Jvm.RoadKit Bundle Jvm.Pilot.@@N@@.Jvm.D
/-! ### the frame of this text: 'Ends': the run from u ends in a return that Q says -/
section OwnFrame
variable {p : Program} {l : Launch} {e : Env} {R : Room} {s : State} {m : MethodId} {args : Array Value} {below : List Frame} {meth : Method} {c : Code} {T : State} {locs : List Loc} {cells slots cs ss : Nat} {Z : State} {a0 : Array Value} {h h' : Heap} {Q : Option Value → Heap → List Loc → Prop} {u u' : State}
def Ends (p : Program) (e : Env) (below : List Frame) (s : State) (cs ss : Nat) (Q : Option Value → Heap → List Loc → Prop) (u : State) : Prop :=
  ∃ t v L, Steps p.tables e below u t ∧ t.status = .running ∧ Ended t below (.returned v) ∧ Q v t.heap L ∧ s.WarmedH t.vm ∧ s.sameButNew ({ t with vm := s.vm } : State) L cs ss
theorem Ends.step (h : Ends p e below s cs ss Q u') (k : ∀ t, Steps p.tables e below u' t → Steps p.tables e below u t) : Ends p e below s cs ss Q u := by
  obtain ⟨t, v, L, h1, r⟩ := h; exact ⟨t, v, L, k t h1, r⟩
theorem Ends.ret (X : Stand p l e R s m args below meth c T locs cells slots) {v : Option Value} (hv : meth.sig.returnType = none → v = none) (hlk : meth.locks = false)
    (k : ∀ fs, (∀ (f : JFrame) (acts : List Action), f.method = m → f.locked = none → f.entered = [] → (doReturn e (T.setTop f) acts v).1 = T.setFrames fs) → Steps p.tables e below u (T.setFrames fs))
    (hc : cells ≤ cs) (hs : slots ≤ ss) (hq : Q v T.heap locs) : Ends p e below s cs ss Q u := by
  obtain ⟨fs, hr, hrun, hended, hW, hsame⟩ := X.leave (v := v) hv hlk
  exact ⟨T.setFrames fs, v, locs, k fs hr, hrun, hended, hq, hW, hsame.mono hc hs⟩
/-- what a body promises -/
abbrev Meets (l : Launch) (Z : State) (y : MethodName) (bytes : ByteArray) (maxL : Nat) (ret : Option FieldType) (ws : List Jvm.Cond) (rm : Room) (as' : Array Value) (h : Heap) (Q : Option Value → Heap → List Loc → Prop) (cs ss : Nat) : Prop :=
  MetFree l y (head1 (Jvm.Cond.code y bytes maxL ret :: ws) rm) (fun a U => a = as' ∧ Z.Warmed39 U.vm ∧ U.heap = h) (fun _ _ _ _ _ => True) (fun _ U o U' => ∃ v L, o = .returned v ∧ Q v U'.heap L ∧ FrameEnd U o U' L cs ss)
theorem Meets.of {y : MethodName} {bytes : ByteArray} {maxL : Nat} {ret : Option FieldType} {ws : List Jvm.Cond} {rm : Room} {as' : Array Value} (pn : plainFor y = true)
    (k : ∀ (p : Program) (e : Env) (s : State) (m : MethodId) (below : List Frame) (meth : Method) (c : Code) (s₁ : State), p.tables.exec = Jvm.exec → c.code = bytes → c.maxLocals = maxL → Z.Warmed39 s.vm → s.vm.findClass y.cls = some m.cls → meth.name = y.name → meth.sig.returnType = ret → meth.locks = false →
      Stand p l e rm s m as' below meth c s₁ [] 0 0 → s₁.heap = h → Ends p e below s cs ss Q (s₁.setTop (entryFrame m as' maxL))) : Meets l Z y bytes maxL ret ws rm as' h Q cs ss := by
  refine MetFree.of_bodySF pn hisR ?_
  intro p e s m args below meth c s₁ Bd hml0 hP hK
  obtain ⟨rfl, hZ, hh⟩ := hP
  obtain ⟨t, v, L, h1, h2, h3, h4, h5, h6⟩ := k p e s m below meth c s₁ Bd.exec Bd.bytes hml0 hZ (findClass_of_methodNamed Bd.named) (name_of_methodNamed Bd.named Bd.method).1 Bd.returns (BodyLoose.notSynchronized Bd) (Stand.of_body Bd) (by rw [← hh, Bd.state]; rfl)
  exact ⟨t, .returned v, h1, h2, h3, v, L, rfl, h4, ⟨_, rfl⟩, h5, h6⟩
theorem Ends.callS (X : Stand p l e R s m args below meth c T locs cells slots) (hx : p.tables.exec = Jvm.exec) (hZ : Z.Warmed39 s.vm) {own : String} {index : Nat} {y : MethodName} {bytes : ByteArray} {maxL : Nat} {ret : Option FieldType}
    (hown : s.vm.findClass own = some m.cls) (w1 : (Jvm.Cond.methodLink own index y).before a0 Z = true) (w2 : (Jvm.Cond.static y).before a0 Z = true) (w3 : (Jvm.Cond.initialized y.cls).before a0 Z = true) (w4 : (Jvm.Cond.code y bytes maxL ret).before a0 Z = true)
    (hy : y.cls ≠ "java/lang/invoke/MethodHandle" ∧ y.cls ≠ "java/lang/invoke/VarHandle") {rm : Room} {as' : Array Value} {Q' : Option Value → Heap → List Loc → Prop} (hM : Meets l Z y bytes maxL ret [] rm as' h Q' rm.cells rm.slots)
    (W : Nat) (hf : rm.frames + 1 ≤ R.frames) (hl : W + (maxL + 11) + rm.locals ≤ R.locals) (eT : T.heap = h) {g : JFrame} (hg : g.method = m) (hsize : g.locals.size = c.maxLocals) (argsL rest : List Value)
    (hlen : ∀ sig, parseMethodDescriptor y.desc = some sig → argsL.length = sig.parameters.length) (hstack : g.stack = argsL.reverse ++ rest) (hW : 2 * g.monitorRoom + (rest.map fun v => v.category).sum ≤ W) (hdg : decode c.code g.pc = .ok (.invokestatic index, 3))
    (ha : argsL.toArray = as') (hc : cells + rm.cells ≤ R.cells) (hs : slots + rm.slots ≤ R.slots)
    (k : ∀ v T' L, Stand p l e R s m args below meth c T' (locs ++ L) (cells + rm.cells) (slots + rm.slots) → Q' v T'.heap L → Ends p e below s cs ss Q (T'.setTop { g with pc := g.pc + 3, stack := v.toList ++ rest })) : Ends p e below s cs ss Q (T.setTop g) := by
  obtain ⟨v, _, ⟨T', L', k', n'⟩, -, X', ⟨Lc, hQ, rfl, rfl, rfl⟩, st⟩ := Jvm.LawKit.callS X hx (y := y) hown (mvT hZ w1) (mvT hZ w2) (mvT hZ w3) (mvT hZ w4) hy (backOf (W := W) hM hZ w4 w3 hf hl) hg hsize (argsL := argsL) (rest := rest) hlen hstack hW hdg (fun _ _ => ⟨ha, eT, hc, hs⟩)
  exact (k v T' Lc X' hQ).step st
theorem Ends.callC (X : Stand p l e R s m args below meth c T locs cells slots) (hx : p.tables.exec = Jvm.exec) (hZ : Z.Warmed39 s.vm) {own : String} {index : Nat} {y : MethodName} {bytes : ByteArray} {maxL : Nat} (hy1 : y.name = "<init>")
    (hown : s.vm.findClass own = some m.cls) (w1 : (Jvm.Cond.methodLink own index y).before a0 Z = true) (w2 : (Jvm.Cond.instanceMethod y).before a0 Z = true) (w3 : (Jvm.Cond.initialized y.cls).before a0 Z = true) (w4 : (Jvm.Cond.code y bytes maxL none).before a0 Z = true)
    (hy : y.cls ≠ "java/lang/invoke/MethodHandle" ∧ y.cls ≠ "java/lang/invoke/VarHandle") {rm : Room} {as' : Array Value} {Q' : Option Value → Heap → List Loc → Prop} (hM : Meets l Z y bytes maxL none [] rm as' h Q' rm.cells rm.slots)
    (W : Nat) (hf : rm.frames + 1 ≤ R.frames) (hl : W + (maxL + 11) + rm.locals ≤ R.locals) (eT : T.heap = h) {g : JFrame} (hg : g.method = m) (hsize : g.locals.size = c.maxLocals) (a : Addr) (argsL rest : List Value)
    (hlen : ∀ sig, parseMethodDescriptor y.desc = some sig → argsL.length = sig.parameters.length) (hstack : g.stack = argsL.reverse ++ .ref a :: rest) (hW : 2 * g.monitorRoom + (rest.map fun v => v.category).sum ≤ W) (hdg : decode c.code g.pc = .ok (.invokespecial index, 3))
    (ha : (.ref a :: argsL).toArray = as') (hc : cells + rm.cells ≤ R.cells) (hs : slots + rm.slots ≤ R.slots)
    (k : ∀ v T' L, Stand p l e R s m args below meth c T' (locs ++ L) (cells + rm.cells) (slots + rm.slots) → Q' v T'.heap L → Ends p e below s cs ss Q (T'.setTop { g with pc := g.pc + 3, stack := v.toList ++ rest })) : Ends p e below s cs ss Q (T.setTop g) := by
  obtain ⟨v, _, ⟨T', L', k', n'⟩, -, X', ⟨Lc, hQ, rfl, rfl, rfl⟩, st⟩ := X.specialBack hx (y := y) hy1 hown (mvT hZ w1) (mvT hZ w2) (mvT hZ w4) hy (backOf (W := W) hM hZ w4 w3 hf hl) hg hsize (Steps.refl _) (a := a) (argsL := argsL) (rest := rest) hlen hstack hW hdg (fun _ _ => ⟨ha, eT, hc, hs⟩)
  exact (k v T' Lc X' hQ).step (fun _ q => st.trans q)
theorem Ends.callV (X : Stand p l e R s m args below meth c T locs cells slots) (hx : p.tables.exec = Jvm.exec) (hZ : Z.Warmed39 s.vm) {own C : String} {index : Nat} {y : MethodName} {bytes : ByteArray} {maxL : Nat} {ret : Option FieldType}
    (hown : s.vm.findClass own = some m.cls) (w1 : (Jvm.Cond.methodLink own index y).before a0 Z = true) (wd : (Jvm.Cond.declares y).before a0 Z = true) (wsel : (Jvm.Cond.selects C y y).before a0 Z = true) (w2 : (Jvm.Cond.instanceMethod y).before a0 Z = true) (w3 : (Jvm.Cond.initialized y.cls).before a0 Z = true) (w4 : (Jvm.Cond.code y bytes maxL ret).before a0 Z = true)
    (hy : y.cls ≠ "java/lang/invoke/MethodHandle" ∧ y.cls ≠ "java/lang/invoke/VarHandle") {rm : Room} {as' : Array Value} {Q' : Option Value → Heap → List Loc → Prop} (hM : Meets l Z y bytes maxL ret [] rm as' h Q' rm.cells rm.slots)
    (W : Nat) (hf : rm.frames + 1 ≤ R.frames) (hl : W + (maxL + 11) + rm.locals ≤ R.locals) (eT : T.heap = h) (a : Addr) (E : Exa Z h a C) {g : JFrame} (hg : g.method = m) (hsize : g.locals.size = c.maxLocals) (argsL rest : List Value)
    (hlen : ∀ sig, parseMethodDescriptor y.desc = some sig → argsL.length = sig.parameters.length) (hstack : g.stack = argsL.reverse ++ .ref a :: rest) (hW : 2 * g.monitorRoom + (rest.map fun v => v.category).sum ≤ W) (hdg : decode c.code g.pc = .ok (.invokevirtual index, 3))
    (ha : (.ref a :: argsL).toArray = as') (hc : cells + rm.cells ≤ R.cells) (hs : slots + rm.slots ≤ R.slots)
    (k : ∀ v T' L, Stand p l e R s m args below meth c T' (locs ++ L) (cells + rm.cells) (slots + rm.slots) → Q' v T'.heap L → Ends p e below s cs ss Q (T'.setTop { g with pc := g.pc + 3, stack := v.toList ++ rest })) : Ends p e below s cs ss Q (T.setTop g) := by
  obtain ⟨cq, kq, q1, q2, q3⟩ := isOf (T := T) hZ eT E
  obtain ⟨v, _, ⟨T', L', k', n'⟩, -, X', ⟨Lc, hQ, rfl, rfl, rfl⟩, st⟩ := X.virtualBack hx (y := y) (z := y) hown (mvT hZ w1) (mvT hZ wd) (notFace_of_selects (args := #[]) (mvT hZ wsel)) (mvT hZ wsel) (mvT hZ w2) hy (backOf (W := W) hM hZ w4 w3 hf hl) q1 q3 hg hsize (Steps.refl _) (argsL := argsL) (rest := rest) hlen hstack hW hdg (fun _ _ => ⟨ha, eT, hc, hs⟩)
  exact (k v T' Lc X' hQ).step (fun _ q => st.trans q)
/-! ### arrays of small numbers: what each place holds, as a function -/
def Ar (Z : State) (h : Heap) (a : Addr) (ty : FieldType) (n : Nat) (f : Nat → Int32) : Prop := ∃ cl : Cell, Arr Z h a cl ty ∧ cl.slots.size = n ∧ n < 2 ^ 31 ∧ ∀ i, i < n → cl.slots[i]? = some (.int (f i))
def upd (f : Nat → Int32) (j : Nat) (v : Int32) : Nat → Int32 := fun i => if i = j then v else f i
def inb (j : Int32) (n : Nat) : Prop := ¬ (j < 0 ∨ n ≤ j.toNatClampNeg)
variable {a b : Addr} {ty : FieldType} {n sl : Nat} {f : Nat → Int32} {v : Value} {wsA : List Addr}
theorem Ar.lt (A : Ar Z h a ty n f) : a < h.size := by obtain ⟨cl, A1, -⟩ := A; exact A1.lt
theorem Ar.ext (A : Ar Z h a ty n f) (E : Ext h h') : Ar Z h' a ty n f := by obtain ⟨cl, A1, r⟩ := A; exact ⟨cl, A1.ext E, r⟩
theorem Ar.other (A : Ar Z h b ty n f) (W : Wr h h' a sl v) (q : b ≠ a) : Ar Z h' b ty n f := by obtain ⟨cl, A1, r⟩ := A; exact ⟨cl, A1.other W q, r⟩
theorem Ar.keep (A : Ar Z h a ty n f) (K : Keep h h' wsA) (q : a ∉ wsA) : Ar Z h' a ty n f := by obtain ⟨cl, A1, r⟩ := A; exact ⟨cl, ⟨K.2.1 a cl A1.1 q, A1.2⟩, r⟩
theorem Ar.small (A : Ar Z h a ty n f) : n < 2 ^ 31 := by obtain ⟨cl, A1, -, r, -⟩ := A; exact r
theorem Ar.set {j : Int32} {x : Int32} (A : Ar Z h a ty n f) (W : Wr h h' a j.toNatClampNeg (.int x)) : Ar Z h' a ty n (upd f j.toNatClampNeg x) := by
  obtain ⟨cl, A1, r1, r2, r3⟩ := A
  refine ⟨_, A1.same W, by rw [sz_set]; exact r1, r2, fun i hi => ?_⟩
  by_cases q : i = j.toNatClampNeg
  · subst q; simp [Cell.setSlot, upd, r1, hi]
  · simp only [Cell.setSlot, upd, if_neg q]; rw [Array.getElem?_setIfInBounds_ne (fun z => q z.symm)]; exact r3 i hi
theorem Ar.new {cA : ClassId} {k : Int32} (A : Arr Z h a (newA cA ty k) ty) (q : ¬ k < 0) (hd : defaultValue ty = .int 0) : Ar Z h a ty k.toNatClampNeg (fun _ => 0) :=
  ⟨_, A, sz_new _ _ _, (back32 q).2, fun i hi => by simp [newA, hi, hd]⟩
theorem Ends.newA (X : Stand p l e R s m args below meth c T locs cells slots) (hx : p.tables.exec = Jvm.exec) (hZ : Z.Warmed39 s.vm) {aty : ArrayType} (w : (Jvm.Cond.arrayClass (newarray.typeOf aty)).before a0 Z = true) (eT : T.heap = h) {g : JFrame} (hg : g.method = m) (hd : decode c.code g.pc = .ok (.newarray aty, 2)) {k : Int32} {rest : List Value} (hs : g.stack = .int k :: rest)
    (hdf : defaultValue (newarray.typeOf aty) = .int 0) (hn : ¬ k < 0) (cap : Nat) (hcap : k.toNatClampNeg ≤ cap) (hb : cap * 8 ≤ 536870912) (hc : cells + 1 ≤ R.cells) (hl : slots + cap ≤ R.slots)
    (kk : ∀ T' h' a, Stand p l e R s m args below meth c T' locs (cells + 1) (slots + cap) → T'.heap = h' → Ext h h' → h.size = a → Ar Z h' a (newarray.typeOf aty) k.toNatClampNeg (fun _ => 0) → Ends p e below s cs ss Q (T'.setTop { g with pc := g.pc + 2, stack := .ref a :: rest })) : Ends p e below s cs ss Q (T.setTop g) := by
  obtain ⟨T', h', cA, X', e', E, A, st⟩ := newP X hx hZ w eT hg hd hs hn hcap hb hc hl
  exact (kk T' h' h.size X' e' E rfl (Ar.new A hn hdf)).step st
theorem Ends.iaload (X : Stand p l e R s m args below meth c T locs cells slots) (hx : p.tables.exec = Jvm.exec) (hZ : Z.Warmed39 s.vm) (eT : T.heap = h) (A : Ar Z h a .int n f) {j : Int32} (hj : inb j n) {g : JFrame} (hg : g.method = m) {rest : List Value} (hs : g.stack = .int j :: .ref a :: rest) (hd : decode c.code g.pc = .ok (.iaload, 1))
    (k : Ends p e below s cs ss Q (T.setTop { g with pc := g.pc + 1, stack := .int (f j.toNatClampNeg) :: rest })) : Ends p e below s cs ss Q (T.setTop g) := by
  obtain ⟨cl, A1, r1, -, r3⟩ := A
  subst r1
  exact k.step (X.iaload hx (by rw [eT]; exact A1.1) (State.isArrayOf_alike hZ.alike A1.2.1) A1.2.2 hj (r3 _ (Nat.lt_of_not_le fun q => hj (Or.inr q))) hg hs hd)
theorem Ends.baload (X : Stand p l e R s m args below meth c T locs cells slots) (hx : p.tables.exec = Jvm.exec) (hZ : Z.Warmed39 s.vm) (eT : T.heap = h) (A : Ar Z h a .byte n f) {j : Int32} (hj : inb j n) {g : JFrame} (hg : g.method = m) {rest : List Value} (hs : g.stack = .int j :: .ref a :: rest) (hd : decode c.code g.pc = .ok (.baload, 1))
    (k : Ends p e below s cs ss Q (T.setTop { g with pc := g.pc + 1, stack := .int (f j.toNatClampNeg) :: rest })) : Ends p e below s cs ss Q (T.setTop g) := by
  obtain ⟨cl, A1, r1, -, r3⟩ := A
  subst r1
  exact k.step (X.baloadBytes hx (by rw [eT]; exact A1.1) (State.isArrayOf_alike hZ.alike A1.2.1) A1.2.2 hj (r3 _ (Nat.lt_of_not_le fun q => hj (Or.inr q))) hg hs hd)
theorem Ends.arrlen (X : Stand p l e R s m args below meth c T locs cells slots) (hx : p.tables.exec = Jvm.exec) (hZ : Z.Warmed39 s.vm) (eT : T.heap = h) (A : Ar Z h a ty n f) {g : JFrame} (hg : g.method = m) {rest : List Value} (hs : g.stack = .ref a :: rest) (hd : decode c.code g.pc = .ok (.arraylength, 1))
    (k : Ends p e below s cs ss Q (T.setTop { g with pc := g.pc + 1, stack := .int (Nat.toInt32 n) :: rest })) : Ends p e below s cs ss Q (T.setTop g) := by
  obtain ⟨cl, A1, r1, -, r3⟩ := A
  subst r1
  exact k.step (X.arraylength hx (by rw [eT]; exact A1.1) (State.isArrayOf_alike hZ.alike A1.2.1) hg hs hd)
theorem Ends.iastore (X : Stand p l e R s m args below meth c T locs cells slots) (hx : p.tables.exec = Jvm.exec) (hZ : Z.Warmed39 s.vm) (eT : T.heap = h) (A : Ar Z h a .int n f) {j x : Int32} (hj : inb j n) {n0 : Nat} (N : Fr n0 locs) (ge : n0 ≤ a) {g : JFrame} (hg : g.method = m) {rest : List Value} (hs : g.stack = .int x :: .int j :: .ref a :: rest) (hd : decode c.code g.pc = .ok (.iastore, 1))
    (k : ∀ T' h' sl, Stand p l e R s m args below meth c T' (locs ++ [⟨a, sl⟩]) cells slots → T'.heap = h' → Fr n0 (locs ++ [⟨a, sl⟩]) → Wr h h' a sl (.int x) → Ar Z h' a .int n (upd f j.toNatClampNeg x) → Ends p e below s cs ss Q (T'.setTop { g with pc := g.pc + 1, stack := rest })) : Ends p e below s cs ss Q (T.setTop g) := by
  obtain ⟨cl, A1, r1, r2, r3⟩ := A
  obtain ⟨T', h', X', e', W, st⟩ := stI X hx hZ eT A1 (by rw [r1]; exact hj) hg hs hd
  exact (k T' h' _ X' e' (Fr.snoc X' N ge) W (Ar.set ⟨cl, A1, r1, r2, r3⟩ W)).step st
theorem Ends.bastore (X : Stand p l e R s m args below meth c T locs cells slots) (hx : p.tables.exec = Jvm.exec) (hZ : Z.Warmed39 s.vm) (eT : T.heap = h) (A : Ar Z h a .byte n f) {j x : Int32} (hj : inb j n) {n0 : Nat} (N : Fr n0 locs) (ge : n0 ≤ a) {g : JFrame} (hg : g.method = m) {rest : List Value} (hs : g.stack = .int x :: .int j :: .ref a :: rest) (hd : decode c.code g.pc = .ok (.bastore, 1))
    (k : ∀ T' h' sl, Stand p l e R s m args below meth c T' (locs ++ [⟨a, sl⟩]) cells slots → T'.heap = h' → Fr n0 (locs ++ [⟨a, sl⟩]) → Wr h h' a sl (.int (nar .byte x)) → Ar Z h' a .byte n (upd f j.toNatClampNeg (nar .byte x)) → Ends p e below s cs ss Q (T'.setTop { g with pc := g.pc + 1, stack := rest })) : Ends p e below s cs ss Q (T.setTop g) := by
  obtain ⟨cl, A1, r1, r2, r3⟩ := A
  obtain ⟨T', h', X', e', W, st⟩ := stB X hx hZ eT A1 (by rw [r1]; exact hj) hg hs hd
  exact (k T' h' _ X' e' (Fr.snoc X' N ge) W (Ar.set ⟨cl, A1, r1, r2, r3⟩ W)).step st
theorem Ends.getF (X : Stand p l e R s m args below meth c T locs cells slots) (hx : p.tables.exec = Jvm.exec) (hZ : Z.Warmed39 s.vm) {own O fn d : String} {index : Nat} (hown : s.vm.findClass own = some m.cls) (w : (Jvm.Cond.fieldLink own index O fn d).before a0 Z = true) (eT : T.heap = h) (F : Fld Z h a O fn d v) {g : JFrame} (hg : g.method = m) {rest : List Value} (hs : g.stack = .ref a :: rest) (hd : decode c.code g.pc = .ok (.getfield index, 3))
    (k : ∀ T', Stand p l e R s m args below meth c T' locs cells slots → T'.heap = h → Ends p e below s cs ss Q (T'.setTop { g with pc := g.pc + 3, stack := v :: rest })) : Ends p e below s cs ss Q (T.setTop g) := by
  obtain ⟨T', X', e', st⟩ := Jvm.RoadKit.getF X hx hZ hown (host := "") (Or.inl w) Via.refl eT F hg hs hd
  exact (k T' X' e').step st
theorem Ends.putF (X : Stand p l e R s m args below meth c T locs cells slots) (hx : p.tables.exec = Jvm.exec) (hZ : Z.Warmed39 s.vm) {own O fn d : String} {index kk : Nat} {tf : FieldType} {old : Value} (hown : s.vm.findClass own = some m.cls) (w : (Jvm.Cond.fieldLink own index O fn d).before a0 Z = true) (eT : T.heap = h) (F : Fld Z h a O fn d old) (E : Exa Z h a O) (L : (Jvm.Cond.lays O O fn d).before a0 Z = true ∨ ((Jvm.Cond.laysFinal O O fn d).before a0 Z = true ∧ own = O ∧ meth.name = "<init>")) (wi : (Jvm.Cond.instantiable O kk).before a0 Z = true)
    (hty : parseFieldDescriptor d = some tf) (hn : narrow tf v = v) (hf : fits tf v = true) {n0 : Nat} (N : Fr n0 locs) (ge : n0 ≤ a) {g : JFrame} (hg : g.method = m) {rest : List Value} (hs : g.stack = v :: .ref a :: rest) (hd : decode c.code g.pc = .ok (.putfield index, 3))
    (k : ∀ T' h', Stand p l e R s m args below meth c T' (locs ++ [⟨a, Jvm.RoadKit.slotOf Z O fn d⟩]) cells slots → T'.heap = h' → Fr n0 (locs ++ [⟨a, Jvm.RoadKit.slotOf Z O fn d⟩]) → Wr h h' a (Jvm.RoadKit.slotOf Z O fn d) v → Ends p e below s cs ss Q (T'.setTop { g with pc := g.pc + 3, stack := rest })) : Ends p e below s cs ss Q (T.setTop g) := by
  obtain ⟨T', h', X', e', W, st⟩ := Jvm.RoadKit.putF X hx hZ hown (host := "") (Or.inl w) Via.refl eT F E L wi hty hn hf hg hs hd
  exact (k T' h' X' e' (Fr.snoc X' N ge) W).step st
theorem Ends.newO (X : Stand p l e R s m args below meth c T locs cells slots) (hx : p.tables.exec = Jvm.exec) (hZ : Z.Warmed39 s.vm) {own C : String} {index k : Nat} (hown : s.vm.findClass own = some m.cls) (w : (Jvm.Cond.classLink own index C).before a0 Z = true) (wi : (Jvm.Cond.instantiable C k).before a0 Z = true) (wz : (Jvm.Cond.initialized C).before a0 Z = true) (eT : T.heap = h)
    {g : JFrame} (hg : g.method = m) (hd : decode c.code g.pc = .ok (.new index, 3)) (hc : cells + 1 ≤ R.cells) (hl : slots + k ≤ R.slots)
    (kk : ∀ T' h' a, Stand p l e R s m args below meth c T' locs (cells + 1) (slots + k) → T'.heap = h' → Ext h h' → h.size = a → Exa Z h' a C → (∀ {O nm d : String} {ty : FieldType}, Laid Z a0 C O nm d → parseFieldDescriptor d = some ty → Fld Z h' a O nm d (defaultValue ty)) → Ends p e below s cs ss Q (T'.setTop { g with pc := g.pc + 3, stack := .ref a :: g.stack })) : Ends p e below s cs ss Q (T.setTop g) := by
  obtain ⟨T', h', X', e', E, A, D, -, st⟩ := Jvm.RoadKit.newO X hx hZ hown w wi wz eT hg hd hc hl
  exact (kk T' h' _ X' e' E rfl A D).step st
theorem Ends.initO (X : Stand p l e R s m args below meth c T locs cells slots) (hx : p.tables.exec = Jvm.exec) (hZ : Z.Warmed39 s.vm) {own : String} {idx : Nat} (hown : s.vm.findClass own = some m.cls) (w1 : (Jvm.Cond.methodLink own idx Lib.objectInit).before a0 Z = true) (w2 : (Jvm.Cond.instanceMethod Lib.objectInit).before a0 Z = true)
    (w3 : (Jvm.Cond.code Lib.objectInit ⟨#[0xb1]⟩ 1 none).before a0 Z = true) (eT : T.heap = h) {g : JFrame} (hg : g.method = m) (hsize : g.locals.size = c.maxLocals) {rest : List Value} (hs : g.stack = .ref a :: rest) (hd : decode c.code g.pc = .ok (.invokespecial idx, 3))
    (hf : 1 ≤ R.frames) (W : Nat) (hW : 2 * g.monitorRoom + (rest.map fun v => v.category).sum ≤ W) (hl : W + 12 ≤ R.locals)
    (k : ∀ T', Stand p l e R s m args below meth c T' locs cells slots → T'.heap = h → Ends p e below s cs ss Q (T'.setTop { g with pc := g.pc + 3, stack := rest })) : Ends p e below s cs ss Q (T.setTop g) := by
  obtain ⟨T', X', e', st⟩ := Jvm.RoadKit.initO X hx hZ hown w1 w2 w3 eT hg hsize hs hd hf hW hl
  exact (k T' X' e').step st
def OneS (o : Slot) : Prop := o = .unset ∨ ∃ w, o = .val w ∧ w.category = 1
theorem storeL {ls : Array Slot} {i : Nat} {x : Int64} {o o' : Slot} (h1 : ls[i]? = some o) (h2 : ls[i + 1]? = some o') (p1 : OneS o) (p2 : OneS o') : storeLocals ls i (.long x) = some ((ls.setIfInBounds i (.val (.long x))).setIfInBounds (i + 1) .second) := by
  have l1 : i < ls.size := (Array.getElem?_eq_some_iff.mp h1).1
  have l2 : i + 1 < ls.size := (Array.getElem?_eq_some_iff.mp h2).1
  have e2 : (ls.setIfInBounds i (.val (.long x)))[i + 1]? = some o' := by rw [Array.getElem?_setIfInBounds_ne (by omega)]; exact h2
  have q : storeSelf ls i (.long x) = some ((ls.setIfInBounds i (.val (.long x))).setIfInBounds (i + 1) .second) := by
    have cat : (Value.long x).category = 2 := rfl
    simp only [storeSelf, setAt, if_pos l1, cat, if_true, Option.bind_eq_bind, Option.bind_some, e2]
    rcases p2 with rfl | ⟨w, rfl, hw⟩
    · simp [l2]
    · simp [l2, hw]
  simp only [storeLocals, h1, Option.bind_eq_bind, Option.bind_some]
  rcases p1 with rfl | ⟨w, rfl, hw⟩
  · exact q
  · simp only [hw]; exact q
end OwnFrame
-- body 2
def F2  : Unit := ()
-- body 1
def F1 (p1 : Int64) (o0_cents : Int64) : Int64 := p1
-- body 5
def F5_21 (t0 : Int32) : Int32 := t0
def F5_6  : Int32 := (F5_21 (-1 : Int32))
def F5_16  : Int32 := (F5_21 (0 : Int32))
def F5_20  : Int32 := (F5_21 (1 : Int32))
def F5_10 (x0 : Int64) (x2 : Int64) : Int32 := if x0 = x2 then F5_16 else F5_20
def F5 (p0 : Int64) (p1 : Int64) : Int32 := if p0 < p1 then F5_6 else (F5_10 p0 p1)
-- body 4
def F4 (o0_cents : Int64) (o1_cents : Int64) : Int32 := (F5 o0_cents o1_cents)
-- body 0
def F0_173 (t0 : Int32) : Int32 := (nar .boolean t0)
def F0_168  : Int32 := (F0_173 (1 : Int32))
def F0_172  : Int32 := (F0_173 (0 : Int32))
def F0_163 (x13 : Int32) (t0 : Int32) : Int32 := if t0 = x13 then F0_168 else F0_172
def F0_158 (x13 : Int32) : Int32 := (F0_163 x13 (1 : Int32))
def F0_162 (x13 : Int32) : Int32 := (F0_163 x13 (0 : Int32))
def F0_153 (x10 : Int32) (x13 : Int32) : Int32 := if x10 = 0 then (F0_158 x13) else (F0_162 x13)
def F0_148 (x10 : Int32) (x12 : Int32) (x13 : Int32) (t0 : Int32) : Int32 := if t0 = x12 then (F0_153 x10 x13) else F0_172
def F0_143 (x10 : Int32) (x12 : Int32) (x13 : Int32) : Int32 := (F0_148 x10 x12 x13 (1 : Int32))
def F0_147 (x10 : Int32) (x12 : Int32) (x13 : Int32) : Int32 := (F0_148 x10 x12 x13 (0 : Int32))
def F0_138 (x10 : Int32) (x12 : Int32) (x13 : Int32) : Int32 := if 0 < x10 then (F0_143 x10 x12 x13) else (F0_147 x10 x12 x13)
def F0_133 (x10 : Int32) (x11 : Int32) (x12 : Int32) (x13 : Int32) (t0 : Int32) : Int32 := if t0 = x11 then (F0_138 x10 x12 x13) else F0_172
def F0_128 (x10 : Int32) (x11 : Int32) (x12 : Int32) (x13 : Int32) : Int32 := (F0_133 x10 x11 x12 x13 (1 : Int32))
def F0_132 (x10 : Int32) (x11 : Int32) (x12 : Int32) (x13 : Int32) : Int32 := (F0_133 x10 x11 x12 x13 (0 : Int32))
def F0_121 (x10 : Int32) (x11 : Int32) (x12 : Int32) (t0 : Int32) : Int32 := if x10 < 0 then (F0_128 x10 x11 x12 t0) else (F0_132 x10 x11 x12 t0)
def F0_116 (x10 : Int32) (x11 : Int32) (x12 : Int32) : Int32 := (F0_121 x10 x11 x12 (1 : Int32))
def F0_120 (x10 : Int32) (x11 : Int32) (x12 : Int32) : Int32 := (F0_121 x10 x11 x12 (0 : Int32))
def F0_111 (x10 : Int32) (x11 : Int32) (x12 : Int32) : Int32 := if x12 = 0 then (F0_116 x10 x11 x12) else (F0_120 x10 x11 x12)
def F0_104 (x10 : Int32) (x11 : Int32) (t0 : Int32) : Int32 := if x11 = 0 then (F0_111 x10 x11 t0) else (F0_120 x10 x11 t0)
def F0_99 (x10 : Int32) (x11 : Int32) : Int32 := (F0_104 x10 x11 (1 : Int32))
def F0_103 (x10 : Int32) (x11 : Int32) : Int32 := (F0_104 x10 x11 (0 : Int32))
def F0_90 (x0 : Int64) (x6 : Int64) (x10 : Int32) (t0 : Int32) : Int32 := if x6 < x0 then (F0_99 x10 t0) else (F0_103 x10 t0)
def F0_85 (x0 : Int64) (x6 : Int64) (x10 : Int32) : Int32 := (F0_90 x0 x6 x10 (1 : Int32))
def F0_89 (x0 : Int64) (x6 : Int64) (x10 : Int32) : Int32 := (F0_90 x0 x6 x10 (0 : Int32))
def F0_78 (x0 : Int64) (x6 : Int64) (x10 : Int32) : Int32 := if x0 < x6 then (F0_85 x0 x6 x10) else (F0_89 x0 x6 x10)
def F0_48 (x0 : Int64) (x6 : Int64) : Int32 := (F0_78 x0 x6 (F4 (F1 x0 (0 : Int64)) (F1 x6 (0 : Int64))))
def F0_11 (x0 : Int64) : Int32 := (F0_48 x0 x0)
def F0_28 (x0 : Int64) (x6 : Int64) : Int32 := (F0_48 x0 x6)
def F0_23 (x0 : Int64) : Int32 := (F0_28 x0 (x0 + (1 : Int64)))
def F0_42 (x0 : Int64) (x6 : Int64) : Int32 := (F0_48 x0 x6)
def F0_37 (x0 : Int64) : Int32 := (F0_42 x0 (x0 - (1 : Int64)))
def F0_45 (x0 : Int64) (x2 : Int64) : Int32 := (F0_48 x0 x2)
def F0_31 (x0 : Int64) (x2 : Int64) (x5 : Int32) : Int32 := if x5 = (2 : Int32) then (F0_37 x0) else (F0_45 x0 x2)
def F0_17 (x0 : Int64) (x2 : Int64) (x5 : Int32) : Int32 := if x5 = (1 : Int32) then (F0_23 x0) else (F0_31 x0 x2 x5)
def F0_6 (x0 : Int64) (x2 : Int64) (x5 : Int32) : Int32 := if x5 = 0 then (F0_11 x0) else (F0_17 x0 x2 x5)
def F0 (p0 : Int64) (p1 : Int64) (p2 : Int32) : Int32 := (F0_6 p0 p1 (p2 &&& (3 : Int32)))
theorem pd_0 : parseMethodDescriptor "()V" = some ⟨[], none⟩ := by decide +kernel
theorem pd_1 : parseMethodDescriptor "(JJ)I" = some ⟨[.long, .long], (some .int)⟩ := by decide +kernel
theorem pd_2 : parseMethodDescriptor "(J)V" = some ⟨[.long], none⟩ := by decide +kernel
theorem pd_3 : parseMethodDescriptor "(Lcom/example/waybill/waybill/core/Money;)I" = some ⟨[(.object "com/example/waybill/waybill/core/Money")], (some .int)⟩ := by decide +kernel
theorem d2_0 : decode jdk_30_method_1_code 0 = .ok (.aload_n 0, 1) := by decide +kernel
theorem d2_1 : decode jdk_30_method_1_code 1 = .ok (.invokespecial 1, 3) := by decide +kernel
theorem d2_4 : decode jdk_30_method_1_code 4 = .ok (.return_, 1) := by decide +kernel
theorem pn_2 : plainFor (⟨"java/lang/Record", "<init>", "()V"⟩ : MethodName) = true := by first | exact plainFor_of_name (by first | (simp [plainName, overriddenIn]; done) | decide +kernel) | decide +kernel
theorem ef_2 (m : MethodId) (y0 : Addr) : entryFrame m #[(.ref y0)] 1 = mkF m 0 #[.val (.ref y0)] [] := by first | (simp [entryFrame, mkF, argsToLocals, Value.category]; done) | rfl
def Q2 (Z : State) (a_o0 : Addr)  (h0 : Heap) (n0 : Nat) (ans : Unit) (v : Option Value) (h : Heap) (L : List Loc) : Prop := v = none ∧ Fr n0 L ∧ h = h0
set_option maxRecDepth 65536 in
set_option maxHeartbeats 40000000 in
theorem rm2 (l : Launch) (Z : State) (a0 : Array Value) (hw : ∀ d ∈ tables_1, d.before a0 Z = true)  (a_o0 : Addr) (h0 : Heap) (n0 : Nat) (Z0 : n0 ≤ h0.size)  :
    Meets l Z (⟨"java/lang/Record", "<init>", "()V"⟩ : MethodName) jdk_30_method_1_code 1 none [] ({ frames := 1, cells := 0, slots := 0, locals := 12 } : Room) #[(.ref a_o0)] h0 (Q2 Z a_o0 h0 n0 F2) 0 0 := by
  refine Meets.of pn_2 ?_
  intro p e s m below meth c s₁ hx hby hml hZ hown hnm hret hlk X0 e0
  have hml : c.maxLocals = 1 := hml
  have hown : s.vm.findClass "java/lang/Record" = some m.cls := hown
  have N0 := Fr.nil n0
  refine Ends.step (u' := (s₁.setTop (mkF m 0 #[.val (.ref a_o0)] []))) ?_ (fun _ k => castTop (ef_2 m a_o0) k)
  refine Ends.step (u' := (s₁.setTop (mkF m 1 #[.val (.ref a_o0)] [(.ref a_o0)]))) ?_ (fun _ k => XS.aloadN X0.here hx rfl (hb hby d2_0) rfl rfl k)
  refine Ends.initO X0 hx hZ hown (hw _ (List.mem_of_getElem? (i := 11) rfl)) (hw _ (List.mem_of_getElem? (i := 12) rfl)) (hw _ (List.mem_of_getElem? (i := 13) rfl)) e0 (g := (mkF m 1 #[.val (.ref a_o0)] [(.ref a_o0)])) rfl (by rw [hml]; rfl) rfl (hb hby d2_1) (by decide) 0 (by show 2 * 0 + _ ≤ _; exact Nat.le_of_eq rfl) (by decide) (fun T1 X1 e1 => ?_)
  show Ends p e below s _ _ _ (T1.setTop (mkF m 4 #[.val (.ref a_o0)] []))
  exact Ends.ret X1 (v := none) (fun _ => rfl) hlk (fun fs hr => X1.returnOut hx hret (hb hby d2_4) hr) (by decide) (by decide) ⟨rfl, N0, e1⟩
theorem d1_0 : decode prog_23_method_1_code 0 = .ok (.aload_n 0, 1) := by decide +kernel
theorem d1_1 : decode prog_23_method_1_code 1 = .ok (.invokespecial 1, 3) := by decide +kernel
theorem d1_4 : decode prog_23_method_1_code 4 = .ok (.aload_n 0, 1) := by decide +kernel
theorem d1_5 : decode prog_23_method_1_code 5 = .ok (.lload_n 1, 1) := by decide +kernel
theorem d1_6 : decode prog_23_method_1_code 6 = .ok (.putfield 7, 3) := by decide +kernel
theorem d1_9 : decode prog_23_method_1_code 9 = .ok (.return_, 1) := by decide +kernel
theorem pn_1 : plainFor (⟨"com/example/waybill/waybill/core/Money", "<init>", "(J)V"⟩ : MethodName) = true := by first | exact plainFor_of_name (by first | (simp [plainName, overriddenIn]; done) | decide +kernel) | decide +kernel
theorem ef_1 (m : MethodId) (y0 : Addr) (y1 : Int64) : entryFrame m #[(.ref y0), (.long y1)] 3 = mkF m 0 #[.val (.ref y0), .val (.long y1), .second] [] := by first | (simp [entryFrame, mkF, argsToLocals, Value.category]; done) | rfl
def Q1 (Z : State) (a_o0 : Addr) (o0_cents : Int64) (h0 : Heap) (n0 : Nat) (ans : Int64) (v : Option Value) (h : Heap) (L : List Loc) : Prop := v = none ∧ Fr n0 L ∧ Keep h0 h [a_o0] ∧ Fld Z h a_o0 "com/example/waybill/waybill/core/Money" "cents" "J" (.long ans)
set_option maxRecDepth 65536 in
set_option maxHeartbeats 40000000 in
theorem rm1 (l : Launch) (Z : State) (a0 : Array Value) (hw : ∀ d ∈ tables_1, d.before a0 Z = true) (p1 : Int64) (o0_cents : Int64) (a_o0 : Addr) (h0 : Heap) (n0 : Nat) (Z0 : n0 ≤ h0.size) (E_o0 : Exa Z h0 a_o0 "com/example/waybill/waybill/core/Money") (F_o0_cents : Fld Z h0 a_o0 "com/example/waybill/waybill/core/Money" "cents" "J" (.long o0_cents)) (g_o0 : n0 ≤ a_o0) :
    Meets l Z (⟨"com/example/waybill/waybill/core/Money", "<init>", "(J)V"⟩ : MethodName) prog_23_method_1_code 3 none [] ({ frames := 2, cells := 0, slots := 0, locals := 24 } : Room) #[(.ref a_o0), (.long p1)] h0 (Q1 Z a_o0 o0_cents h0 n0 (F1 p1 o0_cents)) 0 0 := by
  refine Meets.of pn_1 ?_
  intro p e s m below meth c s₁ hx hby hml hZ hown hnm hret hlk X0 e0
  have hml : c.maxLocals = 3 := hml
  have hown : s.vm.findClass "com/example/waybill/waybill/core/Money" = some m.cls := hown
  have N0 := Fr.nil n0
  have K0 := Keep.refl h0 [a_o0]
  refine Ends.step (u' := (s₁.setTop (mkF m 0 #[.val (.ref a_o0), .val (.long p1), .second] []))) ?_ (fun _ k => castTop (ef_1 m a_o0 p1) k)
  refine Ends.step (u' := (s₁.setTop (mkF m 1 #[.val (.ref a_o0), .val (.long p1), .second] [(.ref a_o0)]))) ?_ (fun _ k => XS.aloadN X0.here hx rfl (hb hby d1_0) rfl rfl k)
  refine Ends.callC X0 hx hZ (y := (⟨"java/lang/Record", "<init>", "()V"⟩ : MethodName)) rfl hown (hw _ (List.mem_of_getElem? (i := 6) rfl)) (hw _ (List.mem_of_getElem? (i := 7) rfl)) (hw _ (List.mem_of_getElem? (i := 9) rfl)) (hw _ (List.mem_of_getElem? (i := 10) rfl)) (by decide) (rm2 l Z a0 hw a_o0 h0 n0 Z0) 0 (by decide) (by decide) e0  (g := (mkF m 1 #[.val (.ref a_o0), .val (.long p1), .second] [(.ref a_o0)])) rfl (by rw [hml]; rfl) a_o0 [] [] (lenOf pd_0 rfl) rfl (by show 2 * 0 + _ ≤ _; exact Nat.le_of_eq rfl) (hb hby d1_1) rfl (by decide) (by decide) (fun v1 T1 L1 X1 hQ1 => ?_)
  obtain ⟨rfl, Nq1, e1⟩ := hQ1
  have N1 := Fr.app N0 Nq1
  show Ends p e below s _ _ _ (T1.setTop (mkF m 4 #[.val (.ref a_o0), .val (.long p1), .second] []))
  refine Ends.step (u' := (T1.setTop (mkF m 5 #[.val (.ref a_o0), .val (.long p1), .second] [(.ref a_o0)]))) ?_ (fun _ k => XS.aloadN X1.here hx rfl (hb hby d1_4) rfl rfl k)
  refine Ends.step (u' := (T1.setTop (mkF m 6 #[.val (.ref a_o0), .val (.long p1), .second] [(.long p1), (.ref a_o0)]))) ?_ (fun _ k => XT.lloadN X1.here hx rfl (hb hby d1_5) rfl k)
  refine Ends.putF X1 hx hZ hown (hw _ (List.mem_of_getElem? (i := 14) rfl)) e1 F_o0_cents E_o0 (Or.inr ⟨(hw _ (List.mem_of_getElem? (i := 15) rfl)), rfl, hnm⟩) (hw _ (List.mem_of_getElem? (i := 1) rfl)) (tf := .long) (by decide) rfl rfl N1 g_o0 (g := (mkF m 6 #[.val (.ref a_o0), .val (.long p1), .second] [(.long p1), (.ref a_o0)])) rfl rfl (hb hby d1_6) (fun T2 h2 X2 e2 N2 W2 => ?_)
  have Fd3 := F_o0_cents.same W2
  have E4 := E_o0.wr W2
  show Ends p e below s _ _ _ (T2.setTop (mkF m 9 #[.val (.ref a_o0), .val (.long p1), .second] []))
  have Z5 : n0 ≤ h2.size := W2.size.symm ▸ Z0
  have K6 := K0.wr W2 (Or.inl (List.mem_of_getElem? (i := 0) rfl))
  exact Ends.ret X2 (v := none) (fun _ => rfl) hlk (fun fs hr => X2.returnOut hx hret (hb hby d1_9) hr) (by decide) (by decide) (by rw [e2]; exact ⟨rfl, N2, K6, Fd3⟩)
theorem d5_0 : decode jdk_35_method_42_code 0 = .ok (.lload_n 0, 1) := by decide +kernel
theorem d5_1 : decode jdk_35_method_42_code 1 = .ok (.lload_n 2, 1) := by decide +kernel
theorem d5_2 : decode jdk_35_method_42_code 2 = .ok (.lcmp, 1) := by decide +kernel
theorem d5_3 : decode jdk_35_method_42_code 3 = .ok (.ifCond .ge 7, 3) := by decide +kernel
theorem d5_6 : decode jdk_35_method_42_code 6 = .ok (.iconst (-1), 1) := by decide +kernel
theorem d5_7 : decode jdk_35_method_42_code 7 = .ok (.goto 14, 3) := by decide +kernel
theorem d5_10 : decode jdk_35_method_42_code 10 = .ok (.lload_n 0, 1) := by decide +kernel
theorem d5_11 : decode jdk_35_method_42_code 11 = .ok (.lload_n 2, 1) := by decide +kernel
theorem d5_12 : decode jdk_35_method_42_code 12 = .ok (.lcmp, 1) := by decide +kernel
theorem d5_13 : decode jdk_35_method_42_code 13 = .ok (.ifCond .ne 7, 3) := by decide +kernel
theorem d5_16 : decode jdk_35_method_42_code 16 = .ok (.iconst 0, 1) := by decide +kernel
theorem d5_17 : decode jdk_35_method_42_code 17 = .ok (.goto 4, 3) := by decide +kernel
theorem d5_20 : decode jdk_35_method_42_code 20 = .ok (.iconst 1, 1) := by decide +kernel
theorem d5_21 : decode jdk_35_method_42_code 21 = .ok (.ireturn, 1) := by decide +kernel
theorem pn_5 : plainFor (⟨"java/lang/Long", "compare", "(JJ)I"⟩ : MethodName) = true := by first | exact plainFor_of_name (by first | (simp [plainName, overriddenIn]; done) | decide +kernel) | decide +kernel
theorem ef_5 (m : MethodId) (y0 : Int64) (y1 : Int64) : entryFrame m #[(.long y0), (.long y1)] 4 = mkF m 0 #[.val (.long y0), .second, .val (.long y1), .second] [] := by first | (simp [entryFrame, mkF, argsToLocals, Value.category]; done) | rfl
def Q5 (Z : State)   (h0 : Heap) (n0 : Nat) (ans : Int32) (v : Option Value) (h : Heap) (L : List Loc) : Prop := v = some (.int ans) ∧ Fr n0 L ∧ h = h0
set_option maxRecDepth 65536 in
set_option maxHeartbeats 40000000 in
theorem rm5 (l : Launch) (Z : State) (a0 : Array Value) (hw : ∀ d ∈ tables_1, d.before a0 Z = true) (p0 : Int64) (p1 : Int64)  (h0 : Heap) (n0 : Nat) (Z0 : n0 ≤ h0.size)  :
    Meets l Z (⟨"java/lang/Long", "compare", "(JJ)I"⟩ : MethodName) jdk_35_method_42_code 4 (some .int) [] ({ frames := 0, cells := 0, slots := 0, locals := 0 } : Room) #[(.long p0), (.long p1)] h0 (Q5 Z  h0 n0 (F5 p0 p1)) 0 0 := by
  refine Meets.of pn_5 ?_
  intro p e s m below meth c s₁ hx hby hml hZ hown hnm hret hlk X0 e0
  have hml : c.maxLocals = 4 := hml
  have hown : s.vm.findClass "java/lang/Long" = some m.cls := hown
  have N0 := Fr.nil n0
  have b21 : ∀ (T : State) (L : List Loc) (X : Stand p l e ({ frames := 0, cells := 0, slots := 0, locals := 0 } : Room) s m #[(.long p0), (.long p1)] below meth c T L 0 0) (eT : T.heap = h0) (N : Fr n0 L) (t0 : Int32) (z0 : Int64) (z2 : Int64), Ends p e below s 0 0 (Q5 Z  h0 n0 (F5_21 t0)) (T.setTop (mkF m 21 #[.val (.long z0), .second, .val (.long z2), .second] [(.int t0)])) := by
    intro T L X eT N t0 z0 z2
    exact Ends.ret X (v := some (.int t0)) (fun q => by rw [hret] at q; cases q) hlk (fun fs hr => retI X hx hret (hb hby d5_21) hr) (by decide) (by decide) ⟨rfl, N, eT⟩
  have b6 : ∀ (T : State) (L : List Loc) (X : Stand p l e ({ frames := 0, cells := 0, slots := 0, locals := 0 } : Room) s m #[(.long p0), (.long p1)] below meth c T L 0 0) (eT : T.heap = h0) (N : Fr n0 L) (z0 : Int64) (z2 : Int64), Ends p e below s 0 0 (Q5 Z  h0 n0 F5_6) (T.setTop (mkF m 6 #[.val (.long z0), .second, .val (.long z2), .second] [])) := by
    intro T L X eT N z0 z2
    refine Ends.step (u' := (T.setTop (mkF m 7 #[.val (.long z0), .second, .val (.long z2), .second] [(.int (-1 : Int32))]))) ?_ (fun _ k => XT.iconstV X.here hx rfl (-1 : Int32) (hb hby d5_6) rfl k)
    refine Ends.step (u' := (T.setTop (mkF m 21 #[.val (.long z0), .second, .val (.long z2), .second] [(.int (-1 : Int32))]))) ?_ (fun _ k => XS.goto X.here hx rfl (pc0 := 7) (pc' := 21) rfl (hb hby d5_7) (by decide) (by decide) k)
    exact b21 T _ X eT N (-1 : Int32) z0 z2
  have b16 : ∀ (T : State) (L : List Loc) (X : Stand p l e ({ frames := 0, cells := 0, slots := 0, locals := 0 } : Room) s m #[(.long p0), (.long p1)] below meth c T L 0 0) (eT : T.heap = h0) (N : Fr n0 L) (z0 : Int64) (z2 : Int64), Ends p e below s 0 0 (Q5 Z  h0 n0 F5_16) (T.setTop (mkF m 16 #[.val (.long z0), .second, .val (.long z2), .second] [])) := by
    intro T L X eT N z0 z2
    refine Ends.step (u' := (T.setTop (mkF m 17 #[.val (.long z0), .second, .val (.long z2), .second] [(.int (0 : Int32))]))) ?_ (fun _ k => XT.iconstV X.here hx rfl (0 : Int32) (hb hby d5_16) rfl k)
    refine Ends.step (u' := (T.setTop (mkF m 21 #[.val (.long z0), .second, .val (.long z2), .second] [(.int (0 : Int32))]))) ?_ (fun _ k => XS.goto X.here hx rfl (pc0 := 17) (pc' := 21) rfl (hb hby d5_17) (by decide) (by decide) k)
    exact b21 T _ X eT N (0 : Int32) z0 z2
  have b20 : ∀ (T : State) (L : List Loc) (X : Stand p l e ({ frames := 0, cells := 0, slots := 0, locals := 0 } : Room) s m #[(.long p0), (.long p1)] below meth c T L 0 0) (eT : T.heap = h0) (N : Fr n0 L) (z0 : Int64) (z2 : Int64), Ends p e below s 0 0 (Q5 Z  h0 n0 F5_20) (T.setTop (mkF m 20 #[.val (.long z0), .second, .val (.long z2), .second] [])) := by
    intro T L X eT N z0 z2
    refine Ends.step (u' := (T.setTop (mkF m 21 #[.val (.long z0), .second, .val (.long z2), .second] [(.int (1 : Int32))]))) ?_ (fun _ k => XT.iconstV X.here hx rfl (1 : Int32) (hb hby d5_20) rfl k)
    exact b21 T _ X eT N (1 : Int32) z0 z2
  have b10 : ∀ (T : State) (L : List Loc) (X : Stand p l e ({ frames := 0, cells := 0, slots := 0, locals := 0 } : Room) s m #[(.long p0), (.long p1)] below meth c T L 0 0) (eT : T.heap = h0) (N : Fr n0 L) (x0 : Int64) (x2 : Int64), Ends p e below s 0 0 (Q5 Z  h0 n0 (F5_10 x0 x2)) (T.setTop (mkF m 10 #[.val (.long x0), .second, .val (.long x2), .second] [])) := by
    intro T L X eT N x0 x2
    refine Ends.step (u' := (T.setTop (mkF m 11 #[.val (.long x0), .second, .val (.long x2), .second] [(.long x0)]))) ?_ (fun _ k => XT.lloadN X.here hx rfl (hb hby d5_10) rfl k)
    refine Ends.step (u' := (T.setTop (mkF m 12 #[.val (.long x0), .second, .val (.long x2), .second] [(.long x2), (.long x0)]))) ?_ (fun _ k => XT.lloadN X.here hx rfl (hb hby d5_11) rfl k)
    refine Ends.step (u' := (T.setTop (mkF m 13 #[.val (.long x0), .second, .val (.long x2), .second] [(.int (XT.cmpL x0 x2))]))) ?_ (fun _ k => XT.lcmp X.here hx rfl (hb hby d5_12) rfl k)
    by_cases hc13 : x0 = x2
    · refine Eq.mp (congrArg (fun z => Ends p e below s 0 0 (Q5 Z  h0 n0 z) (T.setTop (mkF m 13 #[.val (.long x0), .second, .val (.long x2), .second] [(.int (XT.cmpL x0 x2))]))) (show (F5_10 x0 x2) = F5_16 from (if_pos hc13)).symm) ?_
      refine Ends.step (u' := (T.setTop (mkF m 16 #[.val (.long x0), .second, .val (.long x2), .second] []))) ?_ (fun _ k => XS.ifNo X.here hx rfl (hb hby d5_13) rfl (XT.ll_ne_f hc13) k)
      exact b16 T _ X eT N x0 x2
    · refine Eq.mp (congrArg (fun z => Ends p e below s 0 0 (Q5 Z  h0 n0 z) (T.setTop (mkF m 13 #[.val (.long x0), .second, .val (.long x2), .second] [(.int (XT.cmpL x0 x2))]))) (show (F5_10 x0 x2) = F5_20 from (if_neg hc13)).symm) ?_
      refine Ends.step (u' := (T.setTop (mkF m 20 #[.val (.long x0), .second, .val (.long x2), .second] []))) ?_ (fun _ k => XS.ifYes X.here hx rfl (pc0 := 13) (pc' := 20) rfl (hb hby d5_13) rfl (XT.ll_ne_t hc13) (by decide) (by decide) k)
      exact b20 T _ X eT N x0 x2
  refine Ends.step (u' := (s₁.setTop (mkF m 0 #[.val (.long p0), .second, .val (.long p1), .second] []))) ?_ (fun _ k => castTop (ef_5 m p0 p1) k)
  refine Ends.step (u' := (s₁.setTop (mkF m 1 #[.val (.long p0), .second, .val (.long p1), .second] [(.long p0)]))) ?_ (fun _ k => XT.lloadN X0.here hx rfl (hb hby d5_0) rfl k)
  refine Ends.step (u' := (s₁.setTop (mkF m 2 #[.val (.long p0), .second, .val (.long p1), .second] [(.long p1), (.long p0)]))) ?_ (fun _ k => XT.lloadN X0.here hx rfl (hb hby d5_1) rfl k)
  refine Ends.step (u' := (s₁.setTop (mkF m 3 #[.val (.long p0), .second, .val (.long p1), .second] [(.int (XT.cmpL p0 p1))]))) ?_ (fun _ k => XT.lcmp X0.here hx rfl (hb hby d5_2) rfl k)
  by_cases hc3 : p0 < p1
  · refine Eq.mp (congrArg (fun z => Ends p e below s 0 0 (Q5 Z  h0 n0 z) (s₁.setTop (mkF m 3 #[.val (.long p0), .second, .val (.long p1), .second] [(.int (XT.cmpL p0 p1))]))) (show (F5 p0 p1) = F5_6 from (if_pos hc3)).symm) ?_
    refine Ends.step (u' := (s₁.setTop (mkF m 6 #[.val (.long p0), .second, .val (.long p1), .second] []))) ?_ (fun _ k => XS.ifNo X0.here hx rfl (hb hby d5_3) rfl (XT.ll_ge_f hc3) k)
    exact b6 s₁ _ X0 e0 N0 p0 p1
  · refine Eq.mp (congrArg (fun z => Ends p e below s 0 0 (Q5 Z  h0 n0 z) (s₁.setTop (mkF m 3 #[.val (.long p0), .second, .val (.long p1), .second] [(.int (XT.cmpL p0 p1))]))) (show (F5 p0 p1) = (F5_10 p0 p1) from (if_neg hc3)).symm) ?_
    refine Ends.step (u' := (s₁.setTop (mkF m 10 #[.val (.long p0), .second, .val (.long p1), .second] []))) ?_ (fun _ k => XS.ifYes X0.here hx rfl (pc0 := 3) (pc' := 10) rfl (hb hby d5_3) rfl (XT.ll_ge_t hc3) (by decide) (by decide) k)
    exact b10 s₁ _ X0 e0 N0 p0 p1
theorem d4_0 : decode prog_23_method_6_code 0 = .ok (.aload_n 0, 1) := by decide +kernel
theorem d4_1 : decode prog_23_method_6_code 1 = .ok (.getfield 7, 3) := by decide +kernel
theorem d4_4 : decode prog_23_method_6_code 4 = .ok (.aload_n 1, 1) := by decide +kernel
theorem d4_5 : decode prog_23_method_6_code 5 = .ok (.getfield 7, 3) := by decide +kernel
theorem d4_8 : decode prog_23_method_6_code 8 = .ok (.invokestatic 75, 3) := by decide +kernel
theorem d4_11 : decode prog_23_method_6_code 11 = .ok (.ireturn, 1) := by decide +kernel
theorem pn_4 : plainFor (⟨"com/example/waybill/waybill/core/Money", "compareTo", "(Lcom/example/waybill/waybill/core/Money;)I"⟩ : MethodName) = true := by first | exact plainFor_of_name (by first | (simp [plainName, overriddenIn]; done) | decide +kernel) | decide +kernel
theorem ef_4 (m : MethodId) (y0 : Addr) (y1 : Addr) : entryFrame m #[(.ref y0), (.ref y1)] 2 = mkF m 0 #[.val (.ref y0), .val (.ref y1)] [] := by first | (simp [entryFrame, mkF, argsToLocals, Value.category]; done) | rfl
def Q4 (Z : State) (a_o0 : Addr) (a_o1 : Addr) (o0_cents : Int64) (o1_cents : Int64) (h0 : Heap) (n0 : Nat) (ans : Int32) (v : Option Value) (h : Heap) (L : List Loc) : Prop := v = some (.int ans) ∧ Fr n0 L ∧ h = h0
set_option maxRecDepth 65536 in
set_option maxHeartbeats 40000000 in
theorem rm4 (l : Launch) (Z : State) (a0 : Array Value) (hw : ∀ d ∈ tables_1, d.before a0 Z = true) (o0_cents : Int64) (o1_cents : Int64) (a_o0 : Addr) (a_o1 : Addr) (h0 : Heap) (n0 : Nat) (Z0 : n0 ≤ h0.size) (E_o0 : Exa Z h0 a_o0 "com/example/waybill/waybill/core/Money") (F_o0_cents : Fld Z h0 a_o0 "com/example/waybill/waybill/core/Money" "cents" "J" (.long o0_cents)) (E_o1 : Exa Z h0 a_o1 "com/example/waybill/waybill/core/Money") (F_o1_cents : Fld Z h0 a_o1 "com/example/waybill/waybill/core/Money" "cents" "J" (.long o1_cents)) :
    Meets l Z (⟨"com/example/waybill/waybill/core/Money", "compareTo", "(Lcom/example/waybill/waybill/core/Money;)I"⟩ : MethodName) prog_23_method_6_code 2 (some .int) [] ({ frames := 1, cells := 0, slots := 0, locals := 15 } : Room) #[(.ref a_o0), (.ref a_o1)] h0 (Q4 Z a_o0 a_o1 o0_cents o1_cents h0 n0 (F4 o0_cents o1_cents)) 0 0 := by
  refine Meets.of pn_4 ?_
  intro p e s m below meth c s₁ hx hby hml hZ hown hnm hret hlk X0 e0
  have hml : c.maxLocals = 2 := hml
  have hown : s.vm.findClass "com/example/waybill/waybill/core/Money" = some m.cls := hown
  have N0 := Fr.nil n0
  refine Ends.step (u' := (s₁.setTop (mkF m 0 #[.val (.ref a_o0), .val (.ref a_o1)] []))) ?_ (fun _ k => castTop (ef_4 m a_o0 a_o1) k)
  refine Ends.step (u' := (s₁.setTop (mkF m 1 #[.val (.ref a_o0), .val (.ref a_o1)] [(.ref a_o0)]))) ?_ (fun _ k => XS.aloadN X0.here hx rfl (hb hby d4_0) rfl rfl k)
  refine Ends.getF X0 hx hZ hown (hw _ (List.mem_of_getElem? (i := 14) rfl)) e0 F_o0_cents (g := (mkF m 1 #[.val (.ref a_o0), .val (.ref a_o1)] [(.ref a_o0)])) rfl rfl (hb hby d4_1) (fun T1 X1 e1 => ?_)
  show Ends p e below s _ _ _ (T1.setTop (mkF m 4 #[.val (.ref a_o0), .val (.ref a_o1)] [(.long o0_cents)]))
  refine Ends.step (u' := (T1.setTop (mkF m 5 #[.val (.ref a_o0), .val (.ref a_o1)] [(.ref a_o1), (.long o0_cents)]))) ?_ (fun _ k => XS.aloadN X1.here hx rfl (hb hby d4_4) rfl rfl k)
  refine Ends.getF X1 hx hZ hown (hw _ (List.mem_of_getElem? (i := 14) rfl)) e1 F_o1_cents (g := (mkF m 5 #[.val (.ref a_o0), .val (.ref a_o1)] [(.ref a_o1), (.long o0_cents)])) rfl rfl (hb hby d4_5) (fun T2 X2 e2 => ?_)
  show Ends p e below s _ _ _ (T2.setTop (mkF m 8 #[.val (.ref a_o0), .val (.ref a_o1)] [(.long o1_cents), (.long o0_cents)]))
  refine Ends.callS X2 hx hZ hown (hw _ (List.mem_of_getElem? (i := 21) rfl)) (hw _ (List.mem_of_getElem? (i := 22) rfl)) (hw _ (List.mem_of_getElem? (i := 23) rfl)) (hw _ (List.mem_of_getElem? (i := 24) rfl)) (by decide) (rm5 l Z a0 hw o0_cents o1_cents h0 n0 Z0) 0 (by decide) (by decide) e2  (g := (mkF m 8 #[.val (.ref a_o0), .val (.ref a_o1)] [(.long o1_cents), (.long o0_cents)])) rfl (by rw [hml]; rfl)  [(.long o0_cents), (.long o1_cents)] [] (lenOf pd_1 rfl) rfl (by show 2 * 0 + _ ≤ _; exact Nat.le_of_eq rfl) (hb hby d4_8) rfl (by decide) (by decide) (fun v3 T3 L3 X3 hQ3 => ?_)
  obtain ⟨rfl, Nq3, e3⟩ := hQ3
  have N3 := Fr.app N0 Nq3
  show Ends p e below s _ _ _ (T3.setTop (mkF m 11 #[.val (.ref a_o0), .val (.ref a_o1)] [(.int (F5 o0_cents o1_cents))]))
  exact Ends.ret X3 (v := some (.int (F5 o0_cents o1_cents))) (fun q => by rw [hret] at q; cases q) hlk (fun fs hr => retI X3 hx hret (hb hby d4_11) hr) (by decide) (by decide) ⟨rfl, N3, e3⟩
theorem pn_0 : plainFor x = true := by first | exact plainFor_of_name (by first | (simp [plainName, overriddenIn]; done) | decide +kernel) | decide +kernel
theorem ef_0 (m : MethodId) (y0 : Int64) (y1 : Int64) (y2 : Int32) : entryFrame m #[(.long y0), (.long y1), (.int y2)] maxLocals = mkF m 0 #[.val (.long y0), .second, .val (.long y1), .second, .val (.int y2), .unset, .unset, .unset, .unset, .unset, .unset, .unset, .unset, .unset] [] := by first | (simp [entryFrame, mkF, argsToLocals, Value.category, maxLocals]; done) | rfl
def Q0 (Z : State)   (h0 : Heap) (n0 : Nat) (ans : Int32) (v : Option Value) (h : Heap) (L : List Loc) : Prop := v = some (.int ans) ∧ Fr n0 L
set_option maxRecDepth 65536 in
set_option maxHeartbeats 40000000 in
theorem rm0 (l : Launch) (Z : State) (a0 : Array Value) (hw : ∀ d ∈ tables_1, d.before a0 Z = true) (p0 : Int64) (p1 : Int64) (p2 : Int32)  (h0 : Heap) (n0 : Nat) (Z0 : n0 ≤ h0.size)  :
    Meets l Z x code maxLocals ret tables_1 room_1 #[(.long p0), (.long p1), (.int p2)] h0 (Q0 Z  h0 n0 (F0 p0 p1 p2)) 2 2 := by
  refine Meets.of pn_0 ?_
  intro p e s m below meth c s₁ hx hby hml hZ hown hnm hret hlk X0 e0
  have hml : c.maxLocals = 14 := hml
  have hown : s.vm.findClass "com/example/waybill/waybill/core/MoneyCompareToPinLaw" = some m.cls := hown
  have N0 := Fr.nil n0
  have b173 : ∀ (T : State) (L : List Loc) (h : Heap) (X : Stand p l e room_1 s m #[(.long p0), (.long p1), (.int p2)] below meth c T L 2 2) (eT : T.heap = h) (N : Fr n0 L) (Zs : n0 ≤ h.size) (t0 : Int32) (z0 : Int64) (z2 : Int64) (d4 : Slot) (od4 : OneS d4) (d5 : Slot) (od5 : OneS d5) (z6 : Int64) (d8 : Slot) (od8 : OneS d8) (d9 : Slot) (od9 : OneS d9) (d10 : Slot) (od10 : OneS d10) (d11 : Slot) (od11 : OneS d11) (d12 : Slot) (od12 : OneS d12) (d13 : Slot) (od13 : OneS d13), Ends p e below s 2 2 (Q0 Z  h0 n0 (F0_173 t0)) (T.setTop (mkF m 173 #[.val (.long z0), .second, .val (.long z2), .second, d4, d5, .val (.long z6), .second, d8, d9, d10, d11, d12, d13] [(.int t0)])) := by
    intro T L h X eT N Zs t0 z0 z2 d4 od4 d5 od5 z6 d8 od8 d9 od9 d10 od10 d11 od11 d12 od12 d13 od13
    exact Ends.ret X (v := some (.int (nar .boolean t0))) (fun q => by rw [hret] at q; cases q) hlk (fun fs hr => retN X hx (t := .boolean) hret (by simp) (hb hby at_173) hr) (by decide) (by decide) ⟨rfl, N⟩
  have b168 : ∀ (T : State) (L : List Loc) (h : Heap) (X : Stand p l e room_1 s m #[(.long p0), (.long p1), (.int p2)] below meth c T L 2 2) (eT : T.heap = h) (N : Fr n0 L) (Zs : n0 ≤ h.size) (z0 : Int64) (z2 : Int64) (d4 : Slot) (od4 : OneS d4) (d5 : Slot) (od5 : OneS d5) (z6 : Int64) (d8 : Slot) (od8 : OneS d8) (d9 : Slot) (od9 : OneS d9) (d10 : Slot) (od10 : OneS d10) (d11 : Slot) (od11 : OneS d11) (d12 : Slot) (od12 : OneS d12) (d13 : Slot) (od13 : OneS d13), Ends p e below s 2 2 (Q0 Z  h0 n0 F0_168) (T.setTop (mkF m 168 #[.val (.long z0), .second, .val (.long z2), .second, d4, d5, .val (.long z6), .second, d8, d9, d10, d11, d12, d13] [])) := by
    intro T L h X eT N Zs z0 z2 d4 od4 d5 od5 z6 d8 od8 d9 od9 d10 od10 d11 od11 d12 od12 d13 od13
    refine Ends.step (u' := (T.setTop (mkF m 169 #[.val (.long z0), .second, .val (.long z2), .second, d4, d5, .val (.long z6), .second, d8, d9, d10, d11, d12, d13] [(.int (1 : Int32))]))) ?_ (fun _ k => XT.iconstV X.here hx rfl (1 : Int32) (hb hby at_168) rfl k)
    refine Ends.step (u' := (T.setTop (mkF m 173 #[.val (.long z0), .second, .val (.long z2), .second, d4, d5, .val (.long z6), .second, d8, d9, d10, d11, d12, d13] [(.int (1 : Int32))]))) ?_ (fun _ k => XS.goto X.here hx rfl (pc0 := 169) (pc' := 173) rfl (hb hby at_169) (by decide) (by decide) k)
    exact b173 T _ _ X eT N Zs (1 : Int32) z0 z2 (d4) od4 (d5) od5 z6 (d8) od8 (d9) od9 (d10) od10 (d11) od11 (d12) od12 (d13) od13
  have b172 : ∀ (T : State) (L : List Loc) (h : Heap) (X : Stand p l e room_1 s m #[(.long p0), (.long p1), (.int p2)] below meth c T L 2 2) (eT : T.heap = h) (N : Fr n0 L) (Zs : n0 ≤ h.size) (z0 : Int64) (z2 : Int64) (d4 : Slot) (od4 : OneS d4) (d5 : Slot) (od5 : OneS d5) (z6 : Int64) (d8 : Slot) (od8 : OneS d8) (d9 : Slot) (od9 : OneS d9) (d10 : Slot) (od10 : OneS d10) (d11 : Slot) (od11 : OneS d11) (d12 : Slot) (od12 : OneS d12) (d13 : Slot) (od13 : OneS d13), Ends p e below s 2 2 (Q0 Z  h0 n0 F0_172) (T.setTop (mkF m 172 #[.val (.long z0), .second, .val (.long z2), .second, d4, d5, .val (.long z6), .second, d8, d9, d10, d11, d12, d13] [])) := by
    intro T L h X eT N Zs z0 z2 d4 od4 d5 od5 z6 d8 od8 d9 od9 d10 od10 d11 od11 d12 od12 d13 od13
    refine Ends.step (u' := (T.setTop (mkF m 173 #[.val (.long z0), .second, .val (.long z2), .second, d4, d5, .val (.long z6), .second, d8, d9, d10, d11, d12, d13] [(.int (0 : Int32))]))) ?_ (fun _ k => XT.iconstV X.here hx rfl (0 : Int32) (hb hby at_172) rfl k)
    exact b173 T _ _ X eT N Zs (0 : Int32) z0 z2 (d4) od4 (d5) od5 z6 (d8) od8 (d9) od9 (d10) od10 (d11) od11 (d12) od12 (d13) od13
  have b163 : ∀ (T : State) (L : List Loc) (h : Heap) (X : Stand p l e room_1 s m #[(.long p0), (.long p1), (.int p2)] below meth c T L 2 2) (eT : T.heap = h) (N : Fr n0 L) (Zs : n0 ≤ h.size) (x13 : Int32) (t0 : Int32) (z0 : Int64) (z2 : Int64) (d4 : Slot) (od4 : OneS d4) (d5 : Slot) (od5 : OneS d5) (z6 : Int64) (d8 : Slot) (od8 : OneS d8) (d9 : Slot) (od9 : OneS d9) (d10 : Slot) (od10 : OneS d10) (d11 : Slot) (od11 : OneS d11) (d12 : Slot) (od12 : OneS d12), Ends p e below s 2 2 (Q0 Z  h0 n0 (F0_163 x13 t0)) (T.setTop (mkF m 163 #[.val (.long z0), .second, .val (.long z2), .second, d4, d5, .val (.long z6), .second, d8, d9, d10, d11, d12, .val (.int x13)] [(.int t0)])) := by
    intro T L h X eT N Zs x13 t0 z0 z2 d4 od4 d5 od5 z6 d8 od8 d9 od9 d10 od10 d11 od11 d12 od12
    refine Ends.step (u' := (T.setTop (mkF m 165 #[.val (.long z0), .second, .val (.long z2), .second, d4, d5, .val (.long z6), .second, d8, d9, d10, d11, d12, .val (.int x13)] [(.int x13), (.int t0)]))) ?_ (fun _ k => XS.iload X.here hx rfl (hb hby at_163) rfl k)
    by_cases hc165 : t0 = x13
    · refine Eq.mp (congrArg (fun z => Ends p e below s 2 2 (Q0 Z  h0 n0 z) (T.setTop (mkF m 165 #[.val (.long z0), .second, .val (.long z2), .second, d4, d5, .val (.long z6), .second, d8, d9, d10, d11, d12, .val (.int x13)] [(.int x13), (.int t0)]))) (show (F0_163 x13 t0) = F0_168 from (if_pos hc165)).symm) ?_
      refine Ends.step (u' := (T.setTop (mkF m 168 #[.val (.long z0), .second, .val (.long z2), .second, d4, d5, .val (.long z6), .second, d8, d9, d10, d11, d12, .val (.int x13)] []))) ?_ (fun _ k => XS.icmpNo X.here hx rfl (hb hby at_165) rfl (XT.ii_ne_f hc165) k)
      exact b168 T _ _ X eT N Zs z0 z2 (d4) od4 (d5) od5 z6 (d8) od8 (d9) od9 (d10) od10 (d11) od11 (d12) od12 (.val (.int x13)) (Or.inr ⟨_, rfl, rfl⟩)
    · refine Eq.mp (congrArg (fun z => Ends p e below s 2 2 (Q0 Z  h0 n0 z) (T.setTop (mkF m 165 #[.val (.long z0), .second, .val (.long z2), .second, d4, d5, .val (.long z6), .second, d8, d9, d10, d11, d12, .val (.int x13)] [(.int x13), (.int t0)]))) (show (F0_163 x13 t0) = F0_172 from (if_neg hc165)).symm) ?_
      refine Ends.step (u' := (T.setTop (mkF m 172 #[.val (.long z0), .second, .val (.long z2), .second, d4, d5, .val (.long z6), .second, d8, d9, d10, d11, d12, .val (.int x13)] []))) ?_ (fun _ k => XS.icmpYes X.here hx rfl (pc0 := 165) (pc' := 172) rfl (hb hby at_165) rfl (XT.ii_ne_t hc165) (by decide) (by decide) k)
      exact b172 T _ _ X eT N Zs z0 z2 (d4) od4 (d5) od5 z6 (d8) od8 (d9) od9 (d10) od10 (d11) od11 (d12) od12 (.val (.int x13)) (Or.inr ⟨_, rfl, rfl⟩)
  have b158 : ∀ (T : State) (L : List Loc) (h : Heap) (X : Stand p l e room_1 s m #[(.long p0), (.long p1), (.int p2)] below meth c T L 2 2) (eT : T.heap = h) (N : Fr n0 L) (Zs : n0 ≤ h.size) (x13 : Int32) (z0 : Int64) (z2 : Int64) (d4 : Slot) (od4 : OneS d4) (d5 : Slot) (od5 : OneS d5) (z6 : Int64) (d8 : Slot) (od8 : OneS d8) (d9 : Slot) (od9 : OneS d9) (d10 : Slot) (od10 : OneS d10) (d11 : Slot) (od11 : OneS d11) (d12 : Slot) (od12 : OneS d12), Ends p e below s 2 2 (Q0 Z  h0 n0 (F0_158 x13)) (T.setTop (mkF m 158 #[.val (.long z0), .second, .val (.long z2), .second, d4, d5, .val (.long z6), .second, d8, d9, d10, d11, d12, .val (.int x13)] [])) := by
    intro T L h X eT N Zs x13 z0 z2 d4 od4 d5 od5 z6 d8 od8 d9 od9 d10 od10 d11 od11 d12 od12
    refine Ends.step (u' := (T.setTop (mkF m 159 #[.val (.long z0), .second, .val (.long z2), .second, d4, d5, .val (.long z6), .second, d8, d9, d10, d11, d12, .val (.int x13)] [(.int (1 : Int32))]))) ?_ (fun _ k => XT.iconstV X.here hx rfl (1 : Int32) (hb hby at_158) rfl k)
    refine Ends.step (u' := (T.setTop (mkF m 163 #[.val (.long z0), .second, .val (.long z2), .second, d4, d5, .val (.long z6), .second, d8, d9, d10, d11, d12, .val (.int x13)] [(.int (1 : Int32))]))) ?_ (fun _ k => XS.goto X.here hx rfl (pc0 := 159) (pc' := 163) rfl (hb hby at_159) (by decide) (by decide) k)
    exact b163 T _ _ X eT N Zs x13 (1 : Int32) z0 z2 (d4) od4 (d5) od5 z6 (d8) od8 (d9) od9 (d10) od10 (d11) od11 (d12) od12
  have b162 : ∀ (T : State) (L : List Loc) (h : Heap) (X : Stand p l e room_1 s m #[(.long p0), (.long p1), (.int p2)] below meth c T L 2 2) (eT : T.heap = h) (N : Fr n0 L) (Zs : n0 ≤ h.size) (x13 : Int32) (z0 : Int64) (z2 : Int64) (d4 : Slot) (od4 : OneS d4) (d5 : Slot) (od5 : OneS d5) (z6 : Int64) (d8 : Slot) (od8 : OneS d8) (d9 : Slot) (od9 : OneS d9) (d10 : Slot) (od10 : OneS d10) (d11 : Slot) (od11 : OneS d11) (d12 : Slot) (od12 : OneS d12), Ends p e below s 2 2 (Q0 Z  h0 n0 (F0_162 x13)) (T.setTop (mkF m 162 #[.val (.long z0), .second, .val (.long z2), .second, d4, d5, .val (.long z6), .second, d8, d9, d10, d11, d12, .val (.int x13)] [])) := by
    intro T L h X eT N Zs x13 z0 z2 d4 od4 d5 od5 z6 d8 od8 d9 od9 d10 od10 d11 od11 d12 od12
    refine Ends.step (u' := (T.setTop (mkF m 163 #[.val (.long z0), .second, .val (.long z2), .second, d4, d5, .val (.long z6), .second, d8, d9, d10, d11, d12, .val (.int x13)] [(.int (0 : Int32))]))) ?_ (fun _ k => XT.iconstV X.here hx rfl (0 : Int32) (hb hby at_162) rfl k)
    exact b163 T _ _ X eT N Zs x13 (0 : Int32) z0 z2 (d4) od4 (d5) od5 z6 (d8) od8 (d9) od9 (d10) od10 (d11) od11 (d12) od12
  have b153 : ∀ (T : State) (L : List Loc) (h : Heap) (X : Stand p l e room_1 s m #[(.long p0), (.long p1), (.int p2)] below meth c T L 2 2) (eT : T.heap = h) (N : Fr n0 L) (Zs : n0 ≤ h.size) (x10 : Int32) (x13 : Int32) (z0 : Int64) (z2 : Int64) (d4 : Slot) (od4 : OneS d4) (d5 : Slot) (od5 : OneS d5) (z6 : Int64) (d8 : Slot) (od8 : OneS d8) (d9 : Slot) (od9 : OneS d9) (d11 : Slot) (od11 : OneS d11) (d12 : Slot) (od12 : OneS d12), Ends p e below s 2 2 (Q0 Z  h0 n0 (F0_153 x10 x13)) (T.setTop (mkF m 153 #[.val (.long z0), .second, .val (.long z2), .second, d4, d5, .val (.long z6), .second, d8, d9, .val (.int x10), d11, d12, .val (.int x13)] [])) := by
    intro T L h X eT N Zs x10 x13 z0 z2 d4 od4 d5 od5 z6 d8 od8 d9 od9 d11 od11 d12 od12
    refine Ends.step (u' := (T.setTop (mkF m 155 #[.val (.long z0), .second, .val (.long z2), .second, d4, d5, .val (.long z6), .second, d8, d9, .val (.int x10), d11, d12, .val (.int x13)] [(.int x10)]))) ?_ (fun _ k => XS.iload X.here hx rfl (hb hby at_153) rfl k)
    by_cases hc155 : x10 = 0
    · refine Eq.mp (congrArg (fun z => Ends p e below s 2 2 (Q0 Z  h0 n0 z) (T.setTop (mkF m 155 #[.val (.long z0), .second, .val (.long z2), .second, d4, d5, .val (.long z6), .second, d8, d9, .val (.int x10), d11, d12, .val (.int x13)] [(.int x10)]))) (show (F0_153 x10 x13) = (F0_158 x13) from (if_pos hc155)).symm) ?_
      refine Ends.step (u' := (T.setTop (mkF m 158 #[.val (.long z0), .second, .val (.long z2), .second, d4, d5, .val (.long z6), .second, d8, d9, .val (.int x10), d11, d12, .val (.int x13)] []))) ?_ (fun _ k => XS.ifNo X.here hx rfl (hb hby at_155) rfl (XT.i0_ne_f hc155) k)
      exact b158 T _ _ X eT N Zs x13 z0 z2 (d4) od4 (d5) od5 z6 (d8) od8 (d9) od9 (.val (.int x10)) (Or.inr ⟨_, rfl, rfl⟩) (d11) od11 (d12) od12
    · refine Eq.mp (congrArg (fun z => Ends p e below s 2 2 (Q0 Z  h0 n0 z) (T.setTop (mkF m 155 #[.val (.long z0), .second, .val (.long z2), .second, d4, d5, .val (.long z6), .second, d8, d9, .val (.int x10), d11, d12, .val (.int x13)] [(.int x10)]))) (show (F0_153 x10 x13) = (F0_162 x13) from (if_neg hc155)).symm) ?_
      refine Ends.step (u' := (T.setTop (mkF m 162 #[.val (.long z0), .second, .val (.long z2), .second, d4, d5, .val (.long z6), .second, d8, d9, .val (.int x10), d11, d12, .val (.int x13)] []))) ?_ (fun _ k => XS.ifYes X.here hx rfl (pc0 := 155) (pc' := 162) rfl (hb hby at_155) rfl (XT.i0_ne_t hc155) (by decide) (by decide) k)
      exact b162 T _ _ X eT N Zs x13 z0 z2 (d4) od4 (d5) od5 z6 (d8) od8 (d9) od9 (.val (.int x10)) (Or.inr ⟨_, rfl, rfl⟩) (d11) od11 (d12) od12
  have b148 : ∀ (T : State) (L : List Loc) (h : Heap) (X : Stand p l e room_1 s m #[(.long p0), (.long p1), (.int p2)] below meth c T L 2 2) (eT : T.heap = h) (N : Fr n0 L) (Zs : n0 ≤ h.size) (x10 : Int32) (x12 : Int32) (x13 : Int32) (t0 : Int32) (z0 : Int64) (z2 : Int64) (d4 : Slot) (od4 : OneS d4) (d5 : Slot) (od5 : OneS d5) (z6 : Int64) (d8 : Slot) (od8 : OneS d8) (d9 : Slot) (od9 : OneS d9) (d11 : Slot) (od11 : OneS d11), Ends p e below s 2 2 (Q0 Z  h0 n0 (F0_148 x10 x12 x13 t0)) (T.setTop (mkF m 148 #[.val (.long z0), .second, .val (.long z2), .second, d4, d5, .val (.long z6), .second, d8, d9, .val (.int x10), d11, .val (.int x12), .val (.int x13)] [(.int t0)])) := by
    intro T L h X eT N Zs x10 x12 x13 t0 z0 z2 d4 od4 d5 od5 z6 d8 od8 d9 od9 d11 od11
    refine Ends.step (u' := (T.setTop (mkF m 150 #[.val (.long z0), .second, .val (.long z2), .second, d4, d5, .val (.long z6), .second, d8, d9, .val (.int x10), d11, .val (.int x12), .val (.int x13)] [(.int x12), (.int t0)]))) ?_ (fun _ k => XS.iload X.here hx rfl (hb hby at_148) rfl k)
    by_cases hc150 : t0 = x12
    · refine Eq.mp (congrArg (fun z => Ends p e below s 2 2 (Q0 Z  h0 n0 z) (T.setTop (mkF m 150 #[.val (.long z0), .second, .val (.long z2), .second, d4, d5, .val (.long z6), .second, d8, d9, .val (.int x10), d11, .val (.int x12), .val (.int x13)] [(.int x12), (.int t0)]))) (show (F0_148 x10 x12 x13 t0) = (F0_153 x10 x13) from (if_pos hc150)).symm) ?_
      refine Ends.step (u' := (T.setTop (mkF m 153 #[.val (.long z0), .second, .val (.long z2), .second, d4, d5, .val (.long z6), .second, d8, d9, .val (.int x10), d11, .val (.int x12), .val (.int x13)] []))) ?_ (fun _ k => XS.icmpNo X.here hx rfl (hb hby at_150) rfl (XT.ii_ne_f hc150) k)
      exact b153 T _ _ X eT N Zs x10 x13 z0 z2 (d4) od4 (d5) od5 z6 (d8) od8 (d9) od9 (d11) od11 (.val (.int x12)) (Or.inr ⟨_, rfl, rfl⟩)
    · refine Eq.mp (congrArg (fun z => Ends p e below s 2 2 (Q0 Z  h0 n0 z) (T.setTop (mkF m 150 #[.val (.long z0), .second, .val (.long z2), .second, d4, d5, .val (.long z6), .second, d8, d9, .val (.int x10), d11, .val (.int x12), .val (.int x13)] [(.int x12), (.int t0)]))) (show (F0_148 x10 x12 x13 t0) = F0_172 from (if_neg hc150)).symm) ?_
      refine Ends.step (u' := (T.setTop (mkF m 172 #[.val (.long z0), .second, .val (.long z2), .second, d4, d5, .val (.long z6), .second, d8, d9, .val (.int x10), d11, .val (.int x12), .val (.int x13)] []))) ?_ (fun _ k => XS.icmpYes X.here hx rfl (pc0 := 150) (pc' := 172) rfl (hb hby at_150) rfl (XT.ii_ne_t hc150) (by decide) (by decide) k)
      exact b172 T _ _ X eT N Zs z0 z2 (d4) od4 (d5) od5 z6 (d8) od8 (d9) od9 (.val (.int x10)) (Or.inr ⟨_, rfl, rfl⟩) (d11) od11 (.val (.int x12)) (Or.inr ⟨_, rfl, rfl⟩) (.val (.int x13)) (Or.inr ⟨_, rfl, rfl⟩)
  have b143 : ∀ (T : State) (L : List Loc) (h : Heap) (X : Stand p l e room_1 s m #[(.long p0), (.long p1), (.int p2)] below meth c T L 2 2) (eT : T.heap = h) (N : Fr n0 L) (Zs : n0 ≤ h.size) (x10 : Int32) (x12 : Int32) (x13 : Int32) (z0 : Int64) (z2 : Int64) (d4 : Slot) (od4 : OneS d4) (d5 : Slot) (od5 : OneS d5) (z6 : Int64) (d8 : Slot) (od8 : OneS d8) (d9 : Slot) (od9 : OneS d9) (d11 : Slot) (od11 : OneS d11), Ends p e below s 2 2 (Q0 Z  h0 n0 (F0_143 x10 x12 x13)) (T.setTop (mkF m 143 #[.val (.long z0), .second, .val (.long z2), .second, d4, d5, .val (.long z6), .second, d8, d9, .val (.int x10), d11, .val (.int x12), .val (.int x13)] [])) := by
    intro T L h X eT N Zs x10 x12 x13 z0 z2 d4 od4 d5 od5 z6 d8 od8 d9 od9 d11 od11
    refine Ends.step (u' := (T.setTop (mkF m 144 #[.val (.long z0), .second, .val (.long z2), .second, d4, d5, .val (.long z6), .second, d8, d9, .val (.int x10), d11, .val (.int x12), .val (.int x13)] [(.int (1 : Int32))]))) ?_ (fun _ k => XT.iconstV X.here hx rfl (1 : Int32) (hb hby at_143) rfl k)
    refine Ends.step (u' := (T.setTop (mkF m 148 #[.val (.long z0), .second, .val (.long z2), .second, d4, d5, .val (.long z6), .second, d8, d9, .val (.int x10), d11, .val (.int x12), .val (.int x13)] [(.int (1 : Int32))]))) ?_ (fun _ k => XS.goto X.here hx rfl (pc0 := 144) (pc' := 148) rfl (hb hby at_144) (by decide) (by decide) k)
    exact b148 T _ _ X eT N Zs x10 x12 x13 (1 : Int32) z0 z2 (d4) od4 (d5) od5 z6 (d8) od8 (d9) od9 (d11) od11
  have b147 : ∀ (T : State) (L : List Loc) (h : Heap) (X : Stand p l e room_1 s m #[(.long p0), (.long p1), (.int p2)] below meth c T L 2 2) (eT : T.heap = h) (N : Fr n0 L) (Zs : n0 ≤ h.size) (x10 : Int32) (x12 : Int32) (x13 : Int32) (z0 : Int64) (z2 : Int64) (d4 : Slot) (od4 : OneS d4) (d5 : Slot) (od5 : OneS d5) (z6 : Int64) (d8 : Slot) (od8 : OneS d8) (d9 : Slot) (od9 : OneS d9) (d11 : Slot) (od11 : OneS d11), Ends p e below s 2 2 (Q0 Z  h0 n0 (F0_147 x10 x12 x13)) (T.setTop (mkF m 147 #[.val (.long z0), .second, .val (.long z2), .second, d4, d5, .val (.long z6), .second, d8, d9, .val (.int x10), d11, .val (.int x12), .val (.int x13)] [])) := by
    intro T L h X eT N Zs x10 x12 x13 z0 z2 d4 od4 d5 od5 z6 d8 od8 d9 od9 d11 od11
    refine Ends.step (u' := (T.setTop (mkF m 148 #[.val (.long z0), .second, .val (.long z2), .second, d4, d5, .val (.long z6), .second, d8, d9, .val (.int x10), d11, .val (.int x12), .val (.int x13)] [(.int (0 : Int32))]))) ?_ (fun _ k => XT.iconstV X.here hx rfl (0 : Int32) (hb hby at_147) rfl k)
    exact b148 T _ _ X eT N Zs x10 x12 x13 (0 : Int32) z0 z2 (d4) od4 (d5) od5 z6 (d8) od8 (d9) od9 (d11) od11
  have b138 : ∀ (T : State) (L : List Loc) (h : Heap) (X : Stand p l e room_1 s m #[(.long p0), (.long p1), (.int p2)] below meth c T L 2 2) (eT : T.heap = h) (N : Fr n0 L) (Zs : n0 ≤ h.size) (x10 : Int32) (x12 : Int32) (x13 : Int32) (z0 : Int64) (z2 : Int64) (d4 : Slot) (od4 : OneS d4) (d5 : Slot) (od5 : OneS d5) (z6 : Int64) (d8 : Slot) (od8 : OneS d8) (d9 : Slot) (od9 : OneS d9) (d11 : Slot) (od11 : OneS d11), Ends p e below s 2 2 (Q0 Z  h0 n0 (F0_138 x10 x12 x13)) (T.setTop (mkF m 138 #[.val (.long z0), .second, .val (.long z2), .second, d4, d5, .val (.long z6), .second, d8, d9, .val (.int x10), d11, .val (.int x12), .val (.int x13)] [])) := by
    intro T L h X eT N Zs x10 x12 x13 z0 z2 d4 od4 d5 od5 z6 d8 od8 d9 od9 d11 od11
    refine Ends.step (u' := (T.setTop (mkF m 140 #[.val (.long z0), .second, .val (.long z2), .second, d4, d5, .val (.long z6), .second, d8, d9, .val (.int x10), d11, .val (.int x12), .val (.int x13)] [(.int x10)]))) ?_ (fun _ k => XS.iload X.here hx rfl (hb hby at_138) rfl k)
    by_cases hc140 : 0 < x10
    · refine Eq.mp (congrArg (fun z => Ends p e below s 2 2 (Q0 Z  h0 n0 z) (T.setTop (mkF m 140 #[.val (.long z0), .second, .val (.long z2), .second, d4, d5, .val (.long z6), .second, d8, d9, .val (.int x10), d11, .val (.int x12), .val (.int x13)] [(.int x10)]))) (show (F0_138 x10 x12 x13) = (F0_143 x10 x12 x13) from (if_pos hc140)).symm) ?_
      refine Ends.step (u' := (T.setTop (mkF m 143 #[.val (.long z0), .second, .val (.long z2), .second, d4, d5, .val (.long z6), .second, d8, d9, .val (.int x10), d11, .val (.int x12), .val (.int x13)] []))) ?_ (fun _ k => XS.ifNo X.here hx rfl (hb hby at_140) rfl (XT.i0_le_f hc140) k)
      exact b143 T _ _ X eT N Zs x10 x12 x13 z0 z2 (d4) od4 (d5) od5 z6 (d8) od8 (d9) od9 (d11) od11
    · refine Eq.mp (congrArg (fun z => Ends p e below s 2 2 (Q0 Z  h0 n0 z) (T.setTop (mkF m 140 #[.val (.long z0), .second, .val (.long z2), .second, d4, d5, .val (.long z6), .second, d8, d9, .val (.int x10), d11, .val (.int x12), .val (.int x13)] [(.int x10)]))) (show (F0_138 x10 x12 x13) = (F0_147 x10 x12 x13) from (if_neg hc140)).symm) ?_
      refine Ends.step (u' := (T.setTop (mkF m 147 #[.val (.long z0), .second, .val (.long z2), .second, d4, d5, .val (.long z6), .second, d8, d9, .val (.int x10), d11, .val (.int x12), .val (.int x13)] []))) ?_ (fun _ k => XS.ifYes X.here hx rfl (pc0 := 140) (pc' := 147) rfl (hb hby at_140) rfl (XT.i0_le_t hc140) (by decide) (by decide) k)
      exact b147 T _ _ X eT N Zs x10 x12 x13 z0 z2 (d4) od4 (d5) od5 z6 (d8) od8 (d9) od9 (d11) od11
  have b133 : ∀ (T : State) (L : List Loc) (h : Heap) (X : Stand p l e room_1 s m #[(.long p0), (.long p1), (.int p2)] below meth c T L 2 2) (eT : T.heap = h) (N : Fr n0 L) (Zs : n0 ≤ h.size) (x10 : Int32) (x11 : Int32) (x12 : Int32) (x13 : Int32) (t0 : Int32) (z0 : Int64) (z2 : Int64) (d4 : Slot) (od4 : OneS d4) (d5 : Slot) (od5 : OneS d5) (z6 : Int64) (d8 : Slot) (od8 : OneS d8) (d9 : Slot) (od9 : OneS d9), Ends p e below s 2 2 (Q0 Z  h0 n0 (F0_133 x10 x11 x12 x13 t0)) (T.setTop (mkF m 133 #[.val (.long z0), .second, .val (.long z2), .second, d4, d5, .val (.long z6), .second, d8, d9, .val (.int x10), .val (.int x11), .val (.int x12), .val (.int x13)] [(.int t0)])) := by
    intro T L h X eT N Zs x10 x11 x12 x13 t0 z0 z2 d4 od4 d5 od5 z6 d8 od8 d9 od9
    refine Ends.step (u' := (T.setTop (mkF m 135 #[.val (.long z0), .second, .val (.long z2), .second, d4, d5, .val (.long z6), .second, d8, d9, .val (.int x10), .val (.int x11), .val (.int x12), .val (.int x13)] [(.int x11), (.int t0)]))) ?_ (fun _ k => XS.iload X.here hx rfl (hb hby at_133) rfl k)
    by_cases hc135 : t0 = x11
    · refine Eq.mp (congrArg (fun z => Ends p e below s 2 2 (Q0 Z  h0 n0 z) (T.setTop (mkF m 135 #[.val (.long z0), .second, .val (.long z2), .second, d4, d5, .val (.long z6), .second, d8, d9, .val (.int x10), .val (.int x11), .val (.int x12), .val (.int x13)] [(.int x11), (.int t0)]))) (show (F0_133 x10 x11 x12 x13 t0) = (F0_138 x10 x12 x13) from (if_pos hc135)).symm) ?_
      refine Ends.step (u' := (T.setTop (mkF m 138 #[.val (.long z0), .second, .val (.long z2), .second, d4, d5, .val (.long z6), .second, d8, d9, .val (.int x10), .val (.int x11), .val (.int x12), .val (.int x13)] []))) ?_ (fun _ k => XS.icmpNo X.here hx rfl (hb hby at_135) rfl (XT.ii_ne_f hc135) k)
      exact b138 T _ _ X eT N Zs x10 x12 x13 z0 z2 (d4) od4 (d5) od5 z6 (d8) od8 (d9) od9 (.val (.int x11)) (Or.inr ⟨_, rfl, rfl⟩)
    · refine Eq.mp (congrArg (fun z => Ends p e below s 2 2 (Q0 Z  h0 n0 z) (T.setTop (mkF m 135 #[.val (.long z0), .second, .val (.long z2), .second, d4, d5, .val (.long z6), .second, d8, d9, .val (.int x10), .val (.int x11), .val (.int x12), .val (.int x13)] [(.int x11), (.int t0)]))) (show (F0_133 x10 x11 x12 x13 t0) = F0_172 from (if_neg hc135)).symm) ?_
      refine Ends.step (u' := (T.setTop (mkF m 172 #[.val (.long z0), .second, .val (.long z2), .second, d4, d5, .val (.long z6), .second, d8, d9, .val (.int x10), .val (.int x11), .val (.int x12), .val (.int x13)] []))) ?_ (fun _ k => XS.icmpYes X.here hx rfl (pc0 := 135) (pc' := 172) rfl (hb hby at_135) rfl (XT.ii_ne_t hc135) (by decide) (by decide) k)
      exact b172 T _ _ X eT N Zs z0 z2 (d4) od4 (d5) od5 z6 (d8) od8 (d9) od9 (.val (.int x10)) (Or.inr ⟨_, rfl, rfl⟩) (.val (.int x11)) (Or.inr ⟨_, rfl, rfl⟩) (.val (.int x12)) (Or.inr ⟨_, rfl, rfl⟩) (.val (.int x13)) (Or.inr ⟨_, rfl, rfl⟩)
  have b128 : ∀ (T : State) (L : List Loc) (h : Heap) (X : Stand p l e room_1 s m #[(.long p0), (.long p1), (.int p2)] below meth c T L 2 2) (eT : T.heap = h) (N : Fr n0 L) (Zs : n0 ≤ h.size) (x10 : Int32) (x11 : Int32) (x12 : Int32) (x13 : Int32) (z0 : Int64) (z2 : Int64) (d4 : Slot) (od4 : OneS d4) (d5 : Slot) (od5 : OneS d5) (z6 : Int64) (d8 : Slot) (od8 : OneS d8) (d9 : Slot) (od9 : OneS d9), Ends p e below s 2 2 (Q0 Z  h0 n0 (F0_128 x10 x11 x12 x13)) (T.setTop (mkF m 128 #[.val (.long z0), .second, .val (.long z2), .second, d4, d5, .val (.long z6), .second, d8, d9, .val (.int x10), .val (.int x11), .val (.int x12), .val (.int x13)] [])) := by
    intro T L h X eT N Zs x10 x11 x12 x13 z0 z2 d4 od4 d5 od5 z6 d8 od8 d9 od9
    refine Ends.step (u' := (T.setTop (mkF m 129 #[.val (.long z0), .second, .val (.long z2), .second, d4, d5, .val (.long z6), .second, d8, d9, .val (.int x10), .val (.int x11), .val (.int x12), .val (.int x13)] [(.int (1 : Int32))]))) ?_ (fun _ k => XT.iconstV X.here hx rfl (1 : Int32) (hb hby at_128) rfl k)
    refine Ends.step (u' := (T.setTop (mkF m 133 #[.val (.long z0), .second, .val (.long z2), .second, d4, d5, .val (.long z6), .second, d8, d9, .val (.int x10), .val (.int x11), .val (.int x12), .val (.int x13)] [(.int (1 : Int32))]))) ?_ (fun _ k => XS.goto X.here hx rfl (pc0 := 129) (pc' := 133) rfl (hb hby at_129) (by decide) (by decide) k)
    exact b133 T _ _ X eT N Zs x10 x11 x12 x13 (1 : Int32) z0 z2 (d4) od4 (d5) od5 z6 (d8) od8 (d9) od9
  have b132 : ∀ (T : State) (L : List Loc) (h : Heap) (X : Stand p l e room_1 s m #[(.long p0), (.long p1), (.int p2)] below meth c T L 2 2) (eT : T.heap = h) (N : Fr n0 L) (Zs : n0 ≤ h.size) (x10 : Int32) (x11 : Int32) (x12 : Int32) (x13 : Int32) (z0 : Int64) (z2 : Int64) (d4 : Slot) (od4 : OneS d4) (d5 : Slot) (od5 : OneS d5) (z6 : Int64) (d8 : Slot) (od8 : OneS d8) (d9 : Slot) (od9 : OneS d9), Ends p e below s 2 2 (Q0 Z  h0 n0 (F0_132 x10 x11 x12 x13)) (T.setTop (mkF m 132 #[.val (.long z0), .second, .val (.long z2), .second, d4, d5, .val (.long z6), .second, d8, d9, .val (.int x10), .val (.int x11), .val (.int x12), .val (.int x13)] [])) := by
    intro T L h X eT N Zs x10 x11 x12 x13 z0 z2 d4 od4 d5 od5 z6 d8 od8 d9 od9
    refine Ends.step (u' := (T.setTop (mkF m 133 #[.val (.long z0), .second, .val (.long z2), .second, d4, d5, .val (.long z6), .second, d8, d9, .val (.int x10), .val (.int x11), .val (.int x12), .val (.int x13)] [(.int (0 : Int32))]))) ?_ (fun _ k => XT.iconstV X.here hx rfl (0 : Int32) (hb hby at_132) rfl k)
    exact b133 T _ _ X eT N Zs x10 x11 x12 x13 (0 : Int32) z0 z2 (d4) od4 (d5) od5 z6 (d8) od8 (d9) od9
  have b121 : ∀ (T : State) (L : List Loc) (h : Heap) (X : Stand p l e room_1 s m #[(.long p0), (.long p1), (.int p2)] below meth c T L 2 2) (eT : T.heap = h) (N : Fr n0 L) (Zs : n0 ≤ h.size) (x10 : Int32) (x11 : Int32) (x12 : Int32) (t0 : Int32) (z0 : Int64) (z2 : Int64) (d4 : Slot) (od4 : OneS d4) (d5 : Slot) (od5 : OneS d5) (z6 : Int64) (d8 : Slot) (od8 : OneS d8) (d9 : Slot) (od9 : OneS d9), Ends p e below s 2 2 (Q0 Z  h0 n0 (F0_121 x10 x11 x12 t0)) (T.setTop (mkF m 121 #[.val (.long z0), .second, .val (.long z2), .second, d4, d5, .val (.long z6), .second, d8, d9, .val (.int x10), .val (.int x11), .val (.int x12), .unset] [(.int t0)])) := by
    intro T L h X eT N Zs x10 x11 x12 t0 z0 z2 d4 od4 d5 od5 z6 d8 od8 d9 od9
    refine Ends.step (u' := (T.setTop (mkF m 123 #[.val (.long z0), .second, .val (.long z2), .second, d4, d5, .val (.long z6), .second, d8, d9, .val (.int x10), .val (.int x11), .val (.int x12), .val (.int t0)] []))) ?_ (fun _ k => XS.istore X.here hx rfl (hb hby at_121) rfl (l' := #[.val (.long z0), .second, .val (.long z2), .second, d4, d5, .val (.long z6), .second, d8, d9, .val (.int x10), .val (.int x11), .val (.int x12), .val (.int t0)]) rfl k)
    refine Ends.step (u' := (T.setTop (mkF m 125 #[.val (.long z0), .second, .val (.long z2), .second, d4, d5, .val (.long z6), .second, d8, d9, .val (.int x10), .val (.int x11), .val (.int x12), .val (.int t0)] [(.int x10)]))) ?_ (fun _ k => XS.iload X.here hx rfl (hb hby at_123) rfl k)
    by_cases hc125 : x10 < 0
    · refine Eq.mp (congrArg (fun z => Ends p e below s 2 2 (Q0 Z  h0 n0 z) (T.setTop (mkF m 125 #[.val (.long z0), .second, .val (.long z2), .second, d4, d5, .val (.long z6), .second, d8, d9, .val (.int x10), .val (.int x11), .val (.int x12), .val (.int t0)] [(.int x10)]))) (show (F0_121 x10 x11 x12 t0) = (F0_128 x10 x11 x12 t0) from (if_pos hc125)).symm) ?_
      refine Ends.step (u' := (T.setTop (mkF m 128 #[.val (.long z0), .second, .val (.long z2), .second, d4, d5, .val (.long z6), .second, d8, d9, .val (.int x10), .val (.int x11), .val (.int x12), .val (.int t0)] []))) ?_ (fun _ k => XS.ifNo X.here hx rfl (hb hby at_125) rfl (XT.i0_ge_f hc125) k)
      exact b128 T _ _ X eT N Zs x10 x11 x12 t0 z0 z2 (d4) od4 (d5) od5 z6 (d8) od8 (d9) od9
    · refine Eq.mp (congrArg (fun z => Ends p e below s 2 2 (Q0 Z  h0 n0 z) (T.setTop (mkF m 125 #[.val (.long z0), .second, .val (.long z2), .second, d4, d5, .val (.long z6), .second, d8, d9, .val (.int x10), .val (.int x11), .val (.int x12), .val (.int t0)] [(.int x10)]))) (show (F0_121 x10 x11 x12 t0) = (F0_132 x10 x11 x12 t0) from (if_neg hc125)).symm) ?_
      refine Ends.step (u' := (T.setTop (mkF m 132 #[.val (.long z0), .second, .val (.long z2), .second, d4, d5, .val (.long z6), .second, d8, d9, .val (.int x10), .val (.int x11), .val (.int x12), .val (.int t0)] []))) ?_ (fun _ k => XS.ifYes X.here hx rfl (pc0 := 125) (pc' := 132) rfl (hb hby at_125) rfl (XT.i0_ge_t hc125) (by decide) (by decide) k)
      exact b132 T _ _ X eT N Zs x10 x11 x12 t0 z0 z2 (d4) od4 (d5) od5 z6 (d8) od8 (d9) od9
  have b116 : ∀ (T : State) (L : List Loc) (h : Heap) (X : Stand p l e room_1 s m #[(.long p0), (.long p1), (.int p2)] below meth c T L 2 2) (eT : T.heap = h) (N : Fr n0 L) (Zs : n0 ≤ h.size) (x10 : Int32) (x11 : Int32) (x12 : Int32) (z0 : Int64) (z2 : Int64) (d4 : Slot) (od4 : OneS d4) (d5 : Slot) (od5 : OneS d5) (z6 : Int64) (d8 : Slot) (od8 : OneS d8) (d9 : Slot) (od9 : OneS d9), Ends p e below s 2 2 (Q0 Z  h0 n0 (F0_116 x10 x11 x12)) (T.setTop (mkF m 116 #[.val (.long z0), .second, .val (.long z2), .second, d4, d5, .val (.long z6), .second, d8, d9, .val (.int x10), .val (.int x11), .val (.int x12), .unset] [])) := by
    intro T L h X eT N Zs x10 x11 x12 z0 z2 d4 od4 d5 od5 z6 d8 od8 d9 od9
    refine Ends.step (u' := (T.setTop (mkF m 117 #[.val (.long z0), .second, .val (.long z2), .second, d4, d5, .val (.long z6), .second, d8, d9, .val (.int x10), .val (.int x11), .val (.int x12), .unset] [(.int (1 : Int32))]))) ?_ (fun _ k => XT.iconstV X.here hx rfl (1 : Int32) (hb hby at_116) rfl k)
    refine Ends.step (u' := (T.setTop (mkF m 121 #[.val (.long z0), .second, .val (.long z2), .second, d4, d5, .val (.long z6), .second, d8, d9, .val (.int x10), .val (.int x11), .val (.int x12), .unset] [(.int (1 : Int32))]))) ?_ (fun _ k => XS.goto X.here hx rfl (pc0 := 117) (pc' := 121) rfl (hb hby at_117) (by decide) (by decide) k)
    exact b121 T _ _ X eT N Zs x10 x11 x12 (1 : Int32) z0 z2 (d4) od4 (d5) od5 z6 (d8) od8 (d9) od9
  have b120 : ∀ (T : State) (L : List Loc) (h : Heap) (X : Stand p l e room_1 s m #[(.long p0), (.long p1), (.int p2)] below meth c T L 2 2) (eT : T.heap = h) (N : Fr n0 L) (Zs : n0 ≤ h.size) (x10 : Int32) (x11 : Int32) (x12 : Int32) (z0 : Int64) (z2 : Int64) (d4 : Slot) (od4 : OneS d4) (d5 : Slot) (od5 : OneS d5) (z6 : Int64) (d8 : Slot) (od8 : OneS d8) (d9 : Slot) (od9 : OneS d9), Ends p e below s 2 2 (Q0 Z  h0 n0 (F0_120 x10 x11 x12)) (T.setTop (mkF m 120 #[.val (.long z0), .second, .val (.long z2), .second, d4, d5, .val (.long z6), .second, d8, d9, .val (.int x10), .val (.int x11), .val (.int x12), .unset] [])) := by
    intro T L h X eT N Zs x10 x11 x12 z0 z2 d4 od4 d5 od5 z6 d8 od8 d9 od9
    refine Ends.step (u' := (T.setTop (mkF m 121 #[.val (.long z0), .second, .val (.long z2), .second, d4, d5, .val (.long z6), .second, d8, d9, .val (.int x10), .val (.int x11), .val (.int x12), .unset] [(.int (0 : Int32))]))) ?_ (fun _ k => XT.iconstV X.here hx rfl (0 : Int32) (hb hby at_120) rfl k)
    exact b121 T _ _ X eT N Zs x10 x11 x12 (0 : Int32) z0 z2 (d4) od4 (d5) od5 z6 (d8) od8 (d9) od9
  have b111 : ∀ (T : State) (L : List Loc) (h : Heap) (X : Stand p l e room_1 s m #[(.long p0), (.long p1), (.int p2)] below meth c T L 2 2) (eT : T.heap = h) (N : Fr n0 L) (Zs : n0 ≤ h.size) (x10 : Int32) (x11 : Int32) (x12 : Int32) (z0 : Int64) (z2 : Int64) (d4 : Slot) (od4 : OneS d4) (d5 : Slot) (od5 : OneS d5) (z6 : Int64) (d8 : Slot) (od8 : OneS d8) (d9 : Slot) (od9 : OneS d9), Ends p e below s 2 2 (Q0 Z  h0 n0 (F0_111 x10 x11 x12)) (T.setTop (mkF m 111 #[.val (.long z0), .second, .val (.long z2), .second, d4, d5, .val (.long z6), .second, d8, d9, .val (.int x10), .val (.int x11), .val (.int x12), .unset] [])) := by
    intro T L h X eT N Zs x10 x11 x12 z0 z2 d4 od4 d5 od5 z6 d8 od8 d9 od9
    refine Ends.step (u' := (T.setTop (mkF m 113 #[.val (.long z0), .second, .val (.long z2), .second, d4, d5, .val (.long z6), .second, d8, d9, .val (.int x10), .val (.int x11), .val (.int x12), .unset] [(.int x12)]))) ?_ (fun _ k => XS.iload X.here hx rfl (hb hby at_111) rfl k)
    by_cases hc113 : x12 = 0
    · refine Eq.mp (congrArg (fun z => Ends p e below s 2 2 (Q0 Z  h0 n0 z) (T.setTop (mkF m 113 #[.val (.long z0), .second, .val (.long z2), .second, d4, d5, .val (.long z6), .second, d8, d9, .val (.int x10), .val (.int x11), .val (.int x12), .unset] [(.int x12)]))) (show (F0_111 x10 x11 x12) = (F0_116 x10 x11 x12) from (if_pos hc113)).symm) ?_
      refine Ends.step (u' := (T.setTop (mkF m 116 #[.val (.long z0), .second, .val (.long z2), .second, d4, d5, .val (.long z6), .second, d8, d9, .val (.int x10), .val (.int x11), .val (.int x12), .unset] []))) ?_ (fun _ k => XS.ifNo X.here hx rfl (hb hby at_113) rfl (XT.i0_ne_f hc113) k)
      exact b116 T _ _ X eT N Zs x10 x11 x12 z0 z2 (d4) od4 (d5) od5 z6 (d8) od8 (d9) od9
    · refine Eq.mp (congrArg (fun z => Ends p e below s 2 2 (Q0 Z  h0 n0 z) (T.setTop (mkF m 113 #[.val (.long z0), .second, .val (.long z2), .second, d4, d5, .val (.long z6), .second, d8, d9, .val (.int x10), .val (.int x11), .val (.int x12), .unset] [(.int x12)]))) (show (F0_111 x10 x11 x12) = (F0_120 x10 x11 x12) from (if_neg hc113)).symm) ?_
      refine Ends.step (u' := (T.setTop (mkF m 120 #[.val (.long z0), .second, .val (.long z2), .second, d4, d5, .val (.long z6), .second, d8, d9, .val (.int x10), .val (.int x11), .val (.int x12), .unset] []))) ?_ (fun _ k => XS.ifYes X.here hx rfl (pc0 := 113) (pc' := 120) rfl (hb hby at_113) rfl (XT.i0_ne_t hc113) (by decide) (by decide) k)
      exact b120 T _ _ X eT N Zs x10 x11 x12 z0 z2 (d4) od4 (d5) od5 z6 (d8) od8 (d9) od9
  have b104 : ∀ (T : State) (L : List Loc) (h : Heap) (X : Stand p l e room_1 s m #[(.long p0), (.long p1), (.int p2)] below meth c T L 2 2) (eT : T.heap = h) (N : Fr n0 L) (Zs : n0 ≤ h.size) (x10 : Int32) (x11 : Int32) (t0 : Int32) (z0 : Int64) (z2 : Int64) (d4 : Slot) (od4 : OneS d4) (d5 : Slot) (od5 : OneS d5) (z6 : Int64) (d8 : Slot) (od8 : OneS d8) (d9 : Slot) (od9 : OneS d9), Ends p e below s 2 2 (Q0 Z  h0 n0 (F0_104 x10 x11 t0)) (T.setTop (mkF m 104 #[.val (.long z0), .second, .val (.long z2), .second, d4, d5, .val (.long z6), .second, d8, d9, .val (.int x10), .val (.int x11), .unset, .unset] [(.int t0)])) := by
    intro T L h X eT N Zs x10 x11 t0 z0 z2 d4 od4 d5 od5 z6 d8 od8 d9 od9
    refine Ends.step (u' := (T.setTop (mkF m 106 #[.val (.long z0), .second, .val (.long z2), .second, d4, d5, .val (.long z6), .second, d8, d9, .val (.int x10), .val (.int x11), .val (.int t0), .unset] []))) ?_ (fun _ k => XS.istore X.here hx rfl (hb hby at_104) rfl (l' := #[.val (.long z0), .second, .val (.long z2), .second, d4, d5, .val (.long z6), .second, d8, d9, .val (.int x10), .val (.int x11), .val (.int t0), .unset]) rfl k)
    refine Ends.step (u' := (T.setTop (mkF m 108 #[.val (.long z0), .second, .val (.long z2), .second, d4, d5, .val (.long z6), .second, d8, d9, .val (.int x10), .val (.int x11), .val (.int t0), .unset] [(.int x11)]))) ?_ (fun _ k => XS.iload X.here hx rfl (hb hby at_106) rfl k)
    by_cases hc108 : x11 = 0
    · refine Eq.mp (congrArg (fun z => Ends p e below s 2 2 (Q0 Z  h0 n0 z) (T.setTop (mkF m 108 #[.val (.long z0), .second, .val (.long z2), .second, d4, d5, .val (.long z6), .second, d8, d9, .val (.int x10), .val (.int x11), .val (.int t0), .unset] [(.int x11)]))) (show (F0_104 x10 x11 t0) = (F0_111 x10 x11 t0) from (if_pos hc108)).symm) ?_
      refine Ends.step (u' := (T.setTop (mkF m 111 #[.val (.long z0), .second, .val (.long z2), .second, d4, d5, .val (.long z6), .second, d8, d9, .val (.int x10), .val (.int x11), .val (.int t0), .unset] []))) ?_ (fun _ k => XS.ifNo X.here hx rfl (hb hby at_108) rfl (XT.i0_ne_f hc108) k)
      exact b111 T _ _ X eT N Zs x10 x11 t0 z0 z2 (d4) od4 (d5) od5 z6 (d8) od8 (d9) od9
    · refine Eq.mp (congrArg (fun z => Ends p e below s 2 2 (Q0 Z  h0 n0 z) (T.setTop (mkF m 108 #[.val (.long z0), .second, .val (.long z2), .second, d4, d5, .val (.long z6), .second, d8, d9, .val (.int x10), .val (.int x11), .val (.int t0), .unset] [(.int x11)]))) (show (F0_104 x10 x11 t0) = (F0_120 x10 x11 t0) from (if_neg hc108)).symm) ?_
      refine Ends.step (u' := (T.setTop (mkF m 120 #[.val (.long z0), .second, .val (.long z2), .second, d4, d5, .val (.long z6), .second, d8, d9, .val (.int x10), .val (.int x11), .val (.int t0), .unset] []))) ?_ (fun _ k => XS.ifYes X.here hx rfl (pc0 := 108) (pc' := 120) rfl (hb hby at_108) rfl (XT.i0_ne_t hc108) (by decide) (by decide) k)
      exact b120 T _ _ X eT N Zs x10 x11 t0 z0 z2 (d4) od4 (d5) od5 z6 (d8) od8 (d9) od9
  have b99 : ∀ (T : State) (L : List Loc) (h : Heap) (X : Stand p l e room_1 s m #[(.long p0), (.long p1), (.int p2)] below meth c T L 2 2) (eT : T.heap = h) (N : Fr n0 L) (Zs : n0 ≤ h.size) (x10 : Int32) (x11 : Int32) (z0 : Int64) (z2 : Int64) (d4 : Slot) (od4 : OneS d4) (d5 : Slot) (od5 : OneS d5) (z6 : Int64) (d8 : Slot) (od8 : OneS d8) (d9 : Slot) (od9 : OneS d9), Ends p e below s 2 2 (Q0 Z  h0 n0 (F0_99 x10 x11)) (T.setTop (mkF m 99 #[.val (.long z0), .second, .val (.long z2), .second, d4, d5, .val (.long z6), .second, d8, d9, .val (.int x10), .val (.int x11), .unset, .unset] [])) := by
    intro T L h X eT N Zs x10 x11 z0 z2 d4 od4 d5 od5 z6 d8 od8 d9 od9
    refine Ends.step (u' := (T.setTop (mkF m 100 #[.val (.long z0), .second, .val (.long z2), .second, d4, d5, .val (.long z6), .second, d8, d9, .val (.int x10), .val (.int x11), .unset, .unset] [(.int (1 : Int32))]))) ?_ (fun _ k => XT.iconstV X.here hx rfl (1 : Int32) (hb hby at_99) rfl k)
    refine Ends.step (u' := (T.setTop (mkF m 104 #[.val (.long z0), .second, .val (.long z2), .second, d4, d5, .val (.long z6), .second, d8, d9, .val (.int x10), .val (.int x11), .unset, .unset] [(.int (1 : Int32))]))) ?_ (fun _ k => XS.goto X.here hx rfl (pc0 := 100) (pc' := 104) rfl (hb hby at_100) (by decide) (by decide) k)
    exact b104 T _ _ X eT N Zs x10 x11 (1 : Int32) z0 z2 (d4) od4 (d5) od5 z6 (d8) od8 (d9) od9
  have b103 : ∀ (T : State) (L : List Loc) (h : Heap) (X : Stand p l e room_1 s m #[(.long p0), (.long p1), (.int p2)] below meth c T L 2 2) (eT : T.heap = h) (N : Fr n0 L) (Zs : n0 ≤ h.size) (x10 : Int32) (x11 : Int32) (z0 : Int64) (z2 : Int64) (d4 : Slot) (od4 : OneS d4) (d5 : Slot) (od5 : OneS d5) (z6 : Int64) (d8 : Slot) (od8 : OneS d8) (d9 : Slot) (od9 : OneS d9), Ends p e below s 2 2 (Q0 Z  h0 n0 (F0_103 x10 x11)) (T.setTop (mkF m 103 #[.val (.long z0), .second, .val (.long z2), .second, d4, d5, .val (.long z6), .second, d8, d9, .val (.int x10), .val (.int x11), .unset, .unset] [])) := by
    intro T L h X eT N Zs x10 x11 z0 z2 d4 od4 d5 od5 z6 d8 od8 d9 od9
    refine Ends.step (u' := (T.setTop (mkF m 104 #[.val (.long z0), .second, .val (.long z2), .second, d4, d5, .val (.long z6), .second, d8, d9, .val (.int x10), .val (.int x11), .unset, .unset] [(.int (0 : Int32))]))) ?_ (fun _ k => XT.iconstV X.here hx rfl (0 : Int32) (hb hby at_103) rfl k)
    exact b104 T _ _ X eT N Zs x10 x11 (0 : Int32) z0 z2 (d4) od4 (d5) od5 z6 (d8) od8 (d9) od9
  have b90 : ∀ (T : State) (L : List Loc) (h : Heap) (X : Stand p l e room_1 s m #[(.long p0), (.long p1), (.int p2)] below meth c T L 2 2) (eT : T.heap = h) (N : Fr n0 L) (Zs : n0 ≤ h.size) (x0 : Int64) (x6 : Int64) (x10 : Int32) (t0 : Int32) (z2 : Int64) (d4 : Slot) (od4 : OneS d4) (d5 : Slot) (od5 : OneS d5) (d8 : Slot) (od8 : OneS d8) (d9 : Slot) (od9 : OneS d9), Ends p e below s 2 2 (Q0 Z  h0 n0 (F0_90 x0 x6 x10 t0)) (T.setTop (mkF m 90 #[.val (.long x0), .second, .val (.long z2), .second, d4, d5, .val (.long x6), .second, d8, d9, .val (.int x10), .unset, .unset, .unset] [(.int t0)])) := by
    intro T L h X eT N Zs x0 x6 x10 t0 z2 d4 od4 d5 od5 d8 od8 d9 od9
    refine Ends.step (u' := (T.setTop (mkF m 92 #[.val (.long x0), .second, .val (.long z2), .second, d4, d5, .val (.long x6), .second, d8, d9, .val (.int x10), .val (.int t0), .unset, .unset] []))) ?_ (fun _ k => XS.istore X.here hx rfl (hb hby at_90) rfl (l' := #[.val (.long x0), .second, .val (.long z2), .second, d4, d5, .val (.long x6), .second, d8, d9, .val (.int x10), .val (.int t0), .unset, .unset]) rfl k)
    refine Ends.step (u' := (T.setTop (mkF m 93 #[.val (.long x0), .second, .val (.long z2), .second, d4, d5, .val (.long x6), .second, d8, d9, .val (.int x10), .val (.int t0), .unset, .unset] [(.long x0)]))) ?_ (fun _ k => XT.lloadN X.here hx rfl (hb hby at_92) rfl k)
    refine Ends.step (u' := (T.setTop (mkF m 95 #[.val (.long x0), .second, .val (.long z2), .second, d4, d5, .val (.long x6), .second, d8, d9, .val (.int x10), .val (.int t0), .unset, .unset] [(.long x6), (.long x0)]))) ?_ (fun _ k => XT.lload X.here hx rfl (hb hby at_93) rfl k)
    refine Ends.step (u' := (T.setTop (mkF m 96 #[.val (.long x0), .second, .val (.long z2), .second, d4, d5, .val (.long x6), .second, d8, d9, .val (.int x10), .val (.int t0), .unset, .unset] [(.int (XT.cmpL x0 x6))]))) ?_ (fun _ k => XT.lcmp X.here hx rfl (hb hby at_95) rfl k)
    by_cases hc96 : x6 < x0
    · refine Eq.mp (congrArg (fun z => Ends p e below s 2 2 (Q0 Z  h0 n0 z) (T.setTop (mkF m 96 #[.val (.long x0), .second, .val (.long z2), .second, d4, d5, .val (.long x6), .second, d8, d9, .val (.int x10), .val (.int t0), .unset, .unset] [(.int (XT.cmpL x0 x6))]))) (show (F0_90 x0 x6 x10 t0) = (F0_99 x10 t0) from (if_pos hc96)).symm) ?_
      refine Ends.step (u' := (T.setTop (mkF m 99 #[.val (.long x0), .second, .val (.long z2), .second, d4, d5, .val (.long x6), .second, d8, d9, .val (.int x10), .val (.int t0), .unset, .unset] []))) ?_ (fun _ k => XS.ifNo X.here hx rfl (hb hby at_96) rfl (XT.ll_le_f hc96) k)
      exact b99 T _ _ X eT N Zs x10 t0 x0 z2 (d4) od4 (d5) od5 x6 (d8) od8 (d9) od9
    · refine Eq.mp (congrArg (fun z => Ends p e below s 2 2 (Q0 Z  h0 n0 z) (T.setTop (mkF m 96 #[.val (.long x0), .second, .val (.long z2), .second, d4, d5, .val (.long x6), .second, d8, d9, .val (.int x10), .val (.int t0), .unset, .unset] [(.int (XT.cmpL x0 x6))]))) (show (F0_90 x0 x6 x10 t0) = (F0_103 x10 t0) from (if_neg hc96)).symm) ?_
      refine Ends.step (u' := (T.setTop (mkF m 103 #[.val (.long x0), .second, .val (.long z2), .second, d4, d5, .val (.long x6), .second, d8, d9, .val (.int x10), .val (.int t0), .unset, .unset] []))) ?_ (fun _ k => XS.ifYes X.here hx rfl (pc0 := 96) (pc' := 103) rfl (hb hby at_96) rfl (XT.ll_le_t hc96) (by decide) (by decide) k)
      exact b103 T _ _ X eT N Zs x10 t0 x0 z2 (d4) od4 (d5) od5 x6 (d8) od8 (d9) od9
  have b85 : ∀ (T : State) (L : List Loc) (h : Heap) (X : Stand p l e room_1 s m #[(.long p0), (.long p1), (.int p2)] below meth c T L 2 2) (eT : T.heap = h) (N : Fr n0 L) (Zs : n0 ≤ h.size) (x0 : Int64) (x6 : Int64) (x10 : Int32) (z2 : Int64) (d4 : Slot) (od4 : OneS d4) (d5 : Slot) (od5 : OneS d5) (d8 : Slot) (od8 : OneS d8) (d9 : Slot) (od9 : OneS d9), Ends p e below s 2 2 (Q0 Z  h0 n0 (F0_85 x0 x6 x10)) (T.setTop (mkF m 85 #[.val (.long x0), .second, .val (.long z2), .second, d4, d5, .val (.long x6), .second, d8, d9, .val (.int x10), .unset, .unset, .unset] [])) := by
    intro T L h X eT N Zs x0 x6 x10 z2 d4 od4 d5 od5 d8 od8 d9 od9
    refine Ends.step (u' := (T.setTop (mkF m 86 #[.val (.long x0), .second, .val (.long z2), .second, d4, d5, .val (.long x6), .second, d8, d9, .val (.int x10), .unset, .unset, .unset] [(.int (1 : Int32))]))) ?_ (fun _ k => XT.iconstV X.here hx rfl (1 : Int32) (hb hby at_85) rfl k)
    refine Ends.step (u' := (T.setTop (mkF m 90 #[.val (.long x0), .second, .val (.long z2), .second, d4, d5, .val (.long x6), .second, d8, d9, .val (.int x10), .unset, .unset, .unset] [(.int (1 : Int32))]))) ?_ (fun _ k => XS.goto X.here hx rfl (pc0 := 86) (pc' := 90) rfl (hb hby at_86) (by decide) (by decide) k)
    exact b90 T _ _ X eT N Zs x0 x6 x10 (1 : Int32) z2 (d4) od4 (d5) od5 (d8) od8 (d9) od9
  have b89 : ∀ (T : State) (L : List Loc) (h : Heap) (X : Stand p l e room_1 s m #[(.long p0), (.long p1), (.int p2)] below meth c T L 2 2) (eT : T.heap = h) (N : Fr n0 L) (Zs : n0 ≤ h.size) (x0 : Int64) (x6 : Int64) (x10 : Int32) (z2 : Int64) (d4 : Slot) (od4 : OneS d4) (d5 : Slot) (od5 : OneS d5) (d8 : Slot) (od8 : OneS d8) (d9 : Slot) (od9 : OneS d9), Ends p e below s 2 2 (Q0 Z  h0 n0 (F0_89 x0 x6 x10)) (T.setTop (mkF m 89 #[.val (.long x0), .second, .val (.long z2), .second, d4, d5, .val (.long x6), .second, d8, d9, .val (.int x10), .unset, .unset, .unset] [])) := by
    intro T L h X eT N Zs x0 x6 x10 z2 d4 od4 d5 od5 d8 od8 d9 od9
    refine Ends.step (u' := (T.setTop (mkF m 90 #[.val (.long x0), .second, .val (.long z2), .second, d4, d5, .val (.long x6), .second, d8, d9, .val (.int x10), .unset, .unset, .unset] [(.int (0 : Int32))]))) ?_ (fun _ k => XT.iconstV X.here hx rfl (0 : Int32) (hb hby at_89) rfl k)
    exact b90 T _ _ X eT N Zs x0 x6 x10 (0 : Int32) z2 (d4) od4 (d5) od5 (d8) od8 (d9) od9
  have b78 : ∀ (T : State) (L : List Loc) (h : Heap) (X : Stand p l e room_1 s m #[(.long p0), (.long p1), (.int p2)] below meth c T L 2 2) (eT : T.heap = h) (N : Fr n0 L) (Zs : n0 ≤ h.size) (x0 : Int64) (x6 : Int64) (x10 : Int32) (z2 : Int64) (d4 : Slot) (od4 : OneS d4) (d5 : Slot) (od5 : OneS d5) (d8 : Slot) (od8 : OneS d8) (d9 : Slot) (od9 : OneS d9), Ends p e below s 2 2 (Q0 Z  h0 n0 (F0_78 x0 x6 x10)) (T.setTop (mkF m 78 #[.val (.long x0), .second, .val (.long z2), .second, d4, d5, .val (.long x6), .second, d8, d9, .val (.int x10), .unset, .unset, .unset] [])) := by
    intro T L h X eT N Zs x0 x6 x10 z2 d4 od4 d5 od5 d8 od8 d9 od9
    refine Ends.step (u' := (T.setTop (mkF m 79 #[.val (.long x0), .second, .val (.long z2), .second, d4, d5, .val (.long x6), .second, d8, d9, .val (.int x10), .unset, .unset, .unset] [(.long x0)]))) ?_ (fun _ k => XT.lloadN X.here hx rfl (hb hby at_78) rfl k)
    refine Ends.step (u' := (T.setTop (mkF m 81 #[.val (.long x0), .second, .val (.long z2), .second, d4, d5, .val (.long x6), .second, d8, d9, .val (.int x10), .unset, .unset, .unset] [(.long x6), (.long x0)]))) ?_ (fun _ k => XT.lload X.here hx rfl (hb hby at_79) rfl k)
    refine Ends.step (u' := (T.setTop (mkF m 82 #[.val (.long x0), .second, .val (.long z2), .second, d4, d5, .val (.long x6), .second, d8, d9, .val (.int x10), .unset, .unset, .unset] [(.int (XT.cmpL x0 x6))]))) ?_ (fun _ k => XT.lcmp X.here hx rfl (hb hby at_81) rfl k)
    by_cases hc82 : x0 < x6
    · refine Eq.mp (congrArg (fun z => Ends p e below s 2 2 (Q0 Z  h0 n0 z) (T.setTop (mkF m 82 #[.val (.long x0), .second, .val (.long z2), .second, d4, d5, .val (.long x6), .second, d8, d9, .val (.int x10), .unset, .unset, .unset] [(.int (XT.cmpL x0 x6))]))) (show (F0_78 x0 x6 x10) = (F0_85 x0 x6 x10) from (if_pos hc82)).symm) ?_
      refine Ends.step (u' := (T.setTop (mkF m 85 #[.val (.long x0), .second, .val (.long z2), .second, d4, d5, .val (.long x6), .second, d8, d9, .val (.int x10), .unset, .unset, .unset] []))) ?_ (fun _ k => XS.ifNo X.here hx rfl (hb hby at_82) rfl (XT.ll_ge_f hc82) k)
      exact b85 T _ _ X eT N Zs x0 x6 x10 z2 (d4) od4 (d5) od5 (d8) od8 (d9) od9
    · refine Eq.mp (congrArg (fun z => Ends p e below s 2 2 (Q0 Z  h0 n0 z) (T.setTop (mkF m 82 #[.val (.long x0), .second, .val (.long z2), .second, d4, d5, .val (.long x6), .second, d8, d9, .val (.int x10), .unset, .unset, .unset] [(.int (XT.cmpL x0 x6))]))) (show (F0_78 x0 x6 x10) = (F0_89 x0 x6 x10) from (if_neg hc82)).symm) ?_
      refine Ends.step (u' := (T.setTop (mkF m 89 #[.val (.long x0), .second, .val (.long z2), .second, d4, d5, .val (.long x6), .second, d8, d9, .val (.int x10), .unset, .unset, .unset] []))) ?_ (fun _ k => XS.ifYes X.here hx rfl (pc0 := 82) (pc' := 89) rfl (hb hby at_82) rfl (XT.ll_ge_t hc82) (by decide) (by decide) k)
      exact b89 T _ _ X eT N Zs x0 x6 x10 z2 (d4) od4 (d5) od5 (d8) od8 (d9) od9
  have b48 : ∀ (T : State) (L : List Loc) (h : Heap) (X : Stand p l e room_1 s m #[(.long p0), (.long p1), (.int p2)] below meth c T L 0 0) (eT : T.heap = h) (N : Fr n0 L) (Zs : n0 ≤ h.size) (x0 : Int64) (x6 : Int64) (z2 : Int64) (d4 : Slot) (od4 : OneS d4) (d5 : Slot) (od5 : OneS d5), Ends p e below s 2 2 (Q0 Z  h0 n0 (F0_48 x0 x6)) (T.setTop (mkF m 48 #[.val (.long x0), .second, .val (.long z2), .second, d4, d5, .val (.long x6), .second, .unset, .unset, .unset, .unset, .unset, .unset] [])) := by
    intro T L h X eT N Zs x0 x6 z2 d4 od4 d5 od5
    refine Ends.newO X hx hZ hown (hw _ (List.mem_of_getElem? (i := 0) rfl)) (hw _ (List.mem_of_getElem? (i := 1) rfl)) (hw _ (List.mem_of_getElem? (i := 2) rfl)) eT (g := (mkF m 48 #[.val (.long x0), .second, .val (.long z2), .second, d4, d5, .val (.long x6), .second, .unset, .unset, .unset, .unset, .unset, .unset] [])) rfl (hb hby at_48) (by decide) (by decide) (fun T1 h1 a1 X1 e1 E1 q1 Y1 D1 => ?_)
    have Fd2 : Fld Z h1 a1 "com/example/waybill/waybill/core/Money" "cents" "J" (.long (0 : Int64)) := D1 (Or.inr (hw _ (List.mem_of_getElem? (i := 15) rfl))) (ty := .long) (by decide)
    have g3 : n0 ≤ a1 := q1 ▸ Zs
    have Z4 := Nat.le_trans Zs E1.1
    show Ends p e below s _ _ _ (T1.setTop (mkF m 51 #[.val (.long x0), .second, .val (.long z2), .second, d4, d5, .val (.long x6), .second, .unset, .unset, .unset, .unset, .unset, .unset] [(.ref a1)]))
    refine Ends.step (u' := (T1.setTop (mkF m 52 #[.val (.long x0), .second, .val (.long z2), .second, d4, d5, .val (.long x6), .second, .unset, .unset, .unset, .unset, .unset, .unset] [(.ref a1), (.ref a1)]))) ?_ (fun _ k => XS.dup X1.here hx rfl (hb hby at_51) rfl rfl k)
    refine Ends.step (u' := (T1.setTop (mkF m 53 #[.val (.long x0), .second, .val (.long z2), .second, d4, d5, .val (.long x6), .second, .unset, .unset, .unset, .unset, .unset, .unset] [(.long x0), (.ref a1), (.ref a1)]))) ?_ (fun _ k => XT.lloadN X1.here hx rfl (hb hby at_52) rfl k)
    refine Ends.callC X1 hx hZ (y := (⟨"com/example/waybill/waybill/core/Money", "<init>", "(J)V"⟩ : MethodName)) rfl hown (hw _ (List.mem_of_getElem? (i := 3) rfl)) (hw _ (List.mem_of_getElem? (i := 4) rfl)) (hw _ (List.mem_of_getElem? (i := 2) rfl)) (hw _ (List.mem_of_getElem? (i := 5) rfl)) (by decide) (rm1 l Z a0 hw x0 (0 : Int64) a1 h1 n0 Z4 Y1 Fd2 g3) 1 (by decide) (by decide) e1  (g := (mkF m 53 #[.val (.long x0), .second, .val (.long z2), .second, d4, d5, .val (.long x6), .second, .unset, .unset, .unset, .unset, .unset, .unset] [(.long x0), (.ref a1), (.ref a1)])) rfl (by rw [hml]; rfl) a1 [(.long x0)] [(.ref a1)] (lenOf pd_2 rfl) rfl (by show 2 * 0 + _ ≤ _; exact Nat.le_of_eq rfl) (hb hby at_53) rfl (by decide) (by decide) (fun v5 T5 L5 X5 hQ5 => ?_)
    obtain ⟨rfl, Nq5, Kq5, Fd6⟩ := hQ5
    have N5 := Fr.app N Nq5
    show Ends p e below s _ _ _ (T5.setTop (mkF m 56 #[.val (.long x0), .second, .val (.long z2), .second, d4, d5, .val (.long x6), .second, .unset, .unset, .unset, .unset, .unset, .unset] [(.ref a1)]))
    have E7 := Y1.keep Kq5
    have Z8 := Nat.le_trans Z4 Kq5.1
    refine Ends.step (u' := (T5.setTop (mkF m 58 #[.val (.long x0), .second, .val (.long z2), .second, d4, d5, .val (.long x6), .second, .val (.ref a1), .unset, .unset, .unset, .unset, .unset] []))) ?_ (fun _ k => XS.astore X5.here hx rfl (hb hby at_56) rfl rfl (l' := #[.val (.long x0), .second, .val (.long z2), .second, d4, d5, .val (.long x6), .second, .val (.ref a1), .unset, .unset, .unset, .unset, .unset]) rfl k)
    refine Ends.newO X5 hx hZ hown (hw _ (List.mem_of_getElem? (i := 0) rfl)) (hw _ (List.mem_of_getElem? (i := 1) rfl)) (hw _ (List.mem_of_getElem? (i := 2) rfl)) rfl (g := (mkF m 58 #[.val (.long x0), .second, .val (.long z2), .second, d4, d5, .val (.long x6), .second, .val (.ref a1), .unset, .unset, .unset, .unset, .unset] [])) rfl (hb hby at_58) (by decide) (by decide) (fun T9 h9 a9 X9 e9 E9 q9 Y9 D9 => ?_)
    have Fd10 : Fld Z h9 a9 "com/example/waybill/waybill/core/Money" "cents" "J" (.long (0 : Int64)) := D9 (Or.inr (hw _ (List.mem_of_getElem? (i := 15) rfl))) (ty := .long) (by decide)
    have ne11 : a1 ≠ a9 := q9 ▸ Nat.ne_of_lt E7.lt
    have E12 := E7.ext E9
    have Fd13 := Fd6.ext E9
    have g14 : n0 ≤ a9 := q9 ▸ Z8
    have Z15 := Nat.le_trans Z8 E9.1
    show Ends p e below s _ _ _ (T9.setTop (mkF m 61 #[.val (.long x0), .second, .val (.long z2), .second, d4, d5, .val (.long x6), .second, .val (.ref a1), .unset, .unset, .unset, .unset, .unset] [(.ref a9)]))
    refine Ends.step (u' := (T9.setTop (mkF m 62 #[.val (.long x0), .second, .val (.long z2), .second, d4, d5, .val (.long x6), .second, .val (.ref a1), .unset, .unset, .unset, .unset, .unset] [(.ref a9), (.ref a9)]))) ?_ (fun _ k => XS.dup X9.here hx rfl (hb hby at_61) rfl rfl k)
    refine Ends.step (u' := (T9.setTop (mkF m 64 #[.val (.long x0), .second, .val (.long z2), .second, d4, d5, .val (.long x6), .second, .val (.ref a1), .unset, .unset, .unset, .unset, .unset] [(.long x6), (.ref a9), (.ref a9)]))) ?_ (fun _ k => XT.lload X9.here hx rfl (hb hby at_62) rfl k)
    refine Ends.callC X9 hx hZ (y := (⟨"com/example/waybill/waybill/core/Money", "<init>", "(J)V"⟩ : MethodName)) rfl hown (hw _ (List.mem_of_getElem? (i := 3) rfl)) (hw _ (List.mem_of_getElem? (i := 4) rfl)) (hw _ (List.mem_of_getElem? (i := 2) rfl)) (hw _ (List.mem_of_getElem? (i := 5) rfl)) (by decide) (rm1 l Z a0 hw x6 (0 : Int64) a9 h9 n0 Z15 Y9 Fd10 g14) 1 (by decide) (by decide) e9  (g := (mkF m 64 #[.val (.long x0), .second, .val (.long z2), .second, d4, d5, .val (.long x6), .second, .val (.ref a1), .unset, .unset, .unset, .unset, .unset] [(.long x6), (.ref a9), (.ref a9)])) rfl (by rw [hml]; rfl) a9 [(.long x6)] [(.ref a9)] (lenOf pd_2 rfl) rfl (by show 2 * 0 + _ ≤ _; exact Nat.le_of_eq rfl) (hb hby at_64) rfl (by decide) (by decide) (fun v16 T16 L16 X16 hQ16 => ?_)
    obtain ⟨rfl, Nq16, Kq16, Fd17⟩ := hQ16
    have N16 := Fr.app N5 Nq16
    show Ends p e below s _ _ _ (T16.setTop (mkF m 67 #[.val (.long x0), .second, .val (.long z2), .second, d4, d5, .val (.long x6), .second, .val (.ref a1), .unset, .unset, .unset, .unset, .unset] [(.ref a9)]))
    have E18 := E12.keep Kq16
    have Fd19 := Fd13.keep Kq16 (ninS ne11 nin0)
    have E20 := Y9.keep Kq16
    have Z21 := Nat.le_trans Z15 Kq16.1
    refine Ends.step (u' := (T16.setTop (mkF m 69 #[.val (.long x0), .second, .val (.long z2), .second, d4, d5, .val (.long x6), .second, .val (.ref a1), .val (.ref a9), .unset, .unset, .unset, .unset] []))) ?_ (fun _ k => XS.astore X16.here hx rfl (hb hby at_67) rfl rfl (l' := #[.val (.long x0), .second, .val (.long z2), .second, d4, d5, .val (.long x6), .second, .val (.ref a1), .val (.ref a9), .unset, .unset, .unset, .unset]) rfl k)
    refine Ends.step (u' := (T16.setTop (mkF m 71 #[.val (.long x0), .second, .val (.long z2), .second, d4, d5, .val (.long x6), .second, .val (.ref a1), .val (.ref a9), .unset, .unset, .unset, .unset] [(.ref a1)]))) ?_ (fun _ k => XS.aload X16.here hx rfl (hb hby at_69) rfl rfl k)
    refine Ends.step (u' := (T16.setTop (mkF m 73 #[.val (.long x0), .second, .val (.long z2), .second, d4, d5, .val (.long x6), .second, .val (.ref a1), .val (.ref a9), .unset, .unset, .unset, .unset] [(.ref a9), (.ref a1)]))) ?_ (fun _ k => XS.aload X16.here hx rfl (hb hby at_71) rfl rfl k)
    refine Ends.callV X16 hx hZ hown (hw _ (List.mem_of_getElem? (i := 16) rfl)) (hw _ (List.mem_of_getElem? (i := 17) rfl)) (hw _ (List.mem_of_getElem? (i := 19) rfl)) (hw _ (List.mem_of_getElem? (i := 18) rfl)) (hw _ (List.mem_of_getElem? (i := 2) rfl)) (hw _ (List.mem_of_getElem? (i := 20) rfl)) (by decide) (rm4 l Z a0 hw (F1 x0 (0 : Int64)) (F1 x6 (0 : Int64)) a1 a9 T16.heap n0 Z21 E18 Fd19 E20 Fd17) 0 (by decide) (by decide) rfl a1 E18 (g := (mkF m 73 #[.val (.long x0), .second, .val (.long z2), .second, d4, d5, .val (.long x6), .second, .val (.ref a1), .val (.ref a9), .unset, .unset, .unset, .unset] [(.ref a9), (.ref a1)])) rfl (by rw [hml]; rfl)  [(.ref a9)] [] (lenOf pd_3 rfl) rfl (by show 2 * 0 + _ ≤ _; exact Nat.le_of_eq rfl) (hb hby at_73) rfl (by decide) (by decide) (fun v22 T22 L22 X22 hQ22 => ?_)
    obtain ⟨rfl, Nq22, e22⟩ := hQ22
    have N22 := Fr.app N16 Nq22
    show Ends p e below s _ _ _ (T22.setTop (mkF m 76 #[.val (.long x0), .second, .val (.long z2), .second, d4, d5, .val (.long x6), .second, .val (.ref a1), .val (.ref a9), .unset, .unset, .unset, .unset] [(.int (F4 (F1 x0 (0 : Int64)) (F1 x6 (0 : Int64))))]))
    refine Ends.step (u' := (T22.setTop (mkF m 78 #[.val (.long x0), .second, .val (.long z2), .second, d4, d5, .val (.long x6), .second, .val (.ref a1), .val (.ref a9), .val (.int (F4 (F1 x0 (0 : Int64)) (F1 x6 (0 : Int64)))), .unset, .unset, .unset] []))) ?_ (fun _ k => XS.istore X22.here hx rfl (hb hby at_76) rfl (l' := #[.val (.long x0), .second, .val (.long z2), .second, d4, d5, .val (.long x6), .second, .val (.ref a1), .val (.ref a9), .val (.int (F4 (F1 x0 (0 : Int64)) (F1 x6 (0 : Int64)))), .unset, .unset, .unset]) rfl k)
    exact b78 T22 _ _ X22 e22 N22 Z21 x0 x6 (F4 (F1 x0 (0 : Int64)) (F1 x6 (0 : Int64))) z2 (d4) od4 (d5) od5 (.val (.ref a1)) (Or.inr ⟨_, rfl, rfl⟩) (.val (.ref a9)) (Or.inr ⟨_, rfl, rfl⟩)
  have b11 : ∀ (T : State) (L : List Loc) (h : Heap) (X : Stand p l e room_1 s m #[(.long p0), (.long p1), (.int p2)] below meth c T L 0 0) (eT : T.heap = h) (N : Fr n0 L) (Zs : n0 ≤ h.size) (x0 : Int64) (z2 : Int64) (d4 : Slot) (od4 : OneS d4) (d5 : Slot) (od5 : OneS d5), Ends p e below s 2 2 (Q0 Z  h0 n0 (F0_11 x0)) (T.setTop (mkF m 11 #[.val (.long x0), .second, .val (.long z2), .second, d4, d5, .unset, .unset, .unset, .unset, .unset, .unset, .unset, .unset] [])) := by
    intro T L h X eT N Zs x0 z2 d4 od4 d5 od5
    refine Ends.step (u' := (T.setTop (mkF m 12 #[.val (.long x0), .second, .val (.long z2), .second, d4, d5, .unset, .unset, .unset, .unset, .unset, .unset, .unset, .unset] [(.long x0)]))) ?_ (fun _ k => XT.lloadN X.here hx rfl (hb hby at_11) rfl k)
    refine Ends.step (u' := (T.setTop (mkF m 14 #[.val (.long x0), .second, .val (.long z2), .second, d4, d5, .val (.long x0), .second, .unset, .unset, .unset, .unset, .unset, .unset] []))) ?_ (fun _ k => XT.lstore X.here hx rfl (hb hby at_12) rfl (l' := #[.val (.long x0), .second, .val (.long z2), .second, d4, d5, .val (.long x0), .second, .unset, .unset, .unset, .unset, .unset, .unset]) rfl k)
    refine Ends.step (u' := (T.setTop (mkF m 48 #[.val (.long x0), .second, .val (.long z2), .second, d4, d5, .val (.long x0), .second, .unset, .unset, .unset, .unset, .unset, .unset] []))) ?_ (fun _ k => XS.goto X.here hx rfl (pc0 := 14) (pc' := 48) rfl (hb hby at_14) (by decide) (by decide) k)
    exact b48 T _ _ X eT N Zs x0 x0 z2 (d4) od4 (d5) od5
  have b28 : ∀ (T : State) (L : List Loc) (h : Heap) (X : Stand p l e room_1 s m #[(.long p0), (.long p1), (.int p2)] below meth c T L 0 0) (eT : T.heap = h) (N : Fr n0 L) (Zs : n0 ≤ h.size) (x0 : Int64) (x6 : Int64) (z2 : Int64) (d4 : Slot) (od4 : OneS d4) (d5 : Slot) (od5 : OneS d5), Ends p e below s 2 2 (Q0 Z  h0 n0 (F0_28 x0 x6)) (T.setTop (mkF m 28 #[.val (.long x0), .second, .val (.long z2), .second, d4, d5, .val (.long x6), .second, .unset, .unset, .unset, .unset, .unset, .unset] [])) := by
    intro T L h X eT N Zs x0 x6 z2 d4 od4 d5 od5
    refine Ends.step (u' := (T.setTop (mkF m 48 #[.val (.long x0), .second, .val (.long z2), .second, d4, d5, .val (.long x6), .second, .unset, .unset, .unset, .unset, .unset, .unset] []))) ?_ (fun _ k => XS.goto X.here hx rfl (pc0 := 28) (pc' := 48) rfl (hb hby at_28) (by decide) (by decide) k)
    exact b48 T _ _ X eT N Zs x0 x6 z2 (d4) od4 (d5) od5
  have b23 : ∀ (T : State) (L : List Loc) (h : Heap) (X : Stand p l e room_1 s m #[(.long p0), (.long p1), (.int p2)] below meth c T L 0 0) (eT : T.heap = h) (N : Fr n0 L) (Zs : n0 ≤ h.size) (x0 : Int64) (z2 : Int64) (d4 : Slot) (od4 : OneS d4) (d5 : Slot) (od5 : OneS d5), Ends p e below s 2 2 (Q0 Z  h0 n0 (F0_23 x0)) (T.setTop (mkF m 23 #[.val (.long x0), .second, .val (.long z2), .second, d4, d5, .unset, .unset, .unset, .unset, .unset, .unset, .unset, .unset] [])) := by
    intro T L h X eT N Zs x0 z2 d4 od4 d5 od5
    refine Ends.step (u' := (T.setTop (mkF m 24 #[.val (.long x0), .second, .val (.long z2), .second, d4, d5, .unset, .unset, .unset, .unset, .unset, .unset, .unset, .unset] [(.long x0)]))) ?_ (fun _ k => XT.lloadN X.here hx rfl (hb hby at_23) rfl k)
    refine Ends.step (u' := (T.setTop (mkF m 25 #[.val (.long x0), .second, .val (.long z2), .second, d4, d5, .unset, .unset, .unset, .unset, .unset, .unset, .unset, .unset] [(.long (1 : Int64)), (.long x0)]))) ?_ (fun _ k => XT.lconstV X.here hx rfl (1 : Int64) (hb hby at_24) rfl k)
    refine Ends.step (u' := (T.setTop (mkF m 26 #[.val (.long x0), .second, .val (.long z2), .second, d4, d5, .unset, .unset, .unset, .unset, .unset, .unset, .unset, .unset] [(.long (x0 + (1 : Int64)))]))) ?_ (fun _ k => XT.ladd X.here hx rfl (hb hby at_25) rfl k)
    refine Ends.step (u' := (T.setTop (mkF m 28 #[.val (.long x0), .second, .val (.long z2), .second, d4, d5, .val (.long (x0 + (1 : Int64))), .second, .unset, .unset, .unset, .unset, .unset, .unset] []))) ?_ (fun _ k => XT.lstore X.here hx rfl (hb hby at_26) rfl (l' := #[.val (.long x0), .second, .val (.long z2), .second, d4, d5, .val (.long (x0 + (1 : Int64))), .second, .unset, .unset, .unset, .unset, .unset, .unset]) rfl k)
    exact b28 T _ _ X eT N Zs x0 (x0 + (1 : Int64)) z2 (d4) od4 (d5) od5
  have b42 : ∀ (T : State) (L : List Loc) (h : Heap) (X : Stand p l e room_1 s m #[(.long p0), (.long p1), (.int p2)] below meth c T L 0 0) (eT : T.heap = h) (N : Fr n0 L) (Zs : n0 ≤ h.size) (x0 : Int64) (x6 : Int64) (z2 : Int64) (d4 : Slot) (od4 : OneS d4) (d5 : Slot) (od5 : OneS d5), Ends p e below s 2 2 (Q0 Z  h0 n0 (F0_42 x0 x6)) (T.setTop (mkF m 42 #[.val (.long x0), .second, .val (.long z2), .second, d4, d5, .val (.long x6), .second, .unset, .unset, .unset, .unset, .unset, .unset] [])) := by
    intro T L h X eT N Zs x0 x6 z2 d4 od4 d5 od5
    refine Ends.step (u' := (T.setTop (mkF m 48 #[.val (.long x0), .second, .val (.long z2), .second, d4, d5, .val (.long x6), .second, .unset, .unset, .unset, .unset, .unset, .unset] []))) ?_ (fun _ k => XS.goto X.here hx rfl (pc0 := 42) (pc' := 48) rfl (hb hby at_42) (by decide) (by decide) k)
    exact b48 T _ _ X eT N Zs x0 x6 z2 (d4) od4 (d5) od5
  have b37 : ∀ (T : State) (L : List Loc) (h : Heap) (X : Stand p l e room_1 s m #[(.long p0), (.long p1), (.int p2)] below meth c T L 0 0) (eT : T.heap = h) (N : Fr n0 L) (Zs : n0 ≤ h.size) (x0 : Int64) (z2 : Int64) (d4 : Slot) (od4 : OneS d4) (d5 : Slot) (od5 : OneS d5), Ends p e below s 2 2 (Q0 Z  h0 n0 (F0_37 x0)) (T.setTop (mkF m 37 #[.val (.long x0), .second, .val (.long z2), .second, d4, d5, .unset, .unset, .unset, .unset, .unset, .unset, .unset, .unset] [])) := by
    intro T L h X eT N Zs x0 z2 d4 od4 d5 od5
    refine Ends.step (u' := (T.setTop (mkF m 38 #[.val (.long x0), .second, .val (.long z2), .second, d4, d5, .unset, .unset, .unset, .unset, .unset, .unset, .unset, .unset] [(.long x0)]))) ?_ (fun _ k => XT.lloadN X.here hx rfl (hb hby at_37) rfl k)
    refine Ends.step (u' := (T.setTop (mkF m 39 #[.val (.long x0), .second, .val (.long z2), .second, d4, d5, .unset, .unset, .unset, .unset, .unset, .unset, .unset, .unset] [(.long (1 : Int64)), (.long x0)]))) ?_ (fun _ k => XT.lconstV X.here hx rfl (1 : Int64) (hb hby at_38) rfl k)
    refine Ends.step (u' := (T.setTop (mkF m 40 #[.val (.long x0), .second, .val (.long z2), .second, d4, d5, .unset, .unset, .unset, .unset, .unset, .unset, .unset, .unset] [(.long (x0 - (1 : Int64)))]))) ?_ (fun _ k => XT.lsub X.here hx rfl (hb hby at_39) rfl k)
    refine Ends.step (u' := (T.setTop (mkF m 42 #[.val (.long x0), .second, .val (.long z2), .second, d4, d5, .val (.long (x0 - (1 : Int64))), .second, .unset, .unset, .unset, .unset, .unset, .unset] []))) ?_ (fun _ k => XT.lstore X.here hx rfl (hb hby at_40) rfl (l' := #[.val (.long x0), .second, .val (.long z2), .second, d4, d5, .val (.long (x0 - (1 : Int64))), .second, .unset, .unset, .unset, .unset, .unset, .unset]) rfl k)
    exact b42 T _ _ X eT N Zs x0 (x0 - (1 : Int64)) z2 (d4) od4 (d5) od5
  have b45 : ∀ (T : State) (L : List Loc) (h : Heap) (X : Stand p l e room_1 s m #[(.long p0), (.long p1), (.int p2)] below meth c T L 0 0) (eT : T.heap = h) (N : Fr n0 L) (Zs : n0 ≤ h.size) (x0 : Int64) (x2 : Int64) (d4 : Slot) (od4 : OneS d4) (d5 : Slot) (od5 : OneS d5), Ends p e below s 2 2 (Q0 Z  h0 n0 (F0_45 x0 x2)) (T.setTop (mkF m 45 #[.val (.long x0), .second, .val (.long x2), .second, d4, d5, .unset, .unset, .unset, .unset, .unset, .unset, .unset, .unset] [])) := by
    intro T L h X eT N Zs x0 x2 d4 od4 d5 od5
    refine Ends.step (u' := (T.setTop (mkF m 46 #[.val (.long x0), .second, .val (.long x2), .second, d4, d5, .unset, .unset, .unset, .unset, .unset, .unset, .unset, .unset] [(.long x2)]))) ?_ (fun _ k => XT.lloadN X.here hx rfl (hb hby at_45) rfl k)
    refine Ends.step (u' := (T.setTop (mkF m 48 #[.val (.long x0), .second, .val (.long x2), .second, d4, d5, .val (.long x2), .second, .unset, .unset, .unset, .unset, .unset, .unset] []))) ?_ (fun _ k => XT.lstore X.here hx rfl (hb hby at_46) rfl (l' := #[.val (.long x0), .second, .val (.long x2), .second, d4, d5, .val (.long x2), .second, .unset, .unset, .unset, .unset, .unset, .unset]) rfl k)
    exact b48 T _ _ X eT N Zs x0 x2 x2 (d4) od4 (d5) od5
  have b31 : ∀ (T : State) (L : List Loc) (h : Heap) (X : Stand p l e room_1 s m #[(.long p0), (.long p1), (.int p2)] below meth c T L 0 0) (eT : T.heap = h) (N : Fr n0 L) (Zs : n0 ≤ h.size) (x0 : Int64) (x2 : Int64) (x5 : Int32) (d4 : Slot) (od4 : OneS d4), Ends p e below s 2 2 (Q0 Z  h0 n0 (F0_31 x0 x2 x5)) (T.setTop (mkF m 31 #[.val (.long x0), .second, .val (.long x2), .second, d4, .val (.int x5), .unset, .unset, .unset, .unset, .unset, .unset, .unset, .unset] [])) := by
    intro T L h X eT N Zs x0 x2 x5 d4 od4
    refine Ends.step (u' := (T.setTop (mkF m 33 #[.val (.long x0), .second, .val (.long x2), .second, d4, .val (.int x5), .unset, .unset, .unset, .unset, .unset, .unset, .unset, .unset] [(.int x5)]))) ?_ (fun _ k => XS.iload X.here hx rfl (hb hby at_31) rfl k)
    refine Ends.step (u' := (T.setTop (mkF m 34 #[.val (.long x0), .second, .val (.long x2), .second, d4, .val (.int x5), .unset, .unset, .unset, .unset, .unset, .unset, .unset, .unset] [(.int (2 : Int32)), (.int x5)]))) ?_ (fun _ k => XT.iconstV X.here hx rfl (2 : Int32) (hb hby at_33) rfl k)
    by_cases hc34 : x5 = (2 : Int32)
    · refine Eq.mp (congrArg (fun z => Ends p e below s 2 2 (Q0 Z  h0 n0 z) (T.setTop (mkF m 34 #[.val (.long x0), .second, .val (.long x2), .second, d4, .val (.int x5), .unset, .unset, .unset, .unset, .unset, .unset, .unset, .unset] [(.int (2 : Int32)), (.int x5)]))) (show (F0_31 x0 x2 x5) = (F0_37 x0) from (if_pos hc34)).symm) ?_
      refine Ends.step (u' := (T.setTop (mkF m 37 #[.val (.long x0), .second, .val (.long x2), .second, d4, .val (.int x5), .unset, .unset, .unset, .unset, .unset, .unset, .unset, .unset] []))) ?_ (fun _ k => XS.icmpNo X.here hx rfl (hb hby at_34) rfl (XT.ii_ne_f hc34) k)
      exact b37 T _ _ X eT N Zs x0 x2 (d4) od4 (.val (.int x5)) (Or.inr ⟨_, rfl, rfl⟩)
    · refine Eq.mp (congrArg (fun z => Ends p e below s 2 2 (Q0 Z  h0 n0 z) (T.setTop (mkF m 34 #[.val (.long x0), .second, .val (.long x2), .second, d4, .val (.int x5), .unset, .unset, .unset, .unset, .unset, .unset, .unset, .unset] [(.int (2 : Int32)), (.int x5)]))) (show (F0_31 x0 x2 x5) = (F0_45 x0 x2) from (if_neg hc34)).symm) ?_
      refine Ends.step (u' := (T.setTop (mkF m 45 #[.val (.long x0), .second, .val (.long x2), .second, d4, .val (.int x5), .unset, .unset, .unset, .unset, .unset, .unset, .unset, .unset] []))) ?_ (fun _ k => XS.icmpYes X.here hx rfl (pc0 := 34) (pc' := 45) rfl (hb hby at_34) rfl (XT.ii_ne_t hc34) (by decide) (by decide) k)
      exact b45 T _ _ X eT N Zs x0 x2 (d4) od4 (.val (.int x5)) (Or.inr ⟨_, rfl, rfl⟩)
  have b17 : ∀ (T : State) (L : List Loc) (h : Heap) (X : Stand p l e room_1 s m #[(.long p0), (.long p1), (.int p2)] below meth c T L 0 0) (eT : T.heap = h) (N : Fr n0 L) (Zs : n0 ≤ h.size) (x0 : Int64) (x2 : Int64) (x5 : Int32) (d4 : Slot) (od4 : OneS d4), Ends p e below s 2 2 (Q0 Z  h0 n0 (F0_17 x0 x2 x5)) (T.setTop (mkF m 17 #[.val (.long x0), .second, .val (.long x2), .second, d4, .val (.int x5), .unset, .unset, .unset, .unset, .unset, .unset, .unset, .unset] [])) := by
    intro T L h X eT N Zs x0 x2 x5 d4 od4
    refine Ends.step (u' := (T.setTop (mkF m 19 #[.val (.long x0), .second, .val (.long x2), .second, d4, .val (.int x5), .unset, .unset, .unset, .unset, .unset, .unset, .unset, .unset] [(.int x5)]))) ?_ (fun _ k => XS.iload X.here hx rfl (hb hby at_17) rfl k)
    refine Ends.step (u' := (T.setTop (mkF m 20 #[.val (.long x0), .second, .val (.long x2), .second, d4, .val (.int x5), .unset, .unset, .unset, .unset, .unset, .unset, .unset, .unset] [(.int (1 : Int32)), (.int x5)]))) ?_ (fun _ k => XT.iconstV X.here hx rfl (1 : Int32) (hb hby at_19) rfl k)
    by_cases hc20 : x5 = (1 : Int32)
    · refine Eq.mp (congrArg (fun z => Ends p e below s 2 2 (Q0 Z  h0 n0 z) (T.setTop (mkF m 20 #[.val (.long x0), .second, .val (.long x2), .second, d4, .val (.int x5), .unset, .unset, .unset, .unset, .unset, .unset, .unset, .unset] [(.int (1 : Int32)), (.int x5)]))) (show (F0_17 x0 x2 x5) = (F0_23 x0) from (if_pos hc20)).symm) ?_
      refine Ends.step (u' := (T.setTop (mkF m 23 #[.val (.long x0), .second, .val (.long x2), .second, d4, .val (.int x5), .unset, .unset, .unset, .unset, .unset, .unset, .unset, .unset] []))) ?_ (fun _ k => XS.icmpNo X.here hx rfl (hb hby at_20) rfl (XT.ii_ne_f hc20) k)
      exact b23 T _ _ X eT N Zs x0 x2 (d4) od4 (.val (.int x5)) (Or.inr ⟨_, rfl, rfl⟩)
    · refine Eq.mp (congrArg (fun z => Ends p e below s 2 2 (Q0 Z  h0 n0 z) (T.setTop (mkF m 20 #[.val (.long x0), .second, .val (.long x2), .second, d4, .val (.int x5), .unset, .unset, .unset, .unset, .unset, .unset, .unset, .unset] [(.int (1 : Int32)), (.int x5)]))) (show (F0_17 x0 x2 x5) = (F0_31 x0 x2 x5) from (if_neg hc20)).symm) ?_
      refine Ends.step (u' := (T.setTop (mkF m 31 #[.val (.long x0), .second, .val (.long x2), .second, d4, .val (.int x5), .unset, .unset, .unset, .unset, .unset, .unset, .unset, .unset] []))) ?_ (fun _ k => XS.icmpYes X.here hx rfl (pc0 := 20) (pc' := 31) rfl (hb hby at_20) rfl (XT.ii_ne_t hc20) (by decide) (by decide) k)
      exact b31 T _ _ X eT N Zs x0 x2 x5 (d4) od4
  have b6 : ∀ (T : State) (L : List Loc) (h : Heap) (X : Stand p l e room_1 s m #[(.long p0), (.long p1), (.int p2)] below meth c T L 0 0) (eT : T.heap = h) (N : Fr n0 L) (Zs : n0 ≤ h.size) (x0 : Int64) (x2 : Int64) (x5 : Int32) (d4 : Slot) (od4 : OneS d4), Ends p e below s 2 2 (Q0 Z  h0 n0 (F0_6 x0 x2 x5)) (T.setTop (mkF m 6 #[.val (.long x0), .second, .val (.long x2), .second, d4, .val (.int x5), .unset, .unset, .unset, .unset, .unset, .unset, .unset, .unset] [])) := by
    intro T L h X eT N Zs x0 x2 x5 d4 od4
    refine Ends.step (u' := (T.setTop (mkF m 8 #[.val (.long x0), .second, .val (.long x2), .second, d4, .val (.int x5), .unset, .unset, .unset, .unset, .unset, .unset, .unset, .unset] [(.int x5)]))) ?_ (fun _ k => XS.iload X.here hx rfl (hb hby at_6) rfl k)
    by_cases hc8 : x5 = 0
    · refine Eq.mp (congrArg (fun z => Ends p e below s 2 2 (Q0 Z  h0 n0 z) (T.setTop (mkF m 8 #[.val (.long x0), .second, .val (.long x2), .second, d4, .val (.int x5), .unset, .unset, .unset, .unset, .unset, .unset, .unset, .unset] [(.int x5)]))) (show (F0_6 x0 x2 x5) = (F0_11 x0) from (if_pos hc8)).symm) ?_
      refine Ends.step (u' := (T.setTop (mkF m 11 #[.val (.long x0), .second, .val (.long x2), .second, d4, .val (.int x5), .unset, .unset, .unset, .unset, .unset, .unset, .unset, .unset] []))) ?_ (fun _ k => XS.ifNo X.here hx rfl (hb hby at_8) rfl (XT.i0_ne_f hc8) k)
      exact b11 T _ _ X eT N Zs x0 x2 (d4) od4 (.val (.int x5)) (Or.inr ⟨_, rfl, rfl⟩)
    · refine Eq.mp (congrArg (fun z => Ends p e below s 2 2 (Q0 Z  h0 n0 z) (T.setTop (mkF m 8 #[.val (.long x0), .second, .val (.long x2), .second, d4, .val (.int x5), .unset, .unset, .unset, .unset, .unset, .unset, .unset, .unset] [(.int x5)]))) (show (F0_6 x0 x2 x5) = (F0_17 x0 x2 x5) from (if_neg hc8)).symm) ?_
      refine Ends.step (u' := (T.setTop (mkF m 17 #[.val (.long x0), .second, .val (.long x2), .second, d4, .val (.int x5), .unset, .unset, .unset, .unset, .unset, .unset, .unset, .unset] []))) ?_ (fun _ k => XS.ifYes X.here hx rfl (pc0 := 8) (pc' := 17) rfl (hb hby at_8) rfl (XT.i0_ne_t hc8) (by decide) (by decide) k)
      exact b17 T _ _ X eT N Zs x0 x2 x5 (d4) od4
  refine Ends.step (u' := (s₁.setTop (mkF m 0 #[.val (.long p0), .second, .val (.long p1), .second, .val (.int p2), .unset, .unset, .unset, .unset, .unset, .unset, .unset, .unset, .unset] []))) ?_ (fun _ k => castTop (ef_0 m p0 p1 p2) k)
  refine Ends.step (u' := (s₁.setTop (mkF m 2 #[.val (.long p0), .second, .val (.long p1), .second, .val (.int p2), .unset, .unset, .unset, .unset, .unset, .unset, .unset, .unset, .unset] [(.int p2)]))) ?_ (fun _ k => XS.iload X0.here hx rfl (hb hby at_0) rfl k)
  refine Ends.step (u' := (s₁.setTop (mkF m 3 #[.val (.long p0), .second, .val (.long p1), .second, .val (.int p2), .unset, .unset, .unset, .unset, .unset, .unset, .unset, .unset, .unset] [(.int (3 : Int32)), (.int p2)]))) ?_ (fun _ k => XT.iconstV X0.here hx rfl (3 : Int32) (hb hby at_2) rfl k)
  refine Ends.step (u' := (s₁.setTop (mkF m 4 #[.val (.long p0), .second, .val (.long p1), .second, .val (.int p2), .unset, .unset, .unset, .unset, .unset, .unset, .unset, .unset, .unset] [(.int (p2 &&& (3 : Int32)))]))) ?_ (fun _ k => XS.iand X0.here hx rfl (hb hby at_3) rfl k)
  refine Ends.step (u' := (s₁.setTop (mkF m 6 #[.val (.long p0), .second, .val (.long p1), .second, .val (.int p2), .val (.int (p2 &&& (3 : Int32))), .unset, .unset, .unset, .unset, .unset, .unset, .unset, .unset] []))) ?_ (fun _ k => XS.istore X0.here hx rfl (hb hby at_4) rfl (l' := #[.val (.long p0), .second, .val (.long p1), .second, .val (.int p2), .val (.int (p2 &&& (3 : Int32))), .unset, .unset, .unset, .unset, .unset, .unset, .unset, .unset]) rfl k)
  exact b6 s₁ _ _ X0 e0 N0 Z0 p0 p1 (p2 &&& (3 : Int32)) (.val (.int p2)) (Or.inr ⟨_, rfl, rfl⟩)
theorem own_48 (a c : Int64) : F0_48 a c = 1 := by
  have e : F0_48 a c = F0_78 a c (F5 a c) := rfl
  rw [e]
  by_cases h : a < c
  · have n : ¬ c < a := by rw [Int64.lt_iff_toInt_lt] at *; omega
    have v : F5 a c = -1 := if_pos h
    rw [v]
    simp only [F0_78, if_pos h, F0_85, F0_90, if_neg n]
    decide +kernel
  · by_cases q : a = c
    · subst q
      have v : F5 a a = 0 := by
        have : F5 a a = F5_10 a a := if_neg h
        rw [this]; exact if_pos rfl
      rw [v]
      simp only [F0_78, if_neg h, F0_89, F0_90]
      decide +kernel
    · have g : c < a := by
        rw [Int64.lt_iff_toInt_lt] at *
        have : a.toInt ≠ c.toInt := fun z => q (Int64.toInt_inj.mp z)
        omega
      have v : F5 a c = 1 := by
        have : F5 a c = F5_10 a c := if_neg h
        rw [this]; exact if_neg q
      rw [v]
      simp only [F0_78, if_neg h, F0_89, F0_90, if_pos g]
      decide +kernel
theorem own_law (i0 : Int64) (i1 : Int64) (i2 : Int32) : F0 i0 i1 i2 = 1 := by
  simp only [F0, F0_6, F0_11, F0_17, F0_23, F0_28, F0_31, F0_37, F0_42, F0_45, own_48, ite_self]
set_option maxRecDepth 65536 in
set_option maxHeartbeats 40000000 in
theorem comes_1 {Post : Tables → Env → Array Value → State → Outcome → State → Prop} (hpost : ∀ tb e args s v u, (limb_1_1.after args s (.returned v) u = true ∧ limb_1_2.after args s (.returned v) u = true ∧ True) → FrameEnd s (.returned v) u (Jvm.fieldLocs frame_1_writes args s ++ Jvm.arrayLocs frame_1_arrays args s ++ Jvm.staticLocs frame_1_statics s) 16 128 → Post tb e args s (.returned v) u) :
    ArmFor flags0 classFile x code maxLocals ret World_1 tables_1 room_1 Calls_1 rest_1 Pre_1 Post := by
  intro l hfl _ _ p e ha hc hk s m args below hf hA hF happ hP
  obtain ⟨hcalls, hrest, hpre⟩ := hP
  obtain ⟨-, -, -, hnamed, -, -, -, hat⟩ := (Spec.applies_iff hf).mp happ
  obtain ⟨hg, hn⟩ := and_e (Cond.before_iff.mp (show (Jvm.Cond.and given_1 narrow_1).before args s = true from hpre))
  obtain ⟨h1, r0⟩ := and_e hg
  obtain ⟨k0, r1⟩ := and_e r0
  obtain ⟨k1, r2⟩ := and_e r1
  obtain ⟨w0, w1, w2, rfl⟩ : ∃ w0 w1 w2 : Value, args = #[w0, w1, w2] := by
    have hs : args.size = 3 := by simpa [Cond.value, given_1] using h1
    obtain ⟨L⟩ := args
    match L, hs with
    | [w0, w1, w2], _ => exact ⟨w0, w1, w2, rfl⟩
  have hw := fun d (hd : d ∈ tables_1) => atoms_spec (ws := Jvm.Cond.code x code maxLocals ret :: tables_1) hat d (List.mem_cons_of_mem _ hd)
  obtain ⟨i0, e0⟩ := isL_v k0
  obtain rfl : w0 = (.long i0) := Option.some.inj e0
  obtain ⟨i1, e1⟩ := isL_v k1
  obtain rfl : w1 = (.long i1) := Option.some.inj e1
  obtain ⟨i2, e2⟩ := is_v r2
  obtain rfl : w2 = (.int i2) := Option.some.inj e2
  have val := own_law i0 i1 i2
  obtain ⟨n, o, h1, h2, h3, _, L, rfl, ⟨rfl, N⟩, hq⟩ := rm0 l s _ hw i0 i1 i2 s.heap s.heap.size (Nat.le_refl _)  p e ha hc hk s m _ below hf ((Spec.applies_iff_loose hf).mp happ).1 ⟨rfl, State.Warmed39.refl s, rfl⟩ trivial
  refine ⟨n, _, h1, h2, h3, hpost _ _ _ _ _ _ ⟨Cond.after_iff.mpr rfl, Cond.after_iff.mpr (eq_i res_at (Term.int_eval (1)) (by rw [val])), trivial⟩ ⟨hq.1, hq.2.1, (hq.2.2.sift fun y hy => Or.inr (N y hy)).mono (by decide) (by decide)⟩⟩
theorem main_1_1 : Claimed_1_1 := comes_1 fun _ _ _ _ _ _ h hF => ⟨h.1, hF⟩
theorem main_1_2 : Claimed_1_2 := comes_1 fun _ _ _ _ _ _ h hF => ⟨h.2.1, hF⟩
end Jvm.Pilot.@@N@@
namespace Jvm.Pilot.@@N@@
open Jvm Jvm.ClassFile Sem Op Lib Jvm.Free Jvm.Stand Jvm.Pilot.@@N@@.Jvm.D
/-! MADE BY PROGRAM (witnessworld.py) out of the Statement's table words and the real class files: 15 classes; the members and pool entries that the words name. The judged class is class 1, her method 1. -/
namespace start1
open Jvm.ClassFile
def u (s : String) : CpInfo := .utf8 (stringToUtf16 s)
/-- a pool by its gaps: so many unusable entries, then the entry; so many at the end -/
def gap : Nat → List CpInfo → List CpInfo
  | 0, r => r
  | n + 1, r => .unusable :: gap n r
def poolList (es : List (Nat × CpInfo)) (last : Nat) : List CpInfo := es.foldr (fun e r => gap e.1 (e.2 :: r)) (gap last [])
def pool (es : List (Nat × CpInfo)) (last : Nat) : Array CpInfo := ⟨poolList es last⟩
def fileOf (pool : Array CpInfo) (this : Nat) (attrs : Array Attribute := #[]) (ms : Array MethodInfo := #[]) (fl : Nat := 33) (sup : Nat := 0) (ifs : Array Nat := #[]) (fds : Array FieldInfo := #[]) : ClassFile where
  minorVersion := 0
  majorVersion := 65
  constantPool := pool
  accessFlags := fl
  thisClass := this
  superClass := sup
  interfaces := ifs
  fields := fds
  methods := ms
  attributes := attrs
def plain (name : String) (sup : Option ClassId) : Class where
  name := name
  kind := .ordinary
  loader := none
  accessFlags := 33
  super := sup
  interfaces := #[]
  cf := none
  fields := #[]
  methods := #[]
  instanceTypes := #[]
  staticTypes := #[]
  resolved := #[]
  callSites := []
  init := .initialized
  statics := none
  mirror := none

def pool0 : Array CpInfo := pool [(5, u "<init>"), (0, u "()V"), (1, .class_ 10), (1, u "java/lang/Object")] 113

def k0c0 : Code := { maxStack := 0, maxLocals := 1, code := object_method_1_code, exceptionTable := #[], attributes := #[] }
def k0m0 : Method := { name := "<init>", desc := "()V", sig := { parameters := [], returnType := none }, accessFlags := 1, code := some k0c0 }
/-- java/lang/Object -/
def k0 : Class := { plain "java/lang/Object" none with
  accessFlags := 33
  interfaces := #[]
  cf := some (fileOf pool0 8 #[] #[{ accessFlags := 1, nameIndex := 5, descriptorIndex := 6, attributes := #[] }] 33 0 #[] #[])
  fields := #[]
  methods := #[k0m0]
  instanceTypes := #[]
  staticTypes := #[]
  resolved := Array.replicate 124 none
  statics := none }

def pool1 : Array CpInfo := pool [(2, .class_ 4), (1, u "java/lang/Object"), (0, u "<init>"), (0, u "()V"), (0, .class_ 8), (0, u "com/example/waybill/waybill/core/Money"), (0, .methodref 7 10), (0, .nameAndType 5 11), (0, u "(J)V"), (0, .methodref 7 13), (0, .nameAndType 14 15), (0, u "compareTo"), (0, u "(Lcom/example/waybill/waybill/core/Money;)I"), (0, .class_ 17), (0, u "com/example/waybill/waybill/core/MoneyCompareToPinLaw"), (2, u "law"), (0, u "(JJI)Z")] 3

def k1m0 : Method := { name := "<init>", desc := "()V", sig := { parameters := [], returnType := none }, accessFlags := 2, code := none }
def k1c1 : Code := { maxStack := 4, maxLocals := 14, code := code, exceptionTable := #[], attributes := #[] }
def k1m1 : Method := { name := "law", desc := "(JJI)Z", sig := { parameters := [.long, .long, .int], returnType := some .boolean }, accessFlags := 9, code := some k1c1 }
/-- com/example/waybill/waybill/core/MoneyCompareToPinLaw -/
def k1 : Class := { plain "com/example/waybill/waybill/core/MoneyCompareToPinLaw" (some 0) with
  accessFlags := 49
  interfaces := #[]
  cf := some (fileOf pool1 16 #[] #[{ accessFlags := 2, nameIndex := 5, descriptorIndex := 6, attributes := #[] }, { accessFlags := 9, nameIndex := 20, descriptorIndex := 21, attributes := #[] }] 49 2 #[] #[])
  fields := #[]
  methods := #[k1m0, k1m1]
  instanceTypes := #[]
  staticTypes := #[]
  resolved := Array.replicate 25 none
  statics := none }

def pool2 : Array CpInfo := pool [(1, .methodref 2 3), (0, .class_ 4), (0, .nameAndType 5 6), (0, u "java/lang/Object"), (0, u "<init>"), (0, u "()V"), (0, .class_ 8), (0, u "java/lang/Record")] 13

def k2c0 : Code := { maxStack := 1, maxLocals := 1, code := jdk_30_method_1_code, exceptionTable := #[], attributes := #[] }
def k2m0 : Method := { name := "<init>", desc := "()V", sig := { parameters := [], returnType := none }, accessFlags := 4, code := some k2c0 }
/-- java/lang/Record -/
def k2 : Class := { plain "java/lang/Record" (some 0) with
  accessFlags := 1057
  interfaces := #[]
  cf := some (fileOf pool2 7 #[] #[{ accessFlags := 4, nameIndex := 5, descriptorIndex := 6, attributes := #[] }] 1057 2 #[] #[])
  fields := #[]
  methods := #[k2m0]
  instanceTypes := #[]
  staticTypes := #[]
  resolved := Array.replicate 22 none
  statics := none }

def pool3 : Array CpInfo := pool [(1, .class_ 2), (0, u "java/lang/Comparable"), (0, .class_ 4), (0, u "java/lang/Object")] 7

/-- java/lang/Comparable -/
def k3 : Class := { plain "java/lang/Comparable" (some 0) with
  accessFlags := 1537
  interfaces := #[]
  cf := some (fileOf pool3 1 #[] #[] 1537 3 #[] #[])
  fields := #[]
  methods := #[]
  instanceTypes := #[]
  staticTypes := #[]
  resolved := Array.replicate 12 none
  statics := none }

def pool4 : Array CpInfo := pool [(1, .methodref 2 3), (0, .class_ 4), (0, .nameAndType 5 6), (0, u "java/lang/Record"), (0, u "<init>"), (0, u "()V"), (0, .fieldref 8 9), (0, .class_ 10), (0, .nameAndType 11 12), (0, u "com/example/waybill/waybill/core/Money"), (0, u "cents"), (0, u "J"), (43, u "(J)V"), (18, .methodref 76 77), (0, .class_ 78), (0, .nameAndType 79 80), (0, u "java/lang/Long"), (0, u "compare"), (0, u "(JJ)I"), (10, u "compareTo"), (0, u "(Lcom/example/waybill/waybill/core/Money;)I"), (9, u "ZERO"), (0, u "Lcom/example/waybill/waybill/core/Money;"), (0, .class_ 105), (0, u "java/lang/Comparable"), (0, u "CURRENCY"), (0, u "Ljava/lang/String;")] 47

def k4c0 : Code := { maxStack := 3, maxLocals := 3, code := prog_23_method_1_code, exceptionTable := #[], attributes := #[] }
def k4m0 : Method := { name := "<init>", desc := "(J)V", sig := { parameters := [.long], returnType := none }, accessFlags := 1, code := some k4c0 }
def k4c1 : Code := { maxStack := 4, maxLocals := 2, code := prog_23_method_6_code, exceptionTable := #[], attributes := #[] }
def k4m1 : Method := { name := "compareTo", desc := "(Lcom/example/waybill/waybill/core/Money;)I", sig := { parameters := [(.object "com/example/waybill/waybill/core/Money")], returnType := some .int }, accessFlags := 1, code := some k4c1 }
/-- com/example/waybill/waybill/core/Money -/
def k4 : Class := { plain "com/example/waybill/waybill/core/Money" (some 2) with
  accessFlags := 49
  interfaces := #[3]
  cf := some (fileOf pool4 8 #[] #[{ accessFlags := 1, nameIndex := 5, descriptorIndex := 56, attributes := #[] }, { accessFlags := 1, nameIndex := 91, descriptorIndex := 92, attributes := #[] }] 49 2 #[104] #[{ accessFlags := 18, nameIndex := 11, descriptorIndex := 12, attributes := #[] }, { accessFlags := 25, nameIndex := 106, descriptorIndex := 107, attributes := #[] }, { accessFlags := 25, nameIndex := 102, descriptorIndex := 103, attributes := #[] }])
  fields := #[{ name := "cents", type := .long, accessFlags := 18, slot := 0, constantValue := 0 }, { name := "CURRENCY", type := (.object "java/lang/String"), accessFlags := 25, slot := 0, constantValue := 0 }, { name := "ZERO", type := (.object "com/example/waybill/waybill/core/Money"), accessFlags := 25, slot := 1, constantValue := 0 }]
  methods := #[k4m0, k4m1]
  instanceTypes := #[.long]
  staticTypes := #[(.object "java/lang/String"), (.object "com/example/waybill/waybill/core/Money")]
  resolved := Array.replicate 155 none
  statics := none }

def pool5 : Array CpInfo := pool [(1, .class_ 2), (0, u "java/io/Serializable"), (0, .class_ 4), (0, u "java/lang/Object")] 2

/-- java/io/Serializable -/
def k5 : Class := { plain "java/io/Serializable" (some 0) with
  accessFlags := 1537
  interfaces := #[]
  cf := some (fileOf pool5 1 #[] #[] 1537 3 #[] #[])
  fields := #[]
  methods := #[]
  instanceTypes := #[]
  staticTypes := #[]
  resolved := Array.replicate 7 none
  statics := none }

def pool6 : Array CpInfo := pool [(2, .class_ 4), (1, u "java/lang/Object"), (0, u "<init>"), (0, u "()V"), (1, .class_ 10), (1, u "java/lang/Number"), (2, .class_ 14), (0, u "java/io/Serializable"), (0, u "serialVersionUID"), (0, u "J")] 20

def k6m0 : Method := { name := "<init>", desc := "()V", sig := { parameters := [], returnType := none }, accessFlags := 1, code := none }
/-- java/lang/Number -/
def k6 : Class := { plain "java/lang/Number" (some 0) with
  accessFlags := 1057
  interfaces := #[5]
  cf := some (fileOf pool6 8 #[] #[{ accessFlags := 1, nameIndex := 5, descriptorIndex := 6, attributes := #[] }] 1057 2 #[13] #[{ accessFlags := 26, nameIndex := 15, descriptorIndex := 16, attributes := #[] }])
  fields := #[{ name := "serialVersionUID", type := .long, accessFlags := 26, slot := 0, constantValue := 0 }]
  methods := #[k6m0]
  instanceTypes := #[]
  staticTypes := #[.long]
  resolved := Array.replicate 37 none
  statics := none }

def pool7 : Array CpInfo := pool [(1, .class_ 2), (0, u "java/lang/constant/Constable"), (0, .class_ 4), (0, u "java/lang/Object")] 6

/-- java/lang/constant/Constable -/
def k7 : Class := { plain "java/lang/constant/Constable" (some 0) with
  accessFlags := 1537
  interfaces := #[]
  cf := some (fileOf pool7 1 #[] #[] 1537 3 #[] #[])
  fields := #[]
  methods := #[]
  instanceTypes := #[]
  staticTypes := #[]
  resolved := Array.replicate 11 none
  statics := none }

def pool8 : Array CpInfo := pool [(1, .class_ 2), (0, u "java/lang/constant/ConstantDesc"), (0, .class_ 4), (0, u "java/lang/Object")] 32

/-- java/lang/constant/ConstantDesc -/
def k8 : Class := { plain "java/lang/constant/ConstantDesc" (some 0) with
  accessFlags := 1537
  interfaces := #[]
  cf := some (fileOf pool8 1 #[] #[] 1537 3 #[] #[])
  fields := #[]
  methods := #[]
  instanceTypes := #[]
  staticTypes := #[]
  resolved := Array.replicate 37 none
  statics := none }

def pool9 : Array CpInfo := pool [(1, .class_ 2), (0, u "java/lang/Long"), (232, .class_ 237), (1, u "java/lang/Long$LongCache"), (33, .class_ 272), (0, u "java/lang/Number"), (2, u "value"), (0, u "J"), (27, u "compare"), (0, u "(JJ)I"), (55, u "TYPE"), (0, u "Ljava/lang/Class;"), (0, .class_ 364), (0, u "java/lang/Comparable"), (0, .class_ 366), (0, u "java/lang/constant/Constable"), (0, .class_ 368), (0, u "java/lang/constant/ConstantDesc"), (0, u "MIN_VALUE"), (1, u "MAX_VALUE"), (4, u "SIZE"), (0, u "I"), (1, u "BYTES"), (1, u "serialVersionUID")] 142

def k9c0 : Code := { maxStack := 4, maxLocals := 4, code := jdk_35_method_42_code, exceptionTable := #[], attributes := #[] }
def k9m0 : Method := { name := "compare", desc := "(JJ)I", sig := { parameters := [.long, .long], returnType := some .int }, accessFlags := 9, code := some k9c0 }
/-- java/lang/Long -/
def k9 : Class := { plain "java/lang/Long" (some 6) with
  accessFlags := 49
  interfaces := #[3, 7, 8]
  cf := some (fileOf pool9 1 #[.nestMembers #[235]] #[{ accessFlags := 9, nameIndex := 304, descriptorIndex := 305, attributes := #[] }] 49 271 #[363, 365, 367] #[{ accessFlags := 25, nameIndex := 369, descriptorIndex := 276, attributes := #[] }, { accessFlags := 25, nameIndex := 371, descriptorIndex := 276, attributes := #[] }, { accessFlags := 25, nameIndex := 361, descriptorIndex := 362, attributes := #[] }, { accessFlags := 18, nameIndex := 275, descriptorIndex := 276, attributes := #[] }, { accessFlags := 25, nameIndex := 376, descriptorIndex := 377, attributes := #[] }, { accessFlags := 25, nameIndex := 379, descriptorIndex := 377, attributes := #[] }, { accessFlags := 26, nameIndex := 381, descriptorIndex := 276, attributes := #[] }])
  fields := #[{ name := "MIN_VALUE", type := .long, accessFlags := 25, slot := 0, constantValue := 0 }, { name := "MAX_VALUE", type := .long, accessFlags := 25, slot := 1, constantValue := 0 }, { name := "TYPE", type := (.object "java/lang/Class"), accessFlags := 25, slot := 2, constantValue := 0 }, { name := "value", type := .long, accessFlags := 18, slot := 0, constantValue := 0 }, { name := "SIZE", type := .int, accessFlags := 25, slot := 3, constantValue := 0 }, { name := "BYTES", type := .int, accessFlags := 25, slot := 4, constantValue := 0 }, { name := "serialVersionUID", type := .long, accessFlags := 26, slot := 5, constantValue := 0 }]
  methods := #[k9m0]
  instanceTypes := #[.long]
  staticTypes := #[.long, .long, (.object "java/lang/Class"), .int, .int, .long]
  resolved := Array.replicate 524 none
  statics := none }

def pool10 : Array CpInfo := pool [(1, u "java/lang/Cloneable"), (0, .class_ 1), (0, u "java/lang/Object"), (0, .class_ 3)] 3

/-- java/lang/Cloneable -/
def k10 : Class := { plain "java/lang/Cloneable" (some 0) with
  accessFlags := 1537
  interfaces := #[]
  cf := some (fileOf pool10 2 #[] #[] 1537 4 #[] #[])
  fields := #[]
  methods := #[]
  instanceTypes := #[]
  staticTypes := #[]
  resolved := Array.replicate 8 none
  statics := none }

/-- the primitive byte -/
def k11 : Class := { plain "byte" none with kind := .primitive 'B', accessFlags := 0x411 }
/-- [B -/
def k12 : Class := { plain "[B" (some 0) with kind := .array 11 .byte, interfaces := #[10, 5], accessFlags := 1041 }

/-- the primitive int -/
def k13 : Class := { plain "int" none with kind := .primitive 'I', accessFlags := 0x411 }
/-- [I -/
def k14 : Class := { plain "[I" (some 0) with kind := .array 13 .int, interfaces := #[10, 5], accessFlags := 1041 }

def heap : Heap := #[]
def classes : Array Class := #[k0, k1, k2, k3, k4, k5, k6, k7, k8, k9, k10, k11, k12, k13, k14]
def interned : List (Array UInt16 × Addr) := []
def slotsUsed : Nat := 0
def theMethod : MethodId := ⟨1, 1⟩
def args0 : Array Value := #[.long 5, .long 7, .int 3]
def aboutOver (below : List Frame) : State where
  vm := { classes := classes, interned := interned.toArray }
  heap := heap
  slotsUsed := slotsUsed
  threads := #[{ frames := .invoking theMethod args0 :: below }]
def below0 : List Frame := [.native { method := ⟨0, 0⟩, args := #[] }]
def about1 : State := aboutOver below0
def p0 : Program := .bare "" "" ""
def e0 : Env := launch0.env 0 0 0
theorem w_frames : about1.frames = Frame.invoking theMethod args0 :: below0 := rfl
set_option maxRecDepth 65536 in
theorem w_args : argsFit about1.vm theMethod args0 = true := by decide +kernel
set_option maxRecDepth 65536 in
theorem w_heap : heapFits about1 = true := by decide +kernel
set_option maxRecDepth 65536 in
theorem w_runnable : about1.curStatus? = some .runnable := by decide +kernel
set_option maxRecDepth 65536 in
theorem w_alone : about1.alone = true := by decide +kernel
set_option maxRecDepth 65536 in
theorem w_named : about1.methodNamed? x = some theMethod := by decide +kernel
set_option maxRecDepth 65536 in
theorem w_hears : about1.hears theMethod below0 = true := by decide +kernel
set_option maxRecDepth 65536 in
theorem w_ripe : about1.ripe theMethod args0 below0 = true := by decide +kernel
theorem w_running : about1.status = .running := rfl
set_option maxRecDepth 65536 in
theorem w_room : about1.hasRoom e0.platform room_1 = true :=
  launch0.hasRoom_least _ room_1 (by decide +kernel) (by decide +kernel) (by decide +kernel) (by decide +kernel) (by decide +kernel) (by decide +kernel)
theorem allAtoms_all (ts : List Jvm.Cond) (a : Array Jvm.Value) (st : Jvm.State) : (allAtoms ts).before a st = ts.all (fun c => c.before a st) := by
  induction ts with
  | nil => rfl
  | cons c t ih =>
    show (Jvm.Cond.and c (allAtoms t)).before a st = _
    rw [Jvm.Cond.before_and, ih, List.all_cons]
def words1 : List Jvm.Cond := Jvm.Cond.code x code maxLocals ret :: tables_1
/-- a 'code' word, met by the world's own term for the bytes: nothing is compared byte by byte -/
theorem code_word {y : MethodName} {bytes : ByteArray} {mx : Nat} {rt : Option FieldType} {a : Array Value} {s : State} {m : MethodId} {meth : Method} {c : Code} (h1 : s.methodNamed? y = some m) (h2 : s.vm.method? m = some meth) (h3 : meth.code = some c) (h4 : c.code = bytes)
    (h5 : (c.maxLocals == mx && c.exceptionTable.isEmpty && decide (c.maxStack ≤ mostOperands) && decide (meth.sig.returnType = rt) && !meth.locks && decide (parseMethodDescriptor y.desc = some meth.sig)) = true) : (Jvm.Cond.code y bytes mx rt).before a s = true := by
  simp only [Bool.and_eq_true, beq_iff_eq, Bool.not_eq_true', decide_eq_true_eq] at h5
  obtain ⟨⟨⟨⟨⟨g1, g2⟩, g3⟩, g4⟩, g5⟩, g6⟩ := h5
  simp [Cond.before, Cond.holds, Cond.value, h1, h2, h3, h4, g1, g2, g3, g4, g5, g6]
def isCode : Jvm.Cond → Bool
  | .code _ _ _ _ => true
  | _ => false
theorem all_split {L : List Jvm.Cond} {P : Jvm.Cond → Bool} (h1 : L.all (fun c => isCode c || P c) = true) (h2 : ∀ c ∈ L.filter isCode, P c = true) : L.all P = true := by
  refine List.all_eq_true.mpr fun c hc => ?_
  have h := List.all_eq_true.mp h1 c hc
  rcases Bool.eq_false_or_eq_true (isCode c) with hi | hi
  · exact h2 c (List.mem_filter.mpr ⟨hc, hi⟩)
  · simpa [hi] using h
set_option maxRecDepth 65536 in
theorem w_c0 : (Jvm.Cond.code x code maxLocals ret).before args0 about1 = true := code_word (m := ⟨1, 1⟩) (meth := k1m1) (c := k1c1) (by decide +kernel) rfl rfl rfl (by decide +kernel)
set_option maxRecDepth 65536 in
theorem w_c1 : (Jvm.Cond.code ({ cls := "com/example/waybill/waybill/core/Money", name := "<init>", desc := "(J)V" } : Jvm.MethodName) prog_23_method_1_code (3 : Nat) (Option.none : Option Jvm.ClassFile.FieldType)).before args0 about1 = true := code_word (m := ⟨4, 0⟩) (meth := k4m0) (c := k4c0) (by decide +kernel) rfl rfl rfl (by decide +kernel)
set_option maxRecDepth 65536 in
theorem w_c2 : (Jvm.Cond.code ({ cls := "java/lang/Record", name := "<init>", desc := "()V" } : Jvm.MethodName) jdk_30_method_1_code (1 : Nat) (Option.none : Option Jvm.ClassFile.FieldType)).before args0 about1 = true := code_word (m := ⟨2, 0⟩) (meth := k2m0) (c := k2c0) (by decide +kernel) rfl rfl rfl (by decide +kernel)
set_option maxRecDepth 65536 in
theorem w_c3 : (Jvm.Cond.code ({ cls := "java/lang/Object", name := "<init>", desc := "()V" } : Jvm.MethodName) object_method_1_code (1 : Nat) (Option.none : Option Jvm.ClassFile.FieldType)).before args0 about1 = true := code_word (m := ⟨0, 0⟩) (meth := k0m0) (c := k0c0) (by decide +kernel) rfl rfl rfl (by decide +kernel)
set_option maxRecDepth 65536 in
theorem w_c4 : (Jvm.Cond.code ({ cls := "com/example/waybill/waybill/core/Money", name := "compareTo", desc := "(Lcom/example/waybill/waybill/core/Money;)I" } : Jvm.MethodName) prog_23_method_6_code (2 : Nat) (Option.some Jvm.ClassFile.FieldType.int)).before args0 about1 = true := code_word (m := ⟨4, 1⟩) (meth := k4m1) (c := k4c1) (by decide +kernel) rfl rfl rfl (by decide +kernel)
set_option maxRecDepth 65536 in
theorem w_c5 : (Jvm.Cond.code ({ cls := "java/lang/Long", name := "compare", desc := "(JJ)I" } : Jvm.MethodName) jdk_35_method_42_code (4 : Nat) (Option.some Jvm.ClassFile.FieldType.int)).before args0 about1 = true := code_word (m := ⟨9, 0⟩) (meth := k9m0) (c := k9c0) (by decide +kernel) rfl rfl rfl (by decide +kernel)
def codes1 : List Jvm.Cond := [Jvm.Cond.code x code maxLocals ret, Jvm.Cond.code ({ cls := "com/example/waybill/waybill/core/Money", name := "<init>", desc := "(J)V" } : Jvm.MethodName) prog_23_method_1_code (3 : Nat) (Option.none : Option Jvm.ClassFile.FieldType), Jvm.Cond.code ({ cls := "java/lang/Record", name := "<init>", desc := "()V" } : Jvm.MethodName) jdk_30_method_1_code (1 : Nat) (Option.none : Option Jvm.ClassFile.FieldType), Jvm.Cond.code ({ cls := "java/lang/Object", name := "<init>", desc := "()V" } : Jvm.MethodName) object_method_1_code (1 : Nat) (Option.none : Option Jvm.ClassFile.FieldType), Jvm.Cond.code ({ cls := "com/example/waybill/waybill/core/Money", name := "compareTo", desc := "(Lcom/example/waybill/waybill/core/Money;)I" } : Jvm.MethodName) prog_23_method_6_code (2 : Nat) (Option.some Jvm.ClassFile.FieldType.int), Jvm.Cond.code ({ cls := "java/lang/Long", name := "compare", desc := "(JJ)I" } : Jvm.MethodName) jdk_35_method_42_code (4 : Nat) (Option.some Jvm.ClassFile.FieldType.int)]
set_option maxRecDepth 65536 in
theorem codes_eq : words1.filter isCode = codes1 := rfl
theorem w_codes : ∀ c ∈ words1.filter isCode, c.before args0 about1 = true := by
  rw [codes_eq]
  intro c hc
  simp only [codes1, List.mem_cons, List.not_mem_nil, or_false] at hc
  rcases hc with rfl | rfl | rfl | rfl | rfl | rfl
  · exact w_c0
  · exact w_c1
  · exact w_c2
  · exact w_c3
  · exact w_c4
  · exact w_c5
set_option maxRecDepth 65536 in
theorem w_t1 : (words1.take 24).all (fun c => isCode c || c.before args0 about1) = true := by decide +kernel
set_option maxRecDepth 65536 in
theorem w_t2 : (words1.drop 24).all (fun c => isCode c || c.before args0 about1) = true := by decide +kernel
theorem w_tables : (allAtoms (Jvm.Cond.code x code maxLocals ret :: tables_1)).before args0 about1 = true := by
  rw [allAtoms_all]
  show words1.all (fun c => c.before args0 about1) = true
  refine all_split ?_ w_codes
  rw [← List.take_append_drop 24 words1, List.all_append, w_t1, w_t2]
  rfl
set_option maxRecDepth 65536 in
theorem w_case : (Jvm.Cond.and given_1 narrow_1).before args0 about1 = true := by decide +kernel
theorem w_applies : (headSpec (Jvm.Cond.code x code maxLocals ret :: tables_1) room_1).applies x e0.platform about1 = true :=
  (Spec.applies_iff w_frames).mpr ⟨w_running, w_runnable, w_alone, w_named, w_hears, w_ripe, w_room, w_tables⟩
theorem atStart : AtStart classFile x code maxLocals ret World_1 tables_1 room_1 Calls_1 rest_1 Pre_1 launch0 p0 e0 about1 theMethod args0 below0 :=
  ⟨lists_1, trivial, launch0.admits_env _ _ _, launch0.least_env, fairChoices_fair.cas, fairChoices_fair.clock, w_frames, w_args, w_heap, w_applies, trivial, trivial, w_case⟩
end start1
theorem witness_1 : WitnessClaimed_1 := ⟨start1.p0, start1.e0, start1.about1, start1.theMethod, start1.args0, start1.below0, start1.atStart⟩
end Jvm.Pilot.@@N@@
