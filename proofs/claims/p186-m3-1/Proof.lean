import JvmDerived
import JvmDerived.Pilot.@@N@@Statement
import JvmDerived.Pilot.@@N@@Code
set_option linter.unusedVariables false
set_option linter.unusedSimpArgs false
namespace Jvm.RoadKit
open Sem ClassFile Op Lib Jvm.Stand Jvm.Free Jvm.LawKit
section New
variable {p : Program} {l : Launch} {e : Env} {R : Room} {s : State} {m : MethodId} {args : Array Value} {below : List Frame} {meth : Method} {c : Code} {T : State} {locs : List Loc} {cells slots : Nat}
theorem retI (X : Stand p l e R s m args below meth c T locs cells slots) (hx : p.tables.exec = Jvm.exec) {pc : Nat} {Ls : Array Slot} {z : Int32} {rest : List Value} (hret : meth.sig.returnType = some .int) (hd : decode c.code pc = .ok (.ireturn, 1)) {fs : List Frame}
    (hl : ∀ (f : JFrame) (acts : List Action), f.method = m → f.locked = none → f.entered = [] → (doReturn e (T.setTop f) acts (some (.int z))).1 = T.setFrames fs) : Steps p.tables e below (T.setTop (mkF m pc Ls (.int z :: rest))) (T.setFrames fs) := by
  have hm' : T.vm.method? m = some meth := X.method'
  have hn : narrow .int (.int z) = .int z := rfl
  show Steps p.tables e below (T.setTop { method := m, pc := pc, locals := Ls, stack := _ :: rest, locked := none }) _
  jvm_step X.here [X.here.top, hx, hd, hm', hret, hn]
  first | (intro acts; rw [hl _ acts rfl rfl rfl]) | rw [hl _ _ rfl rfl rfl]
  exact Steps.refl _
end New
end Jvm.RoadKit
namespace Jvm.Pilot.@@N@@
open Jvm Jvm.ClassFile Sem Op Lib Jvm.Free Jvm.Stand Jvm.LawKit Jvm.RoadKit Bundle Jvm.Pilot.@@N@@.Jvm.D
/-! ### the frame of this text: 'Ends': the run from u ends in a return that Q says -/
section OwnFrame
variable {p : Program} {l : Launch} {e : Env} {R : Room} {s : State} {m : MethodId} {args : Array Value} {below : List Frame} {meth : Method} {c : Code} {T : State} {locs : List Loc} {cells slots cs ss : Nat} {Z : State} {a0 : Array Value} {h h' : Heap} {Q : Option Value → Heap → List Loc → Prop} {u u' : State}
def Ends (p : Program) (e : Env) (below : List Frame) (s : State) (cs ss : Nat) (Q : Option Value → Heap → List Loc → Prop) (u : State) : Prop :=
  ∃ t v L, Steps p.tables e below u t ∧ t.status = .running ∧ Ended t below (.returned v) ∧ Q v t.heap L ∧ s.WarmedH t.vm ∧ s.sameButNew ({ t with vm := s.vm } : State) L cs ss
theorem Ends.step (h : Ends p e below s cs ss Q u') (k : ∀ t, Steps p.tables e below u' t → Steps p.tables e below u t) : Ends p e below s cs ss Q u := by
  obtain ⟨t, v, L, h1, r⟩ := h; exact ⟨t, v, L, k t h1, r⟩
theorem Ends.ret (X : Stand p l e R s m args below meth c T locs cells slots) {v : Option Value} (hv : meth.sig.returnType = none → v = none) (hlk : meth.locks = false)
    (k : ∀ fs, (∀ (f : JFrame) (acts : List Action), f.method = m → f.locked = none → f.entered = [] → (doReturn e (T.setTop f) acts v).1 = T.setFrames fs) → Steps p.tables e below u (T.setFrames fs))
    (hc : cells ≤ cs) (hs : slots ≤ ss) (hq : Q v T.heap locs) : Ends p e below s cs ss Q u := by
  obtain ⟨fs, hr, hrun, hended, hW, hsame⟩ := X.leave (v := v) hv hlk
  exact ⟨T.setFrames fs, v, locs, k fs hr, hrun, hended, hq, hW, hsame.mono hc hs⟩
/-- what a body promises -/
abbrev Meets (l : Launch) (Z : State) (y : MethodName) (bytes : ByteArray) (maxL : Nat) (ret : Option FieldType) (ws : List Jvm.Cond) (rm : Room) (as' : Array Value) (h : Heap) (Q : Option Value → Heap → List Loc → Prop) (cs ss : Nat) : Prop :=
  MetFree l y (head1 (Jvm.Cond.code y bytes maxL ret :: ws) rm) (fun a U => a = as' ∧ Z.Warmed39 U.vm ∧ U.heap = h) (fun _ _ _ _ _ => True) (fun _ U o U' => ∃ v L, o = .returned v ∧ Q v U'.heap L ∧ FrameEnd U o U' L cs ss)
theorem Meets.of {y : MethodName} {bytes : ByteArray} {maxL : Nat} {ret : Option FieldType} {ws : List Jvm.Cond} {rm : Room} {as' : Array Value} (pn : plainFor y = true)
    (k : ∀ (p : Program) (e : Env) (s : State) (m : MethodId) (below : List Frame) (meth : Method) (c : Code) (s₁ : State), p.tables.exec = Jvm.exec → c.code = bytes → c.maxLocals = maxL → Z.Warmed39 s.vm → s.vm.findClass y.cls = some m.cls → meth.name = y.name → meth.sig.returnType = ret → meth.locks = false →
      Stand p l e rm s m as' below meth c s₁ [] 0 0 → s₁.heap = h → Ends p e below s cs ss Q (s₁.setTop (entryFrame m as' maxL))) : Meets l Z y bytes maxL ret ws rm as' h Q cs ss := by
  refine MetFree.of_bodySF pn hisR ?_
  intro p e s m args below meth c s₁ Bd hml0 hP hK
  obtain ⟨rfl, hZ, hh⟩ := hP
  obtain ⟨t, v, L, h1, h2, h3, h4, h5, h6⟩ := k p e s m below meth c s₁ Bd.exec Bd.bytes hml0 hZ (findClass_of_methodNamed Bd.named) (name_of_methodNamed Bd.named Bd.method).1 Bd.returns (BodyLoose.notSynchronized Bd) (Stand.of_body Bd) (by rw [← hh, Bd.state]; rfl)
  exact ⟨t, .returned v, h1, h2, h3, v, L, rfl, h4, ⟨_, rfl⟩, h5, h6⟩
theorem Ends.callS (X : Stand p l e R s m args below meth c T locs cells slots) (hx : p.tables.exec = Jvm.exec) (hZ : Z.Warmed39 s.vm) {own : String} {index : Nat} {y : MethodName} {bytes : ByteArray} {maxL : Nat} {ret : Option FieldType}
    (hown : s.vm.findClass own = some m.cls) (w1 : (Jvm.Cond.methodLink own index y).before a0 Z = true) (w2 : (Jvm.Cond.static y).before a0 Z = true) (w3 : (Jvm.Cond.initialized y.cls).before a0 Z = true) (w4 : (Jvm.Cond.code y bytes maxL ret).before a0 Z = true)
    (hy : y.cls ≠ "java/lang/invoke/MethodHandle" ∧ y.cls ≠ "java/lang/invoke/VarHandle") {rm : Room} {as' : Array Value} {Q' : Option Value → Heap → List Loc → Prop} (hM : Meets l Z y bytes maxL ret [] rm as' h Q' rm.cells rm.slots)
    (W : Nat) (hf : rm.frames + 1 ≤ R.frames) (hl : W + (maxL + 11) + rm.locals ≤ R.locals) (eT : T.heap = h) {g : JFrame} (hg : g.method = m) (hsize : g.locals.size = c.maxLocals) (argsL rest : List Value)
    (hlen : ∀ sig, parseMethodDescriptor y.desc = some sig → argsL.length = sig.parameters.length) (hstack : g.stack = argsL.reverse ++ rest) (hW : 2 * g.monitorRoom + (rest.map fun v => v.category).sum ≤ W) (hdg : decode c.code g.pc = .ok (.invokestatic index, 3))
    (ha : argsL.toArray = as') (hc : cells + rm.cells ≤ R.cells) (hs : slots + rm.slots ≤ R.slots)
    (k : ∀ v T' L, Stand p l e R s m args below meth c T' (locs ++ L) (cells + rm.cells) (slots + rm.slots) → Q' v T'.heap L → Ends p e below s cs ss Q (T'.setTop { g with pc := g.pc + 3, stack := v.toList ++ rest })) : Ends p e below s cs ss Q (T.setTop g) := by
  obtain ⟨v, _, ⟨T', L', k', n'⟩, -, X', ⟨Lc, hQ, rfl, rfl, rfl⟩, st⟩ := Jvm.LawKit.callS X hx (y := y) hown (mvT hZ w1) (mvT hZ w2) (mvT hZ w3) (mvT hZ w4) hy (backOf (W := W) hM hZ w4 w3 hf hl) hg hsize (argsL := argsL) (rest := rest) hlen hstack hW hdg (fun _ _ => ⟨ha, eT, hc, hs⟩)
  exact (k v T' Lc X' hQ).step st
theorem Ends.callC (X : Stand p l e R s m args below meth c T locs cells slots) (hx : p.tables.exec = Jvm.exec) (hZ : Z.Warmed39 s.vm) {own : String} {index : Nat} {y : MethodName} {bytes : ByteArray} {maxL : Nat} (hy1 : y.name = "<init>")
    (hown : s.vm.findClass own = some m.cls) (w1 : (Jvm.Cond.methodLink own index y).before a0 Z = true) (w2 : (Jvm.Cond.instanceMethod y).before a0 Z = true) (w3 : (Jvm.Cond.initialized y.cls).before a0 Z = true) (w4 : (Jvm.Cond.code y bytes maxL none).before a0 Z = true)
    (hy : y.cls ≠ "java/lang/invoke/MethodHandle" ∧ y.cls ≠ "java/lang/invoke/VarHandle") {rm : Room} {as' : Array Value} {Q' : Option Value → Heap → List Loc → Prop} (hM : Meets l Z y bytes maxL none [] rm as' h Q' rm.cells rm.slots)
    (W : Nat) (hf : rm.frames + 1 ≤ R.frames) (hl : W + (maxL + 11) + rm.locals ≤ R.locals) (eT : T.heap = h) {g : JFrame} (hg : g.method = m) (hsize : g.locals.size = c.maxLocals) (a : Addr) (argsL rest : List Value)
    (hlen : ∀ sig, parseMethodDescriptor y.desc = some sig → argsL.length = sig.parameters.length) (hstack : g.stack = argsL.reverse ++ .ref a :: rest) (hW : 2 * g.monitorRoom + (rest.map fun v => v.category).sum ≤ W) (hdg : decode c.code g.pc = .ok (.invokespecial index, 3))
    (ha : (.ref a :: argsL).toArray = as') (hc : cells + rm.cells ≤ R.cells) (hs : slots + rm.slots ≤ R.slots)
    (k : ∀ v T' L, Stand p l e R s m args below meth c T' (locs ++ L) (cells + rm.cells) (slots + rm.slots) → Q' v T'.heap L → Ends p e below s cs ss Q (T'.setTop { g with pc := g.pc + 3, stack := v.toList ++ rest })) : Ends p e below s cs ss Q (T.setTop g) := by
  obtain ⟨v, _, ⟨T', L', k', n'⟩, -, X', ⟨Lc, hQ, rfl, rfl, rfl⟩, st⟩ := X.specialBack hx (y := y) hy1 hown (mvT hZ w1) (mvT hZ w2) (mvT hZ w4) hy (backOf (W := W) hM hZ w4 w3 hf hl) hg hsize (Steps.refl _) (a := a) (argsL := argsL) (rest := rest) hlen hstack hW hdg (fun _ _ => ⟨ha, eT, hc, hs⟩)
  exact (k v T' Lc X' hQ).step (fun _ q => st.trans q)
theorem Ends.callV (X : Stand p l e R s m args below meth c T locs cells slots) (hx : p.tables.exec = Jvm.exec) (hZ : Z.Warmed39 s.vm) {own C : String} {index : Nat} {y : MethodName} {bytes : ByteArray} {maxL : Nat} {ret : Option FieldType}
    (hown : s.vm.findClass own = some m.cls) (w1 : (Jvm.Cond.methodLink own index y).before a0 Z = true) (wd : (Jvm.Cond.declares y).before a0 Z = true) (wsel : (Jvm.Cond.selects C y y).before a0 Z = true) (w2 : (Jvm.Cond.instanceMethod y).before a0 Z = true) (w3 : (Jvm.Cond.initialized y.cls).before a0 Z = true) (w4 : (Jvm.Cond.code y bytes maxL ret).before a0 Z = true)
    (hy : y.cls ≠ "java/lang/invoke/MethodHandle" ∧ y.cls ≠ "java/lang/invoke/VarHandle") {rm : Room} {as' : Array Value} {Q' : Option Value → Heap → List Loc → Prop} (hM : Meets l Z y bytes maxL ret [] rm as' h Q' rm.cells rm.slots)
    (W : Nat) (hf : rm.frames + 1 ≤ R.frames) (hl : W + (maxL + 11) + rm.locals ≤ R.locals) (eT : T.heap = h) (a : Addr) (E : Exa Z h a C) {g : JFrame} (hg : g.method = m) (hsize : g.locals.size = c.maxLocals) (argsL rest : List Value)
    (hlen : ∀ sig, parseMethodDescriptor y.desc = some sig → argsL.length = sig.parameters.length) (hstack : g.stack = argsL.reverse ++ .ref a :: rest) (hW : 2 * g.monitorRoom + (rest.map fun v => v.category).sum ≤ W) (hdg : decode c.code g.pc = .ok (.invokevirtual index, 3))
    (ha : (.ref a :: argsL).toArray = as') (hc : cells + rm.cells ≤ R.cells) (hs : slots + rm.slots ≤ R.slots)
    (k : ∀ v T' L, Stand p l e R s m args below meth c T' (locs ++ L) (cells + rm.cells) (slots + rm.slots) → Q' v T'.heap L → Ends p e below s cs ss Q (T'.setTop { g with pc := g.pc + 3, stack := v.toList ++ rest })) : Ends p e below s cs ss Q (T.setTop g) := by
  obtain ⟨cq, kq, q1, q2, q3⟩ := isOf (T := T) hZ eT E
  obtain ⟨v, _, ⟨T', L', k', n'⟩, -, X', ⟨Lc, hQ, rfl, rfl, rfl⟩, st⟩ := X.virtualBack hx (y := y) (z := y) hown (mvT hZ w1) (mvT hZ wd) (notFace_of_selects (args := #[]) (mvT hZ wsel)) (mvT hZ wsel) (mvT hZ w2) hy (backOf (W := W) hM hZ w4 w3 hf hl) q1 q3 hg hsize (Steps.refl _) (argsL := argsL) (rest := rest) hlen hstack hW hdg (fun _ _ => ⟨ha, eT, hc, hs⟩)
  exact (k v T' Lc X' hQ).step (fun _ q => st.trans q)
/-! ### arrays of small numbers: what each place holds, as a function -/
def Ar (Z : State) (h : Heap) (a : Addr) (ty : FieldType) (n : Nat) (f : Nat → Int32) : Prop := ∃ cl : Cell, Arr Z h a cl ty ∧ cl.slots.size = n ∧ n < 2 ^ 31 ∧ ∀ i, i < n → cl.slots[i]? = some (.int (f i))
def upd (f : Nat → Int32) (j : Nat) (v : Int32) : Nat → Int32 := fun i => if i = j then v else f i
def inb (j : Int32) (n : Nat) : Prop := ¬ (j < 0 ∨ n ≤ j.toNatClampNeg)
variable {a b : Addr} {ty : FieldType} {n sl : Nat} {f : Nat → Int32} {v : Value} {wsA : List Addr}
theorem Ar.lt (A : Ar Z h a ty n f) : a < h.size := by obtain ⟨cl, A1, -⟩ := A; exact A1.lt
theorem Ar.ext (A : Ar Z h a ty n f) (E : Ext h h') : Ar Z h' a ty n f := by obtain ⟨cl, A1, r⟩ := A; exact ⟨cl, A1.ext E, r⟩
theorem Ar.other (A : Ar Z h b ty n f) (W : Wr h h' a sl v) (q : b ≠ a) : Ar Z h' b ty n f := by obtain ⟨cl, A1, r⟩ := A; exact ⟨cl, A1.other W q, r⟩
theorem Ar.keep (A : Ar Z h a ty n f) (K : Keep h h' wsA) (q : a ∉ wsA) : Ar Z h' a ty n f := by obtain ⟨cl, A1, r⟩ := A; exact ⟨cl, ⟨K.2.1 a cl A1.1 q, A1.2⟩, r⟩
theorem Ar.small (A : Ar Z h a ty n f) : n < 2 ^ 31 := by obtain ⟨cl, A1, -, r, -⟩ := A; exact r
theorem Ar.set {j : Int32} {x : Int32} (A : Ar Z h a ty n f) (W : Wr h h' a j.toNatClampNeg (.int x)) : Ar Z h' a ty n (upd f j.toNatClampNeg x) := by
  obtain ⟨cl, A1, r1, r2, r3⟩ := A
  refine ⟨_, A1.same W, by rw [sz_set]; exact r1, r2, fun i hi => ?_⟩
  by_cases q : i = j.toNatClampNeg
  · subst q; simp [Cell.setSlot, upd, r1, hi]
  · simp only [Cell.setSlot, upd, if_neg q]; rw [Array.getElem?_setIfInBounds_ne (fun z => q z.symm)]; exact r3 i hi
theorem Ar.new {cA : ClassId} {k : Int32} (A : Arr Z h a (newA cA ty k) ty) (q : ¬ k < 0) (hd : defaultValue ty = .int 0) : Ar Z h a ty k.toNatClampNeg (fun _ => 0) :=
  ⟨_, A, sz_new _ _ _, (back32 q).2, fun i hi => by simp [newA, hi, hd]⟩
theorem Ends.newA (X : Stand p l e R s m args below meth c T locs cells slots) (hx : p.tables.exec = Jvm.exec) (hZ : Z.Warmed39 s.vm) {aty : ArrayType} (w : (Jvm.Cond.arrayClass (newarray.typeOf aty)).before a0 Z = true) (eT : T.heap = h) {g : JFrame} (hg : g.method = m) (hd : decode c.code g.pc = .ok (.newarray aty, 2)) {k : Int32} {rest : List Value} (hs : g.stack = .int k :: rest)
    (hdf : defaultValue (newarray.typeOf aty) = .int 0) (hn : ¬ k < 0) (cap : Nat) (hcap : k.toNatClampNeg ≤ cap) (hb : cap * 8 ≤ 536870912) (hc : cells + 1 ≤ R.cells) (hl : slots + cap ≤ R.slots)
    (kk : ∀ T' h' a, Stand p l e R s m args below meth c T' locs (cells + 1) (slots + cap) → T'.heap = h' → Ext h h' → h.size = a → Ar Z h' a (newarray.typeOf aty) k.toNatClampNeg (fun _ => 0) → Ends p e below s cs ss Q (T'.setTop { g with pc := g.pc + 2, stack := .ref a :: rest })) : Ends p e below s cs ss Q (T.setTop g) := by
  obtain ⟨T', h', cA, X', e', E, A, st⟩ := newP X hx hZ w eT hg hd hs hn hcap hb hc hl
  exact (kk T' h' h.size X' e' E rfl (Ar.new A hn hdf)).step st
theorem Ends.iaload (X : Stand p l e R s m args below meth c T locs cells slots) (hx : p.tables.exec = Jvm.exec) (hZ : Z.Warmed39 s.vm) (eT : T.heap = h) (A : Ar Z h a .int n f) {j : Int32} (hj : inb j n) {g : JFrame} (hg : g.method = m) {rest : List Value} (hs : g.stack = .int j :: .ref a :: rest) (hd : decode c.code g.pc = .ok (.iaload, 1))
    (k : Ends p e below s cs ss Q (T.setTop { g with pc := g.pc + 1, stack := .int (f j.toNatClampNeg) :: rest })) : Ends p e below s cs ss Q (T.setTop g) := by
  obtain ⟨cl, A1, r1, -, r3⟩ := A
  subst r1
  exact k.step (X.iaload hx (by rw [eT]; exact A1.1) (State.isArrayOf_alike hZ.alike A1.2.1) A1.2.2 hj (r3 _ (Nat.lt_of_not_le fun q => hj (Or.inr q))) hg hs hd)
theorem Ends.baload (X : Stand p l e R s m args below meth c T locs cells slots) (hx : p.tables.exec = Jvm.exec) (hZ : Z.Warmed39 s.vm) (eT : T.heap = h) (A : Ar Z h a .byte n f) {j : Int32} (hj : inb j n) {g : JFrame} (hg : g.method = m) {rest : List Value} (hs : g.stack = .int j :: .ref a :: rest) (hd : decode c.code g.pc = .ok (.baload, 1))
    (k : Ends p e below s cs ss Q (T.setTop { g with pc := g.pc + 1, stack := .int (f j.toNatClampNeg) :: rest })) : Ends p e below s cs ss Q (T.setTop g) := by
  obtain ⟨cl, A1, r1, -, r3⟩ := A
  subst r1
  exact k.step (X.baloadBytes hx (by rw [eT]; exact A1.1) (State.isArrayOf_alike hZ.alike A1.2.1) A1.2.2 hj (r3 _ (Nat.lt_of_not_le fun q => hj (Or.inr q))) hg hs hd)
theorem Ends.arrlen (X : Stand p l e R s m args below meth c T locs cells slots) (hx : p.tables.exec = Jvm.exec) (hZ : Z.Warmed39 s.vm) (eT : T.heap = h) (A : Ar Z h a ty n f) {g : JFrame} (hg : g.method = m) {rest : List Value} (hs : g.stack = .ref a :: rest) (hd : decode c.code g.pc = .ok (.arraylength, 1))
    (k : Ends p e below s cs ss Q (T.setTop { g with pc := g.pc + 1, stack := .int (Nat.toInt32 n) :: rest })) : Ends p e below s cs ss Q (T.setTop g) := by
  obtain ⟨cl, A1, r1, -, r3⟩ := A
  subst r1
  exact k.step (X.arraylength hx (by rw [eT]; exact A1.1) (State.isArrayOf_alike hZ.alike A1.2.1) hg hs hd)
theorem Ends.iastore (X : Stand p l e R s m args below meth c T locs cells slots) (hx : p.tables.exec = Jvm.exec) (hZ : Z.Warmed39 s.vm) (eT : T.heap = h) (A : Ar Z h a .int n f) {j x : Int32} (hj : inb j n) {n0 : Nat} (N : Fr n0 locs) (ge : n0 ≤ a) {g : JFrame} (hg : g.method = m) {rest : List Value} (hs : g.stack = .int x :: .int j :: .ref a :: rest) (hd : decode c.code g.pc = .ok (.iastore, 1))
    (k : ∀ T' h' sl, Stand p l e R s m args below meth c T' (locs ++ [⟨a, sl⟩]) cells slots → T'.heap = h' → Fr n0 (locs ++ [⟨a, sl⟩]) → Wr h h' a sl (.int x) → Ar Z h' a .int n (upd f j.toNatClampNeg x) → Ends p e below s cs ss Q (T'.setTop { g with pc := g.pc + 1, stack := rest })) : Ends p e below s cs ss Q (T.setTop g) := by
  obtain ⟨cl, A1, r1, r2, r3⟩ := A
  obtain ⟨T', h', X', e', W, st⟩ := stI X hx hZ eT A1 (by rw [r1]; exact hj) hg hs hd
  exact (k T' h' _ X' e' (Fr.snoc X' N ge) W (Ar.set ⟨cl, A1, r1, r2, r3⟩ W)).step st
theorem Ends.bastore (X : Stand p l e R s m args below meth c T locs cells slots) (hx : p.tables.exec = Jvm.exec) (hZ : Z.Warmed39 s.vm) (eT : T.heap = h) (A : Ar Z h a .byte n f) {j x : Int32} (hj : inb j n) {n0 : Nat} (N : Fr n0 locs) (ge : n0 ≤ a) {g : JFrame} (hg : g.method = m) {rest : List Value} (hs : g.stack = .int x :: .int j :: .ref a :: rest) (hd : decode c.code g.pc = .ok (.bastore, 1))
    (k : ∀ T' h' sl, Stand p l e R s m args below meth c T' (locs ++ [⟨a, sl⟩]) cells slots → T'.heap = h' → Fr n0 (locs ++ [⟨a, sl⟩]) → Wr h h' a sl (.int (nar .byte x)) → Ar Z h' a .byte n (upd f j.toNatClampNeg (nar .byte x)) → Ends p e below s cs ss Q (T'.setTop { g with pc := g.pc + 1, stack := rest })) : Ends p e below s cs ss Q (T.setTop g) := by
  obtain ⟨cl, A1, r1, r2, r3⟩ := A
  obtain ⟨T', h', X', e', W, st⟩ := stB X hx hZ eT A1 (by rw [r1]; exact hj) hg hs hd
  exact (k T' h' _ X' e' (Fr.snoc X' N ge) W (Ar.set ⟨cl, A1, r1, r2, r3⟩ W)).step st
theorem Ends.getF (X : Stand p l e R s m args below meth c T locs cells slots) (hx : p.tables.exec = Jvm.exec) (hZ : Z.Warmed39 s.vm) {own O fn d : String} {index : Nat} (hown : s.vm.findClass own = some m.cls) (w : (Jvm.Cond.fieldLink own index O fn d).before a0 Z = true) (eT : T.heap = h) (F : Fld Z h a O fn d v) {g : JFrame} (hg : g.method = m) {rest : List Value} (hs : g.stack = .ref a :: rest) (hd : decode c.code g.pc = .ok (.getfield index, 3))
    (k : ∀ T', Stand p l e R s m args below meth c T' locs cells slots → T'.heap = h → Ends p e below s cs ss Q (T'.setTop { g with pc := g.pc + 3, stack := v :: rest })) : Ends p e below s cs ss Q (T.setTop g) := by
  obtain ⟨T', X', e', st⟩ := Jvm.RoadKit.getF X hx hZ hown (host := "") (Or.inl w) Via.refl eT F hg hs hd
  exact (k T' X' e').step st
theorem Ends.putF (X : Stand p l e R s m args below meth c T locs cells slots) (hx : p.tables.exec = Jvm.exec) (hZ : Z.Warmed39 s.vm) {own O fn d : String} {index kk : Nat} {tf : FieldType} {old : Value} (hown : s.vm.findClass own = some m.cls) (w : (Jvm.Cond.fieldLink own index O fn d).before a0 Z = true) (eT : T.heap = h) (F : Fld Z h a O fn d old) (E : Exa Z h a O) (L : (Jvm.Cond.lays O O fn d).before a0 Z = true ∨ ((Jvm.Cond.laysFinal O O fn d).before a0 Z = true ∧ own = O ∧ meth.name = "<init>")) (wi : (Jvm.Cond.instantiable O kk).before a0 Z = true)
    (hty : parseFieldDescriptor d = some tf) (hn : narrow tf v = v) (hf : fits tf v = true) {n0 : Nat} (N : Fr n0 locs) (ge : n0 ≤ a) {g : JFrame} (hg : g.method = m) {rest : List Value} (hs : g.stack = v :: .ref a :: rest) (hd : decode c.code g.pc = .ok (.putfield index, 3))
    (k : ∀ T' h', Stand p l e R s m args below meth c T' (locs ++ [⟨a, Jvm.RoadKit.slotOf Z O fn d⟩]) cells slots → T'.heap = h' → Fr n0 (locs ++ [⟨a, Jvm.RoadKit.slotOf Z O fn d⟩]) → Wr h h' a (Jvm.RoadKit.slotOf Z O fn d) v → Ends p e below s cs ss Q (T'.setTop { g with pc := g.pc + 3, stack := rest })) : Ends p e below s cs ss Q (T.setTop g) := by
  obtain ⟨T', h', X', e', W, st⟩ := Jvm.RoadKit.putF X hx hZ hown (host := "") (Or.inl w) Via.refl eT F E L wi hty hn hf hg hs hd
  exact (k T' h' X' e' (Fr.snoc X' N ge) W).step st
theorem Ends.newO (X : Stand p l e R s m args below meth c T locs cells slots) (hx : p.tables.exec = Jvm.exec) (hZ : Z.Warmed39 s.vm) {own C : String} {index k : Nat} (hown : s.vm.findClass own = some m.cls) (w : (Jvm.Cond.classLink own index C).before a0 Z = true) (wi : (Jvm.Cond.instantiable C k).before a0 Z = true) (wz : (Jvm.Cond.initialized C).before a0 Z = true) (eT : T.heap = h)
    {g : JFrame} (hg : g.method = m) (hd : decode c.code g.pc = .ok (.new index, 3)) (hc : cells + 1 ≤ R.cells) (hl : slots + k ≤ R.slots)
    (kk : ∀ T' h' a, Stand p l e R s m args below meth c T' locs (cells + 1) (slots + k) → T'.heap = h' → Ext h h' → h.size = a → Exa Z h' a C → (∀ {O nm d : String} {ty : FieldType}, Laid Z a0 C O nm d → parseFieldDescriptor d = some ty → Fld Z h' a O nm d (defaultValue ty)) → Ends p e below s cs ss Q (T'.setTop { g with pc := g.pc + 3, stack := .ref a :: g.stack })) : Ends p e below s cs ss Q (T.setTop g) := by
  obtain ⟨T', h', X', e', E, A, D, -, st⟩ := Jvm.RoadKit.newO X hx hZ hown w wi wz eT hg hd hc hl
  exact (kk T' h' _ X' e' E rfl A D).step st
theorem Ends.initO (X : Stand p l e R s m args below meth c T locs cells slots) (hx : p.tables.exec = Jvm.exec) (hZ : Z.Warmed39 s.vm) {own : String} {idx : Nat} (hown : s.vm.findClass own = some m.cls) (w1 : (Jvm.Cond.methodLink own idx Lib.objectInit).before a0 Z = true) (w2 : (Jvm.Cond.instanceMethod Lib.objectInit).before a0 Z = true)
    (w3 : (Jvm.Cond.code Lib.objectInit ⟨#[0xb1]⟩ 1 none).before a0 Z = true) (eT : T.heap = h) {g : JFrame} (hg : g.method = m) (hsize : g.locals.size = c.maxLocals) {rest : List Value} (hs : g.stack = .ref a :: rest) (hd : decode c.code g.pc = .ok (.invokespecial idx, 3))
    (hf : 1 ≤ R.frames) (W : Nat) (hW : 2 * g.monitorRoom + (rest.map fun v => v.category).sum ≤ W) (hl : W + 12 ≤ R.locals)
    (k : ∀ T', Stand p l e R s m args below meth c T' locs cells slots → T'.heap = h → Ends p e below s cs ss Q (T'.setTop { g with pc := g.pc + 3, stack := rest })) : Ends p e below s cs ss Q (T.setTop g) := by
  obtain ⟨T', X', e', st⟩ := Jvm.RoadKit.initO X hx hZ hown w1 w2 w3 eT hg hsize hs hd hf hW hl
  exact (k T' X' e').step st
def OneS (o : Slot) : Prop := o = .unset ∨ ∃ w, o = .val w ∧ w.category = 1
theorem storeL {ls : Array Slot} {i : Nat} {x : Int64} {o o' : Slot} (h1 : ls[i]? = some o) (h2 : ls[i + 1]? = some o') (p1 : OneS o) (p2 : OneS o') : storeLocals ls i (.long x) = some ((ls.setIfInBounds i (.val (.long x))).setIfInBounds (i + 1) .second) := by
  have l1 : i < ls.size := (Array.getElem?_eq_some_iff.mp h1).1
  have l2 : i + 1 < ls.size := (Array.getElem?_eq_some_iff.mp h2).1
  have e2 : (ls.setIfInBounds i (.val (.long x)))[i + 1]? = some o' := by rw [Array.getElem?_setIfInBounds_ne (by omega)]; exact h2
  have q : storeSelf ls i (.long x) = some ((ls.setIfInBounds i (.val (.long x))).setIfInBounds (i + 1) .second) := by
    have cat : (Value.long x).category = 2 := rfl
    simp only [storeSelf, setAt, if_pos l1, cat, if_true, Option.bind_eq_bind, Option.bind_some, e2]
    rcases p2 with rfl | ⟨w, rfl, hw⟩
    · simp [l2]
    · simp [l2, hw]
  simp only [storeLocals, h1, Option.bind_eq_bind, Option.bind_some]
  rcases p1 with rfl | ⟨w, rfl, hw⟩
  · exact q
  · simp only [hw]; exact q
end OwnFrame
-- body 1
def F1_21 (t0 : Int32) : Int32 := (nar .boolean t0)
def F1_16  : Int32 := (F1_21 (1 : Int32))
def F1_20  : Int32 := (F1_21 (0 : Int32))
def F1_6 (x0 : Int64) (x2 : Int64) : Int32 := if x0 < ((-9223372036854775808 : Int64) + x2) then F1_20 else F1_16
def F1_37 (t0 : Int32) : Int32 := (nar .boolean t0)
def F1_32  : Int32 := (F1_37 (1 : Int32))
def F1_36  : Int32 := (F1_37 (0 : Int32))
def F1_22 (x0 : Int64) (x2 : Int64) : Int32 := if ((9223372036854775807 : Int64) + x2) < x0 then F1_36 else F1_32
def F1 (p0 : Int64) (p1 : Int64) : Int32 := if (0 : Int64) < p1 then (F1_6 p0 p1) else (F1_22 p0 p1)
-- body 3
def F3  : Unit := ()
-- body 2
def F2 (p1 : Int64) (o0_cents : Int64) : Int64 := p1
-- body 6
def F6_18  : Int64 := default
def O6_18  : Prop := False
def F6_28 (x4 : Int64) : Int64 := x4
def F6_5 (x0 : Int64) (x2 : Int64) (x4 : Int64) : Int64 := if ((x0 ^^^ x2) &&& (x0 ^^^ x4)) < (0 : Int64) then F6_18 else (F6_28 x4)
def O6_5 (x0 : Int64) (x2 : Int64) (x4 : Int64) : Prop := (((x0 ^^^ x2) &&& (x0 ^^^ x4)) < (0 : Int64) → O6_18) ∧ (¬ ((x0 ^^^ x2) &&& (x0 ^^^ x4)) < (0 : Int64) → True)
def F6 (p0 : Int64) (p1 : Int64) : Int64 := (F6_5 p0 p1 (p0 - p1))
def O6 (p0 : Int64) (p1 : Int64) : Prop := (O6_5 p0 p1 (p0 - p1))
-- body 5
def F5 (o0_cents : Int64) (o1_cents : Int64) : Int64 := (F2 (F6 o0_cents o1_cents) (0 : Int64))
def O5 (o0_cents : Int64) (o1_cents : Int64) : Prop := (O6 o0_cents o1_cents) ∧ True
-- body 7
def F7 (o0_cents : Int64) : Int64 := o0_cents
-- body 0
def F0_8  : Int32 := (nar .boolean (1 : Int32))
def F0_76 (t0 : Int32) : Int32 := (nar .boolean t0)
def F0_71  : Int32 := (F0_76 (1 : Int32))
def F0_75  : Int32 := (F0_76 (0 : Int32))
def F0_61 (cq20_cents : Int64) (x2 : Int64) : Int32 := if (F7 cq20_cents) = x2 then F0_71 else F0_75
def F0_51 (cq10_cents : Int64) (cq20_cents : Int64) (x0 : Int64) (x2 : Int64) : Int32 := if (F7 cq10_cents) = x0 then (F0_61 cq20_cents x2) else F0_75
def F0_10 (x0 : Int64) (x2 : Int64) : Int32 := if (F7 (F5 (F2 x0 (0 : Int64)) (F2 x2 (0 : Int64)))) = (x0 - x2) then (F0_51 (F2 x0 (0 : Int64)) (F2 x2 (0 : Int64)) x0 x2) else F0_75
def O0_10 (x0 : Int64) (x2 : Int64) : Prop := (O5 (F2 x0 (0 : Int64)) (F2 x2 (0 : Int64))) ∧ ((F7 (F5 (F2 x0 (0 : Int64)) (F2 x2 (0 : Int64)))) = (x0 - x2) → True) ∧ (¬ (F7 (F5 (F2 x0 (0 : Int64)) (F2 x2 (0 : Int64)))) = (x0 - x2) → True)
def F0 (p0 : Int64) (p1 : Int64) : Int32 := if (F1 p0 p1) = 0 then F0_8 else (F0_10 p0 p1)
def O0 (p0 : Int64) (p1 : Int64) : Prop := ((F1 p0 p1) = 0 → True) ∧ (¬ (F1 p0 p1) = 0 → (O0_10 p0 p1))
theorem pd_0 : parseMethodDescriptor "()V" = some ⟨[], none⟩ := by decide +kernel
theorem pd_1 : parseMethodDescriptor "(JJ)J" = some ⟨[.long, .long], (some .long)⟩ := by decide +kernel
theorem pd_2 : parseMethodDescriptor "(J)V" = some ⟨[.long], none⟩ := by decide +kernel
theorem pd_3 : parseMethodDescriptor "(JJ)Z" = some ⟨[.long, .long], (some .boolean)⟩ := by decide +kernel
theorem pd_4 : parseMethodDescriptor "(Lcom/example/waybill/waybill/core/Money;)Lcom/example/waybill/waybill/core/Money;" = some ⟨[(.object "com/example/waybill/waybill/core/Money")], (some (.object "com/example/waybill/waybill/core/Money"))⟩ := by decide +kernel
theorem pd_5 : parseMethodDescriptor "()J" = some ⟨[], (some .long)⟩ := by decide +kernel
theorem d1_0 : decode method_2_code 0 = .ok (.lload_n 2, 1) := by decide +kernel
theorem d1_1 : decode method_2_code 1 = .ok (.lconst 0, 1) := by decide +kernel
theorem d1_2 : decode method_2_code 2 = .ok (.lcmp, 1) := by decide +kernel
theorem d1_3 : decode method_2_code 3 = .ok (.ifCond .le 19, 3) := by decide +kernel
theorem d1_6 : decode method_2_code 6 = .ok (.lload_n 0, 1) := by decide +kernel
theorem d1_7 : decode method_2_code 7 = .ok (.ldc2_w 9, 3) := by decide +kernel
theorem d1_10 : decode method_2_code 10 = .ok (.lload_n 2, 1) := by decide +kernel
theorem d1_11 : decode method_2_code 11 = .ok (.ladd, 1) := by decide +kernel
theorem d1_12 : decode method_2_code 12 = .ok (.lcmp, 1) := by decide +kernel
theorem d1_13 : decode method_2_code 13 = .ok (.ifCond .lt 7, 3) := by decide +kernel
theorem d1_16 : decode method_2_code 16 = .ok (.iconst 1, 1) := by decide +kernel
theorem d1_17 : decode method_2_code 17 = .ok (.goto 4, 3) := by decide +kernel
theorem d1_20 : decode method_2_code 20 = .ok (.iconst 0, 1) := by decide +kernel
theorem d1_21 : decode method_2_code 21 = .ok (.ireturn, 1) := by decide +kernel
theorem d1_22 : decode method_2_code 22 = .ok (.lload_n 0, 1) := by decide +kernel
theorem d1_23 : decode method_2_code 23 = .ok (.ldc2_w 11, 3) := by decide +kernel
theorem d1_26 : decode method_2_code 26 = .ok (.lload_n 2, 1) := by decide +kernel
theorem d1_27 : decode method_2_code 27 = .ok (.ladd, 1) := by decide +kernel
theorem d1_28 : decode method_2_code 28 = .ok (.lcmp, 1) := by decide +kernel
theorem d1_29 : decode method_2_code 29 = .ok (.ifCond .gt 7, 3) := by decide +kernel
theorem d1_32 : decode method_2_code 32 = .ok (.iconst 1, 1) := by decide +kernel
theorem d1_33 : decode method_2_code 33 = .ok (.goto 4, 3) := by decide +kernel
theorem d1_36 : decode method_2_code 36 = .ok (.iconst 0, 1) := by decide +kernel
theorem d1_37 : decode method_2_code 37 = .ok (.ireturn, 1) := by decide +kernel
theorem pn_1 : plainFor (⟨"com/example/waybill/waybill/core/MoneyMinusPinLaw", "fits", "(JJ)Z"⟩ : MethodName) = true := by first | exact plainFor_of_name (by first | (simp [plainName, overriddenIn]; done) | decide +kernel) | decide +kernel
theorem ef_1 (m : MethodId) (y0 : Int64) (y1 : Int64) : entryFrame m #[(.long y0), (.long y1)] 4 = mkF m 0 #[.val (.long y0), .second, .val (.long y1), .second] [] := by first | (simp [entryFrame, mkF, argsToLocals, Value.category]; done) | rfl
def Q1 (Z : State)   (h0 : Heap) (n0 : Nat) (ans : Int32) (v : Option Value) (h : Heap) (L : List Loc) : Prop := v = some (.int ans) ∧ Fr n0 L ∧ h = h0
set_option maxRecDepth 65536 in
set_option maxHeartbeats 40000000 in
theorem rm1 (l : Launch) (Z : State) (a0 : Array Value) (hw : ∀ d ∈ tables_1, d.before a0 Z = true) (p0 : Int64) (p1 : Int64)  (h0 : Heap) (n0 : Nat) (Z0 : n0 ≤ h0.size)  :
    Meets l Z (⟨"com/example/waybill/waybill/core/MoneyMinusPinLaw", "fits", "(JJ)Z"⟩ : MethodName) method_2_code 4 (some .boolean) [] ({ frames := 0, cells := 0, slots := 0, locals := 0 } : Room) #[(.long p0), (.long p1)] h0 (Q1 Z  h0 n0 (F1 p0 p1)) 0 0 := by
  refine Meets.of pn_1 ?_
  intro p e s m below meth c s₁ hx hby hml hZ hown hnm hret hlk X0 e0
  have hml : c.maxLocals = 4 := hml
  have hown : s.vm.findClass "com/example/waybill/waybill/core/MoneyMinusPinLaw" = some m.cls := hown
  have N0 := Fr.nil n0
  have b21 : ∀ (T : State) (L : List Loc) (X : Stand p l e ({ frames := 0, cells := 0, slots := 0, locals := 0 } : Room) s m #[(.long p0), (.long p1)] below meth c T L 0 0) (eT : T.heap = h0) (N : Fr n0 L) (t0 : Int32) (z0 : Int64) (z2 : Int64), Ends p e below s 0 0 (Q1 Z  h0 n0 (F1_21 t0)) (T.setTop (mkF m 21 #[.val (.long z0), .second, .val (.long z2), .second] [(.int t0)])) := by
    intro T L X eT N t0 z0 z2
    exact Ends.ret X (v := some (.int (nar .boolean t0))) (fun q => by rw [hret] at q; cases q) hlk (fun fs hr => retN X hx (t := .boolean) hret (by simp) (hb hby d1_21) hr) (by decide) (by decide) ⟨rfl, N, eT⟩
  have b16 : ∀ (T : State) (L : List Loc) (X : Stand p l e ({ frames := 0, cells := 0, slots := 0, locals := 0 } : Room) s m #[(.long p0), (.long p1)] below meth c T L 0 0) (eT : T.heap = h0) (N : Fr n0 L) (z0 : Int64) (z2 : Int64), Ends p e below s 0 0 (Q1 Z  h0 n0 F1_16) (T.setTop (mkF m 16 #[.val (.long z0), .second, .val (.long z2), .second] [])) := by
    intro T L X eT N z0 z2
    refine Ends.step (u' := (T.setTop (mkF m 17 #[.val (.long z0), .second, .val (.long z2), .second] [(.int (1 : Int32))]))) ?_ (fun _ k => XT.iconstV X.here hx rfl (1 : Int32) (hb hby d1_16) rfl k)
    refine Ends.step (u' := (T.setTop (mkF m 21 #[.val (.long z0), .second, .val (.long z2), .second] [(.int (1 : Int32))]))) ?_ (fun _ k => XS.goto X.here hx rfl (pc0 := 17) (pc' := 21) rfl (hb hby d1_17) (by decide) (by decide) k)
    exact b21 T _ X eT N (1 : Int32) z0 z2
  have b20 : ∀ (T : State) (L : List Loc) (X : Stand p l e ({ frames := 0, cells := 0, slots := 0, locals := 0 } : Room) s m #[(.long p0), (.long p1)] below meth c T L 0 0) (eT : T.heap = h0) (N : Fr n0 L) (z0 : Int64) (z2 : Int64), Ends p e below s 0 0 (Q1 Z  h0 n0 F1_20) (T.setTop (mkF m 20 #[.val (.long z0), .second, .val (.long z2), .second] [])) := by
    intro T L X eT N z0 z2
    refine Ends.step (u' := (T.setTop (mkF m 21 #[.val (.long z0), .second, .val (.long z2), .second] [(.int (0 : Int32))]))) ?_ (fun _ k => XT.iconstV X.here hx rfl (0 : Int32) (hb hby d1_20) rfl k)
    exact b21 T _ X eT N (0 : Int32) z0 z2
  have b6 : ∀ (T : State) (L : List Loc) (X : Stand p l e ({ frames := 0, cells := 0, slots := 0, locals := 0 } : Room) s m #[(.long p0), (.long p1)] below meth c T L 0 0) (eT : T.heap = h0) (N : Fr n0 L) (x0 : Int64) (x2 : Int64), Ends p e below s 0 0 (Q1 Z  h0 n0 (F1_6 x0 x2)) (T.setTop (mkF m 6 #[.val (.long x0), .second, .val (.long x2), .second] [])) := by
    intro T L X eT N x0 x2
    refine Ends.step (u' := (T.setTop (mkF m 7 #[.val (.long x0), .second, .val (.long x2), .second] [(.long x0)]))) ?_ (fun _ k => XT.lloadN X.here hx rfl (hb hby d1_6) rfl k)
    refine Ends.step (u' := (T.setTop (mkF m 10 #[.val (.long x0), .second, .val (.long x2), .second] [(.long (-9223372036854775808 : Int64)), (.long x0)]))) ?_ (fun _ k => X.ldc2J hx hown (mvT hZ (hw _ (List.mem_of_getElem? (i := 4) rfl))) rfl (hb hby d1_7) k)
    refine Ends.step (u' := (T.setTop (mkF m 11 #[.val (.long x0), .second, .val (.long x2), .second] [(.long x2), (.long (-9223372036854775808 : Int64)), (.long x0)]))) ?_ (fun _ k => XT.lloadN X.here hx rfl (hb hby d1_10) rfl k)
    refine Ends.step (u' := (T.setTop (mkF m 12 #[.val (.long x0), .second, .val (.long x2), .second] [(.long ((-9223372036854775808 : Int64) + x2)), (.long x0)]))) ?_ (fun _ k => XT.ladd X.here hx rfl (hb hby d1_11) rfl k)
    refine Ends.step (u' := (T.setTop (mkF m 13 #[.val (.long x0), .second, .val (.long x2), .second] [(.int (XT.cmpL x0 ((-9223372036854775808 : Int64) + x2)))]))) ?_ (fun _ k => XT.lcmp X.here hx rfl (hb hby d1_12) rfl k)
    by_cases hc13 : x0 < ((-9223372036854775808 : Int64) + x2)
    · refine Eq.mp (congrArg (fun z => Ends p e below s 0 0 (Q1 Z  h0 n0 z) (T.setTop (mkF m 13 #[.val (.long x0), .second, .val (.long x2), .second] [(.int (XT.cmpL x0 ((-9223372036854775808 : Int64) + x2)))]))) (show (F1_6 x0 x2) = F1_20 from (if_pos hc13)).symm) ?_
      refine Ends.step (u' := (T.setTop (mkF m 20 #[.val (.long x0), .second, .val (.long x2), .second] []))) ?_ (fun _ k => XS.ifYes X.here hx rfl (pc0 := 13) (pc' := 20) rfl (hb hby d1_13) rfl (XT.ll_lt_t hc13) (by decide) (by decide) k)
      exact b20 T _ X eT N x0 x2
    · refine Eq.mp (congrArg (fun z => Ends p e below s 0 0 (Q1 Z  h0 n0 z) (T.setTop (mkF m 13 #[.val (.long x0), .second, .val (.long x2), .second] [(.int (XT.cmpL x0 ((-9223372036854775808 : Int64) + x2)))]))) (show (F1_6 x0 x2) = F1_16 from (if_neg hc13)).symm) ?_
      refine Ends.step (u' := (T.setTop (mkF m 16 #[.val (.long x0), .second, .val (.long x2), .second] []))) ?_ (fun _ k => XS.ifNo X.here hx rfl (hb hby d1_13) rfl (XT.ll_lt_f hc13) k)
      exact b16 T _ X eT N x0 x2
  have b37 : ∀ (T : State) (L : List Loc) (X : Stand p l e ({ frames := 0, cells := 0, slots := 0, locals := 0 } : Room) s m #[(.long p0), (.long p1)] below meth c T L 0 0) (eT : T.heap = h0) (N : Fr n0 L) (t0 : Int32) (z0 : Int64) (z2 : Int64), Ends p e below s 0 0 (Q1 Z  h0 n0 (F1_37 t0)) (T.setTop (mkF m 37 #[.val (.long z0), .second, .val (.long z2), .second] [(.int t0)])) := by
    intro T L X eT N t0 z0 z2
    exact Ends.ret X (v := some (.int (nar .boolean t0))) (fun q => by rw [hret] at q; cases q) hlk (fun fs hr => retN X hx (t := .boolean) hret (by simp) (hb hby d1_37) hr) (by decide) (by decide) ⟨rfl, N, eT⟩
  have b32 : ∀ (T : State) (L : List Loc) (X : Stand p l e ({ frames := 0, cells := 0, slots := 0, locals := 0 } : Room) s m #[(.long p0), (.long p1)] below meth c T L 0 0) (eT : T.heap = h0) (N : Fr n0 L) (z0 : Int64) (z2 : Int64), Ends p e below s 0 0 (Q1 Z  h0 n0 F1_32) (T.setTop (mkF m 32 #[.val (.long z0), .second, .val (.long z2), .second] [])) := by
    intro T L X eT N z0 z2
    refine Ends.step (u' := (T.setTop (mkF m 33 #[.val (.long z0), .second, .val (.long z2), .second] [(.int (1 : Int32))]))) ?_ (fun _ k => XT.iconstV X.here hx rfl (1 : Int32) (hb hby d1_32) rfl k)
    refine Ends.step (u' := (T.setTop (mkF m 37 #[.val (.long z0), .second, .val (.long z2), .second] [(.int (1 : Int32))]))) ?_ (fun _ k => XS.goto X.here hx rfl (pc0 := 33) (pc' := 37) rfl (hb hby d1_33) (by decide) (by decide) k)
    exact b37 T _ X eT N (1 : Int32) z0 z2
  have b36 : ∀ (T : State) (L : List Loc) (X : Stand p l e ({ frames := 0, cells := 0, slots := 0, locals := 0 } : Room) s m #[(.long p0), (.long p1)] below meth c T L 0 0) (eT : T.heap = h0) (N : Fr n0 L) (z0 : Int64) (z2 : Int64), Ends p e below s 0 0 (Q1 Z  h0 n0 F1_36) (T.setTop (mkF m 36 #[.val (.long z0), .second, .val (.long z2), .second] [])) := by
    intro T L X eT N z0 z2
    refine Ends.step (u' := (T.setTop (mkF m 37 #[.val (.long z0), .second, .val (.long z2), .second] [(.int (0 : Int32))]))) ?_ (fun _ k => XT.iconstV X.here hx rfl (0 : Int32) (hb hby d1_36) rfl k)
    exact b37 T _ X eT N (0 : Int32) z0 z2
  have b22 : ∀ (T : State) (L : List Loc) (X : Stand p l e ({ frames := 0, cells := 0, slots := 0, locals := 0 } : Room) s m #[(.long p0), (.long p1)] below meth c T L 0 0) (eT : T.heap = h0) (N : Fr n0 L) (x0 : Int64) (x2 : Int64), Ends p e below s 0 0 (Q1 Z  h0 n0 (F1_22 x0 x2)) (T.setTop (mkF m 22 #[.val (.long x0), .second, .val (.long x2), .second] [])) := by
    intro T L X eT N x0 x2
    refine Ends.step (u' := (T.setTop (mkF m 23 #[.val (.long x0), .second, .val (.long x2), .second] [(.long x0)]))) ?_ (fun _ k => XT.lloadN X.here hx rfl (hb hby d1_22) rfl k)
    refine Ends.step (u' := (T.setTop (mkF m 26 #[.val (.long x0), .second, .val (.long x2), .second] [(.long (9223372036854775807 : Int64)), (.long x0)]))) ?_ (fun _ k => X.ldc2J hx hown (mvT hZ (hw _ (List.mem_of_getElem? (i := 37) rfl))) rfl (hb hby d1_23) k)
    refine Ends.step (u' := (T.setTop (mkF m 27 #[.val (.long x0), .second, .val (.long x2), .second] [(.long x2), (.long (9223372036854775807 : Int64)), (.long x0)]))) ?_ (fun _ k => XT.lloadN X.here hx rfl (hb hby d1_26) rfl k)
    refine Ends.step (u' := (T.setTop (mkF m 28 #[.val (.long x0), .second, .val (.long x2), .second] [(.long ((9223372036854775807 : Int64) + x2)), (.long x0)]))) ?_ (fun _ k => XT.ladd X.here hx rfl (hb hby d1_27) rfl k)
    refine Ends.step (u' := (T.setTop (mkF m 29 #[.val (.long x0), .second, .val (.long x2), .second] [(.int (XT.cmpL x0 ((9223372036854775807 : Int64) + x2)))]))) ?_ (fun _ k => XT.lcmp X.here hx rfl (hb hby d1_28) rfl k)
    by_cases hc29 : ((9223372036854775807 : Int64) + x2) < x0
    · refine Eq.mp (congrArg (fun z => Ends p e below s 0 0 (Q1 Z  h0 n0 z) (T.setTop (mkF m 29 #[.val (.long x0), .second, .val (.long x2), .second] [(.int (XT.cmpL x0 ((9223372036854775807 : Int64) + x2)))]))) (show (F1_22 x0 x2) = F1_36 from (if_pos hc29)).symm) ?_
      refine Ends.step (u' := (T.setTop (mkF m 36 #[.val (.long x0), .second, .val (.long x2), .second] []))) ?_ (fun _ k => XS.ifYes X.here hx rfl (pc0 := 29) (pc' := 36) rfl (hb hby d1_29) rfl (XT.ll_gt_t hc29) (by decide) (by decide) k)
      exact b36 T _ X eT N x0 x2
    · refine Eq.mp (congrArg (fun z => Ends p e below s 0 0 (Q1 Z  h0 n0 z) (T.setTop (mkF m 29 #[.val (.long x0), .second, .val (.long x2), .second] [(.int (XT.cmpL x0 ((9223372036854775807 : Int64) + x2)))]))) (show (F1_22 x0 x2) = F1_32 from (if_neg hc29)).symm) ?_
      refine Ends.step (u' := (T.setTop (mkF m 32 #[.val (.long x0), .second, .val (.long x2), .second] []))) ?_ (fun _ k => XS.ifNo X.here hx rfl (hb hby d1_29) rfl (XT.ll_gt_f hc29) k)
      exact b32 T _ X eT N x0 x2
  refine Ends.step (u' := (s₁.setTop (mkF m 0 #[.val (.long p0), .second, .val (.long p1), .second] []))) ?_ (fun _ k => castTop (ef_1 m p0 p1) k)
  refine Ends.step (u' := (s₁.setTop (mkF m 1 #[.val (.long p0), .second, .val (.long p1), .second] [(.long p1)]))) ?_ (fun _ k => XT.lloadN X0.here hx rfl (hb hby d1_0) rfl k)
  refine Ends.step (u' := (s₁.setTop (mkF m 2 #[.val (.long p0), .second, .val (.long p1), .second] [(.long (0 : Int64)), (.long p1)]))) ?_ (fun _ k => XT.lconstV X0.here hx rfl (0 : Int64) (hb hby d1_1) rfl k)
  refine Ends.step (u' := (s₁.setTop (mkF m 3 #[.val (.long p0), .second, .val (.long p1), .second] [(.int (XT.cmpL p1 (0 : Int64)))]))) ?_ (fun _ k => XT.lcmp X0.here hx rfl (hb hby d1_2) rfl k)
  by_cases hc3 : (0 : Int64) < p1
  · refine Eq.mp (congrArg (fun z => Ends p e below s 0 0 (Q1 Z  h0 n0 z) (s₁.setTop (mkF m 3 #[.val (.long p0), .second, .val (.long p1), .second] [(.int (XT.cmpL p1 (0 : Int64)))]))) (show (F1 p0 p1) = (F1_6 p0 p1) from (if_pos hc3)).symm) ?_
    refine Ends.step (u' := (s₁.setTop (mkF m 6 #[.val (.long p0), .second, .val (.long p1), .second] []))) ?_ (fun _ k => XS.ifNo X0.here hx rfl (hb hby d1_3) rfl (XT.ll_le_f hc3) k)
    exact b6 s₁ _ X0 e0 N0 p0 p1
  · refine Eq.mp (congrArg (fun z => Ends p e below s 0 0 (Q1 Z  h0 n0 z) (s₁.setTop (mkF m 3 #[.val (.long p0), .second, .val (.long p1), .second] [(.int (XT.cmpL p1 (0 : Int64)))]))) (show (F1 p0 p1) = (F1_22 p0 p1) from (if_neg hc3)).symm) ?_
    refine Ends.step (u' := (s₁.setTop (mkF m 22 #[.val (.long p0), .second, .val (.long p1), .second] []))) ?_ (fun _ k => XS.ifYes X0.here hx rfl (pc0 := 3) (pc' := 22) rfl (hb hby d1_3) rfl (XT.ll_le_t hc3) (by decide) (by decide) k)
    exact b22 s₁ _ X0 e0 N0 p0 p1
theorem d3_0 : decode jdk_30_method_1_code 0 = .ok (.aload_n 0, 1) := by decide +kernel
theorem d3_1 : decode jdk_30_method_1_code 1 = .ok (.invokespecial 1, 3) := by decide +kernel
theorem d3_4 : decode jdk_30_method_1_code 4 = .ok (.return_, 1) := by decide +kernel
theorem pn_3 : plainFor (⟨"java/lang/Record", "<init>", "()V"⟩ : MethodName) = true := by first | exact plainFor_of_name (by first | (simp [plainName, overriddenIn]; done) | decide +kernel) | decide +kernel
theorem ef_3 (m : MethodId) (y0 : Addr) : entryFrame m #[(.ref y0)] 1 = mkF m 0 #[.val (.ref y0)] [] := by first | (simp [entryFrame, mkF, argsToLocals, Value.category]; done) | rfl
def Q3 (Z : State) (a_o0 : Addr)  (h0 : Heap) (n0 : Nat) (ans : Unit) (v : Option Value) (h : Heap) (L : List Loc) : Prop := v = none ∧ Fr n0 L ∧ h = h0
set_option maxRecDepth 65536 in
set_option maxHeartbeats 40000000 in
theorem rm3 (l : Launch) (Z : State) (a0 : Array Value) (hw : ∀ d ∈ tables_1, d.before a0 Z = true)  (a_o0 : Addr) (h0 : Heap) (n0 : Nat) (Z0 : n0 ≤ h0.size)  :
    Meets l Z (⟨"java/lang/Record", "<init>", "()V"⟩ : MethodName) jdk_30_method_1_code 1 none [] ({ frames := 1, cells := 0, slots := 0, locals := 12 } : Room) #[(.ref a_o0)] h0 (Q3 Z a_o0 h0 n0 F3) 0 0 := by
  refine Meets.of pn_3 ?_
  intro p e s m below meth c s₁ hx hby hml hZ hown hnm hret hlk X0 e0
  have hml : c.maxLocals = 1 := hml
  have hown : s.vm.findClass "java/lang/Record" = some m.cls := hown
  have N0 := Fr.nil n0
  refine Ends.step (u' := (s₁.setTop (mkF m 0 #[.val (.ref a_o0)] []))) ?_ (fun _ k => castTop (ef_3 m a_o0) k)
  refine Ends.step (u' := (s₁.setTop (mkF m 1 #[.val (.ref a_o0)] [(.ref a_o0)]))) ?_ (fun _ k => XS.aloadN X0.here hx rfl (hb hby d3_0) rfl rfl k)
  refine Ends.initO X0 hx hZ hown (hw _ (List.mem_of_getElem? (i := 16) rfl)) (hw _ (List.mem_of_getElem? (i := 17) rfl)) (hw _ (List.mem_of_getElem? (i := 18) rfl)) e0 (g := (mkF m 1 #[.val (.ref a_o0)] [(.ref a_o0)])) rfl (by rw [hml]; rfl) rfl (hb hby d3_1) (by decide) 0 (by show 2 * 0 + _ ≤ _; exact Nat.le_of_eq rfl) (by decide) (fun T1 X1 e1 => ?_)
  show Ends p e below s _ _ _ (T1.setTop (mkF m 4 #[.val (.ref a_o0)] []))
  exact Ends.ret X1 (v := none) (fun _ => rfl) hlk (fun fs hr => X1.returnOut hx hret (hb hby d3_4) hr) (by decide) (by decide) ⟨rfl, N0, e1⟩
theorem d2_0 : decode prog_23_method_1_code 0 = .ok (.aload_n 0, 1) := by decide +kernel
theorem d2_1 : decode prog_23_method_1_code 1 = .ok (.invokespecial 1, 3) := by decide +kernel
theorem d2_4 : decode prog_23_method_1_code 4 = .ok (.aload_n 0, 1) := by decide +kernel
theorem d2_5 : decode prog_23_method_1_code 5 = .ok (.lload_n 1, 1) := by decide +kernel
theorem d2_6 : decode prog_23_method_1_code 6 = .ok (.putfield 7, 3) := by decide +kernel
theorem d2_9 : decode prog_23_method_1_code 9 = .ok (.return_, 1) := by decide +kernel
theorem pn_2 : plainFor (⟨"com/example/waybill/waybill/core/Money", "<init>", "(J)V"⟩ : MethodName) = true := by first | exact plainFor_of_name (by first | (simp [plainName, overriddenIn]; done) | decide +kernel) | decide +kernel
theorem ef_2 (m : MethodId) (y0 : Addr) (y1 : Int64) : entryFrame m #[(.ref y0), (.long y1)] 3 = mkF m 0 #[.val (.ref y0), .val (.long y1), .second] [] := by first | (simp [entryFrame, mkF, argsToLocals, Value.category]; done) | rfl
def Q2 (Z : State) (a_o0 : Addr) (o0_cents : Int64) (h0 : Heap) (n0 : Nat) (ans : Int64) (v : Option Value) (h : Heap) (L : List Loc) : Prop := v = none ∧ Fr n0 L ∧ Keep h0 h [a_o0] ∧ Fld Z h a_o0 "com/example/waybill/waybill/core/Money" "cents" "J" (.long ans)
set_option maxRecDepth 65536 in
set_option maxHeartbeats 40000000 in
theorem rm2 (l : Launch) (Z : State) (a0 : Array Value) (hw : ∀ d ∈ tables_1, d.before a0 Z = true) (p1 : Int64) (o0_cents : Int64) (a_o0 : Addr) (h0 : Heap) (n0 : Nat) (Z0 : n0 ≤ h0.size) (E_o0 : Exa Z h0 a_o0 "com/example/waybill/waybill/core/Money") (F_o0_cents : Fld Z h0 a_o0 "com/example/waybill/waybill/core/Money" "cents" "J" (.long o0_cents)) (g_o0 : n0 ≤ a_o0) :
    Meets l Z (⟨"com/example/waybill/waybill/core/Money", "<init>", "(J)V"⟩ : MethodName) prog_23_method_1_code 3 none [] ({ frames := 2, cells := 0, slots := 0, locals := 24 } : Room) #[(.ref a_o0), (.long p1)] h0 (Q2 Z a_o0 o0_cents h0 n0 (F2 p1 o0_cents)) 0 0 := by
  refine Meets.of pn_2 ?_
  intro p e s m below meth c s₁ hx hby hml hZ hown hnm hret hlk X0 e0
  have hml : c.maxLocals = 3 := hml
  have hown : s.vm.findClass "com/example/waybill/waybill/core/Money" = some m.cls := hown
  have N0 := Fr.nil n0
  have K0 := Keep.refl h0 [a_o0]
  refine Ends.step (u' := (s₁.setTop (mkF m 0 #[.val (.ref a_o0), .val (.long p1), .second] []))) ?_ (fun _ k => castTop (ef_2 m a_o0 p1) k)
  refine Ends.step (u' := (s₁.setTop (mkF m 1 #[.val (.ref a_o0), .val (.long p1), .second] [(.ref a_o0)]))) ?_ (fun _ k => XS.aloadN X0.here hx rfl (hb hby d2_0) rfl rfl k)
  refine Ends.callC X0 hx hZ (y := (⟨"java/lang/Record", "<init>", "()V"⟩ : MethodName)) rfl hown (hw _ (List.mem_of_getElem? (i := 11) rfl)) (hw _ (List.mem_of_getElem? (i := 12) rfl)) (hw _ (List.mem_of_getElem? (i := 14) rfl)) (hw _ (List.mem_of_getElem? (i := 15) rfl)) (by decide) (rm3 l Z a0 hw a_o0 h0 n0 Z0) 0 (by decide) (by decide) e0  (g := (mkF m 1 #[.val (.ref a_o0), .val (.long p1), .second] [(.ref a_o0)])) rfl (by rw [hml]; rfl) a_o0 [] [] (lenOf pd_0 rfl) rfl (by show 2 * 0 + _ ≤ _; exact Nat.le_of_eq rfl) (hb hby d2_1) rfl (by decide) (by decide) (fun v1 T1 L1 X1 hQ1 => ?_)
  obtain ⟨rfl, Nq1, e1⟩ := hQ1
  have N1 := Fr.app N0 Nq1
  show Ends p e below s _ _ _ (T1.setTop (mkF m 4 #[.val (.ref a_o0), .val (.long p1), .second] []))
  refine Ends.step (u' := (T1.setTop (mkF m 5 #[.val (.ref a_o0), .val (.long p1), .second] [(.ref a_o0)]))) ?_ (fun _ k => XS.aloadN X1.here hx rfl (hb hby d2_4) rfl rfl k)
  refine Ends.step (u' := (T1.setTop (mkF m 6 #[.val (.ref a_o0), .val (.long p1), .second] [(.long p1), (.ref a_o0)]))) ?_ (fun _ k => XT.lloadN X1.here hx rfl (hb hby d2_5) rfl k)
  refine Ends.putF X1 hx hZ hown (hw _ (List.mem_of_getElem? (i := 19) rfl)) e1 F_o0_cents E_o0 (Or.inr ⟨(hw _ (List.mem_of_getElem? (i := 20) rfl)), rfl, hnm⟩) (hw _ (List.mem_of_getElem? (i := 6) rfl)) (tf := .long) (by decide) rfl rfl N1 g_o0 (g := (mkF m 6 #[.val (.ref a_o0), .val (.long p1), .second] [(.long p1), (.ref a_o0)])) rfl rfl (hb hby d2_6) (fun T2 h2 X2 e2 N2 W2 => ?_)
  have Fd3 := F_o0_cents.same W2
  have E4 := E_o0.wr W2
  show Ends p e below s _ _ _ (T2.setTop (mkF m 9 #[.val (.ref a_o0), .val (.long p1), .second] []))
  have Z5 : n0 ≤ h2.size := W2.size.symm ▸ Z0
  have K6 := K0.wr W2 (Or.inl (List.mem_of_getElem? (i := 0) rfl))
  exact Ends.ret X2 (v := none) (fun _ => rfl) hlk (fun fs hr => X2.returnOut hx hret (hb hby d2_9) hr) (by decide) (by decide) (by rw [e2]; exact ⟨rfl, N2, K6, Fd3⟩)
theorem d6_0 : decode jdk_29_method_27_code 0 = .ok (.lload_n 0, 1) := by decide +kernel
theorem d6_1 : decode jdk_29_method_27_code 1 = .ok (.lload_n 2, 1) := by decide +kernel
theorem d6_2 : decode jdk_29_method_27_code 2 = .ok (.lsub, 1) := by decide +kernel
theorem d6_3 : decode jdk_29_method_27_code 3 = .ok (.lstore 4, 2) := by decide +kernel
theorem d6_5 : decode jdk_29_method_27_code 5 = .ok (.lload_n 0, 1) := by decide +kernel
theorem d6_6 : decode jdk_29_method_27_code 6 = .ok (.lload_n 2, 1) := by decide +kernel
theorem d6_7 : decode jdk_29_method_27_code 7 = .ok (.lxor, 1) := by decide +kernel
theorem d6_8 : decode jdk_29_method_27_code 8 = .ok (.lload_n 0, 1) := by decide +kernel
theorem d6_9 : decode jdk_29_method_27_code 9 = .ok (.lload 4, 2) := by decide +kernel
theorem d6_11 : decode jdk_29_method_27_code 11 = .ok (.lxor, 1) := by decide +kernel
theorem d6_12 : decode jdk_29_method_27_code 12 = .ok (.land, 1) := by decide +kernel
theorem d6_13 : decode jdk_29_method_27_code 13 = .ok (.lconst 0, 1) := by decide +kernel
theorem d6_14 : decode jdk_29_method_27_code 14 = .ok (.lcmp, 1) := by decide +kernel
theorem d6_15 : decode jdk_29_method_27_code 15 = .ok (.ifCond .ge 13, 3) := by decide +kernel
theorem d6_28 : decode jdk_29_method_27_code 28 = .ok (.lload 4, 2) := by decide +kernel
theorem d6_30 : decode jdk_29_method_27_code 30 = .ok (.lreturn, 1) := by decide +kernel
theorem pn_6 : plainFor (⟨"java/lang/Math", "subtractExact", "(JJ)J"⟩ : MethodName) = true := by first | exact plainFor_of_name (by first | (simp [plainName, overriddenIn]; done) | decide +kernel) | decide +kernel
theorem ef_6 (m : MethodId) (y0 : Int64) (y1 : Int64) : entryFrame m #[(.long y0), (.long y1)] 6 = mkF m 0 #[.val (.long y0), .second, .val (.long y1), .second, .unset, .unset] [] := by first | (simp [entryFrame, mkF, argsToLocals, Value.category]; done) | rfl
def Q6 (Z : State)   (h0 : Heap) (n0 : Nat) (ans : Int64) (v : Option Value) (h : Heap) (L : List Loc) : Prop := v = some (.long ans) ∧ Fr n0 L ∧ h = h0
set_option maxRecDepth 65536 in
set_option maxHeartbeats 40000000 in
theorem rm6 (l : Launch) (Z : State) (a0 : Array Value) (hw : ∀ d ∈ tables_1, d.before a0 Z = true) (p0 : Int64) (p1 : Int64)  (h0 : Heap) (n0 : Nat) (Z0 : n0 ≤ h0.size)  (ok : O6 p0 p1) :
    Meets l Z (⟨"java/lang/Math", "subtractExact", "(JJ)J"⟩ : MethodName) jdk_29_method_27_code 6 (some .long) [] ({ frames := 0, cells := 0, slots := 0, locals := 0 } : Room) #[(.long p0), (.long p1)] h0 (Q6 Z  h0 n0 (F6 p0 p1)) 0 0 := by
  refine Meets.of pn_6 ?_
  intro p e s m below meth c s₁ hx hby hml hZ hown hnm hret hlk X0 e0
  have hml : c.maxLocals = 6 := hml
  have hown : s.vm.findClass "java/lang/Math" = some m.cls := hown
  have N0 := Fr.nil n0
  have b18 : ∀ (T : State) (L : List Loc) (X : Stand p l e ({ frames := 0, cells := 0, slots := 0, locals := 0 } : Room) s m #[(.long p0), (.long p1)] below meth c T L 0 0) (eT : T.heap = h0) (N : Fr n0 L) (z0 : Int64) (z2 : Int64) (z4 : Int64) (ok : O6_18), Ends p e below s 0 0 (Q6 Z  h0 n0 F6_18) (T.setTop (mkF m 18 #[.val (.long z0), .second, .val (.long z2), .second, .val (.long z4), .second] [])) := by
    intro T L X eT N z0 z2 z4 ok
    exact ok.elim
  have b28 : ∀ (T : State) (L : List Loc) (X : Stand p l e ({ frames := 0, cells := 0, slots := 0, locals := 0 } : Room) s m #[(.long p0), (.long p1)] below meth c T L 0 0) (eT : T.heap = h0) (N : Fr n0 L) (x4 : Int64) (z0 : Int64) (z2 : Int64), Ends p e below s 0 0 (Q6 Z  h0 n0 (F6_28 x4)) (T.setTop (mkF m 28 #[.val (.long z0), .second, .val (.long z2), .second, .val (.long x4), .second] [])) := by
    intro T L X eT N x4 z0 z2
    refine Ends.step (u' := (T.setTop (mkF m 30 #[.val (.long z0), .second, .val (.long z2), .second, .val (.long x4), .second] [(.long x4)]))) ?_ (fun _ k => XT.lload X.here hx rfl (hb hby d6_28) rfl k)
    exact Ends.ret X (v := some (.long x4)) (fun q => by rw [hret] at q; cases q) hlk (fun fs hr => X.lreturnOut hx hret (hb hby d6_30) hr) (by decide) (by decide) ⟨rfl, N, eT⟩
  have b5 : ∀ (T : State) (L : List Loc) (X : Stand p l e ({ frames := 0, cells := 0, slots := 0, locals := 0 } : Room) s m #[(.long p0), (.long p1)] below meth c T L 0 0) (eT : T.heap = h0) (N : Fr n0 L) (x0 : Int64) (x2 : Int64) (x4 : Int64) (ok : (O6_5 x0 x2 x4)), Ends p e below s 0 0 (Q6 Z  h0 n0 (F6_5 x0 x2 x4)) (T.setTop (mkF m 5 #[.val (.long x0), .second, .val (.long x2), .second, .val (.long x4), .second] [])) := by
    intro T L X eT N x0 x2 x4 ok
    obtain ⟨okt, okf⟩ := ok
    refine Ends.step (u' := (T.setTop (mkF m 6 #[.val (.long x0), .second, .val (.long x2), .second, .val (.long x4), .second] [(.long x0)]))) ?_ (fun _ k => XT.lloadN X.here hx rfl (hb hby d6_5) rfl k)
    refine Ends.step (u' := (T.setTop (mkF m 7 #[.val (.long x0), .second, .val (.long x2), .second, .val (.long x4), .second] [(.long x2), (.long x0)]))) ?_ (fun _ k => XT.lloadN X.here hx rfl (hb hby d6_6) rfl k)
    refine Ends.step (u' := (T.setTop (mkF m 8 #[.val (.long x0), .second, .val (.long x2), .second, .val (.long x4), .second] [(.long (x0 ^^^ x2))]))) ?_ (fun _ k => XT.lxor X.here hx rfl (hb hby d6_7) rfl k)
    refine Ends.step (u' := (T.setTop (mkF m 9 #[.val (.long x0), .second, .val (.long x2), .second, .val (.long x4), .second] [(.long x0), (.long (x0 ^^^ x2))]))) ?_ (fun _ k => XT.lloadN X.here hx rfl (hb hby d6_8) rfl k)
    refine Ends.step (u' := (T.setTop (mkF m 11 #[.val (.long x0), .second, .val (.long x2), .second, .val (.long x4), .second] [(.long x4), (.long x0), (.long (x0 ^^^ x2))]))) ?_ (fun _ k => XT.lload X.here hx rfl (hb hby d6_9) rfl k)
    refine Ends.step (u' := (T.setTop (mkF m 12 #[.val (.long x0), .second, .val (.long x2), .second, .val (.long x4), .second] [(.long (x0 ^^^ x4)), (.long (x0 ^^^ x2))]))) ?_ (fun _ k => XT.lxor X.here hx rfl (hb hby d6_11) rfl k)
    refine Ends.step (u' := (T.setTop (mkF m 13 #[.val (.long x0), .second, .val (.long x2), .second, .val (.long x4), .second] [(.long ((x0 ^^^ x2) &&& (x0 ^^^ x4)))]))) ?_ (fun _ k => XT.land X.here hx rfl (hb hby d6_12) rfl k)
    refine Ends.step (u' := (T.setTop (mkF m 14 #[.val (.long x0), .second, .val (.long x2), .second, .val (.long x4), .second] [(.long (0 : Int64)), (.long ((x0 ^^^ x2) &&& (x0 ^^^ x4)))]))) ?_ (fun _ k => XT.lconstV X.here hx rfl (0 : Int64) (hb hby d6_13) rfl k)
    refine Ends.step (u' := (T.setTop (mkF m 15 #[.val (.long x0), .second, .val (.long x2), .second, .val (.long x4), .second] [(.int (XT.cmpL ((x0 ^^^ x2) &&& (x0 ^^^ x4)) (0 : Int64)))]))) ?_ (fun _ k => XT.lcmp X.here hx rfl (hb hby d6_14) rfl k)
    by_cases hc15 : ((x0 ^^^ x2) &&& (x0 ^^^ x4)) < (0 : Int64)
    · refine Eq.mp (congrArg (fun z => Ends p e below s 0 0 (Q6 Z  h0 n0 z) (T.setTop (mkF m 15 #[.val (.long x0), .second, .val (.long x2), .second, .val (.long x4), .second] [(.int (XT.cmpL ((x0 ^^^ x2) &&& (x0 ^^^ x4)) (0 : Int64)))]))) (show (F6_5 x0 x2 x4) = F6_18 from (if_pos hc15)).symm) ?_
      refine Ends.step (u' := (T.setTop (mkF m 18 #[.val (.long x0), .second, .val (.long x2), .second, .val (.long x4), .second] []))) ?_ (fun _ k => XS.ifNo X.here hx rfl (hb hby d6_15) rfl (XT.ll_ge_f hc15) k)
      exact b18 T _ X eT N x0 x2 x4 (okt hc15)
    · refine Eq.mp (congrArg (fun z => Ends p e below s 0 0 (Q6 Z  h0 n0 z) (T.setTop (mkF m 15 #[.val (.long x0), .second, .val (.long x2), .second, .val (.long x4), .second] [(.int (XT.cmpL ((x0 ^^^ x2) &&& (x0 ^^^ x4)) (0 : Int64)))]))) (show (F6_5 x0 x2 x4) = (F6_28 x4) from (if_neg hc15)).symm) ?_
      refine Ends.step (u' := (T.setTop (mkF m 28 #[.val (.long x0), .second, .val (.long x2), .second, .val (.long x4), .second] []))) ?_ (fun _ k => XS.ifYes X.here hx rfl (pc0 := 15) (pc' := 28) rfl (hb hby d6_15) rfl (XT.ll_ge_t hc15) (by decide) (by decide) k)
      exact b28 T _ X eT N x4 x0 x2
  refine Ends.step (u' := (s₁.setTop (mkF m 0 #[.val (.long p0), .second, .val (.long p1), .second, .unset, .unset] []))) ?_ (fun _ k => castTop (ef_6 m p0 p1) k)
  refine Ends.step (u' := (s₁.setTop (mkF m 1 #[.val (.long p0), .second, .val (.long p1), .second, .unset, .unset] [(.long p0)]))) ?_ (fun _ k => XT.lloadN X0.here hx rfl (hb hby d6_0) rfl k)
  refine Ends.step (u' := (s₁.setTop (mkF m 2 #[.val (.long p0), .second, .val (.long p1), .second, .unset, .unset] [(.long p1), (.long p0)]))) ?_ (fun _ k => XT.lloadN X0.here hx rfl (hb hby d6_1) rfl k)
  refine Ends.step (u' := (s₁.setTop (mkF m 3 #[.val (.long p0), .second, .val (.long p1), .second, .unset, .unset] [(.long (p0 - p1))]))) ?_ (fun _ k => XT.lsub X0.here hx rfl (hb hby d6_2) rfl k)
  refine Ends.step (u' := (s₁.setTop (mkF m 5 #[.val (.long p0), .second, .val (.long p1), .second, .val (.long (p0 - p1)), .second] []))) ?_ (fun _ k => XT.lstore X0.here hx rfl (hb hby d6_3) rfl (l' := #[.val (.long p0), .second, .val (.long p1), .second, .val (.long (p0 - p1)), .second]) rfl k)
  exact b5 s₁ _ X0 e0 N0 p0 p1 (p0 - p1) ok
theorem d5_0 : decode prog_23_method_4_code 0 = .ok (.new 8, 3) := by decide +kernel
theorem d5_3 : decode prog_23_method_4_code 3 = .ok (.dup, 1) := by decide +kernel
theorem d5_4 : decode prog_23_method_4_code 4 = .ok (.aload_n 0, 1) := by decide +kernel
theorem d5_5 : decode prog_23_method_4_code 5 = .ok (.getfield 7, 3) := by decide +kernel
theorem d5_8 : decode prog_23_method_4_code 8 = .ok (.aload_n 1, 1) := by decide +kernel
theorem d5_9 : decode prog_23_method_4_code 9 = .ok (.getfield 7, 3) := by decide +kernel
theorem d5_12 : decode prog_23_method_4_code 12 = .ok (.invokestatic 69, 3) := by decide +kernel
theorem d5_15 : decode prog_23_method_4_code 15 = .ok (.invokespecial 54, 3) := by decide +kernel
theorem d5_18 : decode prog_23_method_4_code 18 = .ok (.areturn, 1) := by decide +kernel
theorem pn_5 : plainFor (⟨"com/example/waybill/waybill/core/Money", "minus", "(Lcom/example/waybill/waybill/core/Money;)Lcom/example/waybill/waybill/core/Money;"⟩ : MethodName) = true := by first | exact plainFor_of_name (by first | (simp [plainName, overriddenIn]; done) | decide +kernel) | decide +kernel
theorem ef_5 (m : MethodId) (y0 : Addr) (y1 : Addr) : entryFrame m #[(.ref y0), (.ref y1)] 2 = mkF m 0 #[.val (.ref y0), .val (.ref y1)] [] := by first | (simp [entryFrame, mkF, argsToLocals, Value.category]; done) | rfl
def Q5 (Z : State) (a_o0 : Addr) (a_o1 : Addr) (o0_cents : Int64) (o1_cents : Int64) (h0 : Heap) (n0 : Nat) (ans : Int64) (v : Option Value) (h : Heap) (L : List Loc) : Prop := ∃ r_q0 : Addr, v = some (.ref r_q0) ∧ Fr n0 L ∧ Keep h0 h [] ∧ h0.size ≤ r_q0 ∧ Exa Z h r_q0 "com/example/waybill/waybill/core/Money" ∧ Fld Z h r_q0 "com/example/waybill/waybill/core/Money" "cents" "J" (.long ans)
set_option maxRecDepth 65536 in
set_option maxHeartbeats 40000000 in
theorem rm5 (l : Launch) (Z : State) (a0 : Array Value) (hw : ∀ d ∈ tables_1, d.before a0 Z = true) (o0_cents : Int64) (o1_cents : Int64) (a_o0 : Addr) (a_o1 : Addr) (h0 : Heap) (n0 : Nat) (Z0 : n0 ≤ h0.size) (E_o0 : Exa Z h0 a_o0 "com/example/waybill/waybill/core/Money") (F_o0_cents : Fld Z h0 a_o0 "com/example/waybill/waybill/core/Money" "cents" "J" (.long o0_cents)) (E_o1 : Exa Z h0 a_o1 "com/example/waybill/waybill/core/Money") (F_o1_cents : Fld Z h0 a_o1 "com/example/waybill/waybill/core/Money" "cents" "J" (.long o1_cents)) (ok : O5 o0_cents o1_cents) :
    Meets l Z (⟨"com/example/waybill/waybill/core/Money", "minus", "(Lcom/example/waybill/waybill/core/Money;)Lcom/example/waybill/waybill/core/Money;"⟩ : MethodName) prog_23_method_4_code 2 (some (.object "com/example/waybill/waybill/core/Money")) [] ({ frames := 3, cells := 1, slots := 1, locals := 39 } : Room) #[(.ref a_o0), (.ref a_o1)] h0 (Q5 Z a_o0 a_o1 o0_cents o1_cents h0 n0 (F5 o0_cents o1_cents)) 1 1 := by
  refine Meets.of pn_5 ?_
  intro p e s m below meth c s₁ hx hby hml hZ hown hnm hret hlk X0 e0
  have hml : c.maxLocals = 2 := hml
  have hown : s.vm.findClass "com/example/waybill/waybill/core/Money" = some m.cls := hown
  have N0 := Fr.nil n0
  have K0 := Keep.refl h0 []
  refine Ends.step (u' := (s₁.setTop (mkF m 0 #[.val (.ref a_o0), .val (.ref a_o1)] []))) ?_ (fun _ k => castTop (ef_5 m a_o0 a_o1) k)
  obtain ⟨o1, ok⟩ := ok
  refine Ends.newO X0 hx hZ hown (hw _ (List.mem_of_getElem? (i := 26) rfl)) (hw _ (List.mem_of_getElem? (i := 6) rfl)) (hw _ (List.mem_of_getElem? (i := 7) rfl)) e0 (g := (mkF m 0 #[.val (.ref a_o0), .val (.ref a_o1)] [])) rfl (hb hby d5_0) (by decide) (by decide) (fun T1 h1 a1 X1 e1 E1 q1 Y1 D1 => ?_)
  have Fd2 : Fld Z h1 a1 "com/example/waybill/waybill/core/Money" "cents" "J" (.long (0 : Int64)) := D1 (Or.inr (hw _ (List.mem_of_getElem? (i := 20) rfl))) (ty := .long) (by decide)
  have ne3 : a_o0 ≠ a1 := q1 ▸ Nat.ne_of_lt E_o0.lt
  have E4 := E_o0.ext E1
  have Fd5 := F_o0_cents.ext E1
  have ne6 : a_o1 ≠ a1 := q1 ▸ Nat.ne_of_lt E_o1.lt
  have E7 := E_o1.ext E1
  have Fd8 := F_o1_cents.ext E1
  have g9 : n0 ≤ a1 := q1 ▸ Z0
  have fr10 : h0.size ≤ a1 := q1 ▸ K0.1
  have K11 := K0.ext E1
  have Z12 := Nat.le_trans Z0 E1.1
  show Ends p e below s _ _ _ (T1.setTop (mkF m 3 #[.val (.ref a_o0), .val (.ref a_o1)] [(.ref a1)]))
  refine Ends.step (u' := (T1.setTop (mkF m 4 #[.val (.ref a_o0), .val (.ref a_o1)] [(.ref a1), (.ref a1)]))) ?_ (fun _ k => XS.dup X1.here hx rfl (hb hby d5_3) rfl rfl k)
  refine Ends.step (u' := (T1.setTop (mkF m 5 #[.val (.ref a_o0), .val (.ref a_o1)] [(.ref a_o0), (.ref a1), (.ref a1)]))) ?_ (fun _ k => XS.aloadN X1.here hx rfl (hb hby d5_4) rfl rfl k)
  refine Ends.getF X1 hx hZ hown (hw _ (List.mem_of_getElem? (i := 19) rfl)) e1 Fd5 (g := (mkF m 5 #[.val (.ref a_o0), .val (.ref a_o1)] [(.ref a_o0), (.ref a1), (.ref a1)])) rfl rfl (hb hby d5_5) (fun T13 X13 e13 => ?_)
  show Ends p e below s _ _ _ (T13.setTop (mkF m 8 #[.val (.ref a_o0), .val (.ref a_o1)] [(.long o0_cents), (.ref a1), (.ref a1)]))
  refine Ends.step (u' := (T13.setTop (mkF m 9 #[.val (.ref a_o0), .val (.ref a_o1)] [(.ref a_o1), (.long o0_cents), (.ref a1), (.ref a1)]))) ?_ (fun _ k => XS.aloadN X13.here hx rfl (hb hby d5_8) rfl rfl k)
  refine Ends.getF X13 hx hZ hown (hw _ (List.mem_of_getElem? (i := 19) rfl)) e13 Fd8 (g := (mkF m 9 #[.val (.ref a_o0), .val (.ref a_o1)] [(.ref a_o1), (.long o0_cents), (.ref a1), (.ref a1)])) rfl rfl (hb hby d5_9) (fun T14 X14 e14 => ?_)
  show Ends p e below s _ _ _ (T14.setTop (mkF m 12 #[.val (.ref a_o0), .val (.ref a_o1)] [(.long o1_cents), (.long o0_cents), (.ref a1), (.ref a1)]))
  refine Ends.callS X14 hx hZ hown (hw _ (List.mem_of_getElem? (i := 27) rfl)) (hw _ (List.mem_of_getElem? (i := 28) rfl)) (hw _ (List.mem_of_getElem? (i := 29) rfl)) (hw _ (List.mem_of_getElem? (i := 30) rfl)) (by decide) (rm6 l Z a0 hw o0_cents o1_cents h1 n0 Z12 o1) 2 (by decide) (by decide) e14  (g := (mkF m 12 #[.val (.ref a_o0), .val (.ref a_o1)] [(.long o1_cents), (.long o0_cents), (.ref a1), (.ref a1)])) rfl (by rw [hml]; rfl)  [(.long o0_cents), (.long o1_cents)] [(.ref a1), (.ref a1)] (lenOf pd_1 rfl) rfl (by show 2 * 0 + _ ≤ _; exact Nat.le_of_eq rfl) (hb hby d5_12) rfl (by decide) (by decide) (fun v15 T15 L15 X15 hQ15 => ?_)
  obtain ⟨rfl, Nq15, e15⟩ := hQ15
  have N15 := Fr.app N0 Nq15
  show Ends p e below s _ _ _ (T15.setTop (mkF m 15 #[.val (.ref a_o0), .val (.ref a_o1)] [(.long (F6 o0_cents o1_cents)), (.ref a1), (.ref a1)]))
  refine Ends.callC X15 hx hZ (y := (⟨"com/example/waybill/waybill/core/Money", "<init>", "(J)V"⟩ : MethodName)) rfl hown (hw _ (List.mem_of_getElem? (i := 31) rfl)) (hw _ (List.mem_of_getElem? (i := 9) rfl)) (hw _ (List.mem_of_getElem? (i := 7) rfl)) (hw _ (List.mem_of_getElem? (i := 10) rfl)) (by decide) (rm2 l Z a0 hw (F6 o0_cents o1_cents) (0 : Int64) a1 h1 n0 Z12 Y1 Fd2 g9) 1 (by decide) (by decide) e15  (g := (mkF m 15 #[.val (.ref a_o0), .val (.ref a_o1)] [(.long (F6 o0_cents o1_cents)), (.ref a1), (.ref a1)])) rfl (by rw [hml]; rfl) a1 [(.long (F6 o0_cents o1_cents))] [(.ref a1)] (lenOf pd_2 rfl) rfl (by show 2 * 0 + _ ≤ _; exact Nat.le_of_eq rfl) (hb hby d5_15) rfl (by decide) (by decide) (fun v16 T16 L16 X16 hQ16 => ?_)
  obtain ⟨rfl, Nq16, Kq16, Fd17⟩ := hQ16
  have N16 := Fr.app N15 Nq16
  show Ends p e below s _ _ _ (T16.setTop (mkF m 18 #[.val (.ref a_o0), .val (.ref a_o1)] [(.ref a1)]))
  have E18 := E4.keep Kq16
  have Fd19 := Fd5.keep Kq16 (ninS ne3 nin0)
  have E20 := E7.keep Kq16
  have Fd21 := Fd8.keep Kq16 (ninS ne6 nin0)
  have E22 := Y1.keep Kq16
  have Z23 := Nat.le_trans Z12 Kq16.1
  have K24 := K11.trans Kq16 (allS (Or.inr fr10) all0)
  exact Ends.ret X16 (v := some (.ref a1)) (fun q => by rw [hret] at q; cases q) hlk (fun fs hr => X16.areturnOut hx rfl hret rfl (hb hby d5_18) hr) (by decide) (by decide) ⟨a1, rfl, N16, K24, fr10, E22, Fd17⟩
theorem d7_0 : decode prog_23_method_10_code 0 = .ok (.aload_n 0, 1) := by decide +kernel
theorem d7_1 : decode prog_23_method_10_code 1 = .ok (.getfield 7, 3) := by decide +kernel
theorem d7_4 : decode prog_23_method_10_code 4 = .ok (.lreturn, 1) := by decide +kernel
theorem pn_7 : plainFor (⟨"com/example/waybill/waybill/core/Money", "cents", "()J"⟩ : MethodName) = true := by first | exact plainFor_of_name (by first | (simp [plainName, overriddenIn]; done) | decide +kernel) | decide +kernel
theorem ef_7 (m : MethodId) (y0 : Addr) : entryFrame m #[(.ref y0)] 1 = mkF m 0 #[.val (.ref y0)] [] := by first | (simp [entryFrame, mkF, argsToLocals, Value.category]; done) | rfl
def Q7 (Z : State) (a_o0 : Addr) (o0_cents : Int64) (h0 : Heap) (n0 : Nat) (ans : Int64) (v : Option Value) (h : Heap) (L : List Loc) : Prop := v = some (.long ans) ∧ Fr n0 L ∧ h = h0
set_option maxRecDepth 65536 in
set_option maxHeartbeats 40000000 in
theorem rm7 (l : Launch) (Z : State) (a0 : Array Value) (hw : ∀ d ∈ tables_1, d.before a0 Z = true) (o0_cents : Int64) (a_o0 : Addr) (h0 : Heap) (n0 : Nat) (Z0 : n0 ≤ h0.size) (E_o0 : Exa Z h0 a_o0 "com/example/waybill/waybill/core/Money") (F_o0_cents : Fld Z h0 a_o0 "com/example/waybill/waybill/core/Money" "cents" "J" (.long o0_cents)) :
    Meets l Z (⟨"com/example/waybill/waybill/core/Money", "cents", "()J"⟩ : MethodName) prog_23_method_10_code 1 (some .long) [] ({ frames := 0, cells := 0, slots := 0, locals := 0 } : Room) #[(.ref a_o0)] h0 (Q7 Z a_o0 o0_cents h0 n0 (F7 o0_cents)) 0 0 := by
  refine Meets.of pn_7 ?_
  intro p e s m below meth c s₁ hx hby hml hZ hown hnm hret hlk X0 e0
  have hml : c.maxLocals = 1 := hml
  have hown : s.vm.findClass "com/example/waybill/waybill/core/Money" = some m.cls := hown
  have N0 := Fr.nil n0
  refine Ends.step (u' := (s₁.setTop (mkF m 0 #[.val (.ref a_o0)] []))) ?_ (fun _ k => castTop (ef_7 m a_o0) k)
  refine Ends.step (u' := (s₁.setTop (mkF m 1 #[.val (.ref a_o0)] [(.ref a_o0)]))) ?_ (fun _ k => XS.aloadN X0.here hx rfl (hb hby d7_0) rfl rfl k)
  refine Ends.getF X0 hx hZ hown (hw _ (List.mem_of_getElem? (i := 19) rfl)) e0 F_o0_cents (g := (mkF m 1 #[.val (.ref a_o0)] [(.ref a_o0)])) rfl rfl (hb hby d7_1) (fun T1 X1 e1 => ?_)
  show Ends p e below s _ _ _ (T1.setTop (mkF m 4 #[.val (.ref a_o0)] [(.long o0_cents)]))
  exact Ends.ret X1 (v := some (.long o0_cents)) (fun q => by rw [hret] at q; cases q) hlk (fun fs hr => X1.lreturnOut hx hret (hb hby d7_4) hr) (by decide) (by decide) ⟨rfl, N0, e1⟩
theorem pn_0 : plainFor x = true := by first | exact plainFor_of_name (by first | (simp [plainName, overriddenIn]; done) | decide +kernel) | decide +kernel
theorem ef_0 (m : MethodId) (y0 : Int64) (y1 : Int64) : entryFrame m #[(.long y0), (.long y1)] maxLocals = mkF m 0 #[.val (.long y0), .second, .val (.long y1), .second, .unset, .unset, .unset] [] := by first | (simp [entryFrame, mkF, argsToLocals, Value.category, maxLocals]; done) | rfl
def Q0 (Z : State)   (h0 : Heap) (n0 : Nat) (ans : Int32) (v : Option Value) (h : Heap) (L : List Loc) : Prop := v = some (.int ans) ∧ Fr n0 L
set_option maxRecDepth 65536 in
set_option maxHeartbeats 40000000 in
theorem rm0 (l : Launch) (Z : State) (a0 : Array Value) (hw : ∀ d ∈ tables_1, d.before a0 Z = true) (p0 : Int64) (p1 : Int64)  (h0 : Heap) (n0 : Nat) (Z0 : n0 ≤ h0.size)  (ok : O0 p0 p1) :
    Meets l Z x code maxLocals ret tables_1 room_1 #[(.long p0), (.long p1)] h0 (Q0 Z  h0 n0 (F0 p0 p1)) 3 3 := by
  refine Meets.of pn_0 ?_
  intro p e s m below meth c s₁ hx hby hml hZ hown hnm hret hlk X0 e0
  have hml : c.maxLocals = 7 := hml
  have hown : s.vm.findClass "com/example/waybill/waybill/core/MoneyMinusPinLaw" = some m.cls := hown
  have N0 := Fr.nil n0
  have b8 : ∀ (T : State) (L : List Loc) (h : Heap) (X : Stand p l e room_1 s m #[(.long p0), (.long p1)] below meth c T L 0 0) (eT : T.heap = h) (N : Fr n0 L) (Zs : n0 ≤ h.size) (z0 : Int64) (z2 : Int64), Ends p e below s 3 3 (Q0 Z  h0 n0 F0_8) (T.setTop (mkF m 8 #[.val (.long z0), .second, .val (.long z2), .second, .unset, .unset, .unset] [])) := by
    intro T L h X eT N Zs z0 z2
    refine Ends.step (u' := (T.setTop (mkF m 9 #[.val (.long z0), .second, .val (.long z2), .second, .unset, .unset, .unset] [(.int (1 : Int32))]))) ?_ (fun _ k => XT.iconstV X.here hx rfl (1 : Int32) (hb hby at_8) rfl k)
    exact Ends.ret X (v := some (.int (nar .boolean (1 : Int32)))) (fun q => by rw [hret] at q; cases q) hlk (fun fs hr => retN X hx (t := .boolean) hret (by simp) (hb hby at_9) hr) (by decide) (by decide) ⟨rfl, N⟩
  have b76 : ∀ (T : State) (L : List Loc) (h : Heap) (X : Stand p l e room_1 s m #[(.long p0), (.long p1)] below meth c T L 3 3) (eT : T.heap = h) (N : Fr n0 L) (Zs : n0 ≤ h.size) (t0 : Int32) (z0 : Int64) (z2 : Int64) (d4 : Slot) (od4 : OneS d4) (d5 : Slot) (od5 : OneS d5) (d6 : Slot) (od6 : OneS d6), Ends p e below s 3 3 (Q0 Z  h0 n0 (F0_76 t0)) (T.setTop (mkF m 76 #[.val (.long z0), .second, .val (.long z2), .second, d4, d5, d6] [(.int t0)])) := by
    intro T L h X eT N Zs t0 z0 z2 d4 od4 d5 od5 d6 od6
    exact Ends.ret X (v := some (.int (nar .boolean t0))) (fun q => by rw [hret] at q; cases q) hlk (fun fs hr => retN X hx (t := .boolean) hret (by simp) (hb hby at_76) hr) (by decide) (by decide) ⟨rfl, N⟩
  have b71 : ∀ (T : State) (L : List Loc) (h : Heap) (X : Stand p l e room_1 s m #[(.long p0), (.long p1)] below meth c T L 3 3) (eT : T.heap = h) (N : Fr n0 L) (Zs : n0 ≤ h.size) (z0 : Int64) (z2 : Int64) (d4 : Slot) (od4 : OneS d4) (d5 : Slot) (od5 : OneS d5) (d6 : Slot) (od6 : OneS d6), Ends p e below s 3 3 (Q0 Z  h0 n0 F0_71) (T.setTop (mkF m 71 #[.val (.long z0), .second, .val (.long z2), .second, d4, d5, d6] [])) := by
    intro T L h X eT N Zs z0 z2 d4 od4 d5 od5 d6 od6
    refine Ends.step (u' := (T.setTop (mkF m 72 #[.val (.long z0), .second, .val (.long z2), .second, d4, d5, d6] [(.int (1 : Int32))]))) ?_ (fun _ k => XT.iconstV X.here hx rfl (1 : Int32) (hb hby at_71) rfl k)
    refine Ends.step (u' := (T.setTop (mkF m 76 #[.val (.long z0), .second, .val (.long z2), .second, d4, d5, d6] [(.int (1 : Int32))]))) ?_ (fun _ k => XS.goto X.here hx rfl (pc0 := 72) (pc' := 76) rfl (hb hby at_72) (by decide) (by decide) k)
    exact b76 T _ _ X eT N Zs (1 : Int32) z0 z2 (d4) od4 (d5) od5 (d6) od6
  have b75 : ∀ (T : State) (L : List Loc) (h : Heap) (X : Stand p l e room_1 s m #[(.long p0), (.long p1)] below meth c T L 3 3) (eT : T.heap = h) (N : Fr n0 L) (Zs : n0 ≤ h.size) (z0 : Int64) (z2 : Int64) (d4 : Slot) (od4 : OneS d4) (d5 : Slot) (od5 : OneS d5) (d6 : Slot) (od6 : OneS d6), Ends p e below s 3 3 (Q0 Z  h0 n0 F0_75) (T.setTop (mkF m 75 #[.val (.long z0), .second, .val (.long z2), .second, d4, d5, d6] [])) := by
    intro T L h X eT N Zs z0 z2 d4 od4 d5 od5 d6 od6
    refine Ends.step (u' := (T.setTop (mkF m 76 #[.val (.long z0), .second, .val (.long z2), .second, d4, d5, d6] [(.int (0 : Int32))]))) ?_ (fun _ k => XT.iconstV X.here hx rfl (0 : Int32) (hb hby at_75) rfl k)
    exact b76 T _ _ X eT N Zs (0 : Int32) z0 z2 (d4) od4 (d5) od5 (d6) od6
  have b61 : ∀ (T : State) (L : List Loc) (h : Heap) (X : Stand p l e room_1 s m #[(.long p0), (.long p1)] below meth c T L 3 3) (eT : T.heap = h) (N : Fr n0 L) (Zs : n0 ≤ h.size) (cq20_cents : Int64) (x2 : Int64) (z0 : Int64) (d4 : Slot) (od4 : OneS d4) (d6 : Slot) (od6 : OneS d6) (a_q20 : Addr) (g_q20 : n0 ≤ a_q20) (E_q20 : Exa Z h a_q20 "com/example/waybill/waybill/core/Money") (F_q20_cents : Fld Z h a_q20 "com/example/waybill/waybill/core/Money" "cents" "J" (.long cq20_cents)), Ends p e below s 3 3 (Q0 Z  h0 n0 (F0_61 cq20_cents x2)) (T.setTop (mkF m 61 #[.val (.long z0), .second, .val (.long x2), .second, d4, .val (.ref a_q20), d6] [])) := by
    intro T L h X eT N Zs cq20_cents x2 z0 d4 od4 d6 od6 a_q20 g_q20 E_q20 F_q20_cents
    refine Ends.step (u' := (T.setTop (mkF m 63 #[.val (.long z0), .second, .val (.long x2), .second, d4, .val (.ref a_q20), d6] [(.ref a_q20)]))) ?_ (fun _ k => XS.aload X.here hx rfl (hb hby at_61) rfl rfl k)
    refine Ends.callV X hx hZ hown (hw _ (List.mem_of_getElem? (i := 32) rfl)) (hw _ (List.mem_of_getElem? (i := 33) rfl)) (hw _ (List.mem_of_getElem? (i := 35) rfl)) (hw _ (List.mem_of_getElem? (i := 34) rfl)) (hw _ (List.mem_of_getElem? (i := 7) rfl)) (hw _ (List.mem_of_getElem? (i := 36) rfl)) (by decide) (rm7 l Z a0 hw cq20_cents a_q20 h n0 Zs E_q20 F_q20_cents) 0 (by decide) (by decide) eT a_q20 E_q20 (g := (mkF m 63 #[.val (.long z0), .second, .val (.long x2), .second, d4, .val (.ref a_q20), d6] [(.ref a_q20)])) rfl (by rw [hml]; rfl)  [] [] (lenOf pd_5 rfl) rfl (by show 2 * 0 + _ ≤ _; exact Nat.le_of_eq rfl) (hb hby at_63) rfl (by decide) (by decide) (fun v1 T1 L1 X1 hQ1 => ?_)
    obtain ⟨rfl, Nq1, e1⟩ := hQ1
    have N1 := Fr.app N Nq1
    show Ends p e below s _ _ _ (T1.setTop (mkF m 66 #[.val (.long z0), .second, .val (.long x2), .second, d4, .val (.ref a_q20), d6] [(.long (F7 cq20_cents))]))
    refine Ends.step (u' := (T1.setTop (mkF m 67 #[.val (.long z0), .second, .val (.long x2), .second, d4, .val (.ref a_q20), d6] [(.long x2), (.long (F7 cq20_cents))]))) ?_ (fun _ k => XT.lloadN X1.here hx rfl (hb hby at_66) rfl k)
    refine Ends.step (u' := (T1.setTop (mkF m 68 #[.val (.long z0), .second, .val (.long x2), .second, d4, .val (.ref a_q20), d6] [(.int (XT.cmpL (F7 cq20_cents) x2))]))) ?_ (fun _ k => XT.lcmp X1.here hx rfl (hb hby at_67) rfl k)
    by_cases hc68 : (F7 cq20_cents) = x2
    · refine Eq.mp (congrArg (fun z => Ends p e below s 3 3 (Q0 Z  h0 n0 z) (T1.setTop (mkF m 68 #[.val (.long z0), .second, .val (.long x2), .second, d4, .val (.ref a_q20), d6] [(.int (XT.cmpL (F7 cq20_cents) x2))]))) (show (F0_61 cq20_cents x2) = F0_71 from (if_pos hc68)).symm) ?_
      refine Ends.step (u' := (T1.setTop (mkF m 71 #[.val (.long z0), .second, .val (.long x2), .second, d4, .val (.ref a_q20), d6] []))) ?_ (fun _ k => XS.ifNo X1.here hx rfl (hb hby at_68) rfl (XT.ll_ne_f hc68) k)
      exact b71 T1 _ _ X1 e1 N1 Zs z0 x2 (d4) od4 (.val (.ref a_q20)) (Or.inr ⟨_, rfl, rfl⟩) (d6) od6
    · refine Eq.mp (congrArg (fun z => Ends p e below s 3 3 (Q0 Z  h0 n0 z) (T1.setTop (mkF m 68 #[.val (.long z0), .second, .val (.long x2), .second, d4, .val (.ref a_q20), d6] [(.int (XT.cmpL (F7 cq20_cents) x2))]))) (show (F0_61 cq20_cents x2) = F0_75 from (if_neg hc68)).symm) ?_
      refine Ends.step (u' := (T1.setTop (mkF m 75 #[.val (.long z0), .second, .val (.long x2), .second, d4, .val (.ref a_q20), d6] []))) ?_ (fun _ k => XS.ifYes X1.here hx rfl (pc0 := 68) (pc' := 75) rfl (hb hby at_68) rfl (XT.ll_ne_t hc68) (by decide) (by decide) k)
      exact b75 T1 _ _ X1 e1 N1 Zs z0 x2 (d4) od4 (.val (.ref a_q20)) (Or.inr ⟨_, rfl, rfl⟩) (d6) od6
  have b51 : ∀ (T : State) (L : List Loc) (h : Heap) (X : Stand p l e room_1 s m #[(.long p0), (.long p1)] below meth c T L 3 3) (eT : T.heap = h) (N : Fr n0 L) (Zs : n0 ≤ h.size) (cq10_cents : Int64) (cq20_cents : Int64) (x0 : Int64) (x2 : Int64) (d6 : Slot) (od6 : OneS d6) (a_q10 : Addr) (g_q10 : n0 ≤ a_q10) (a_q20 : Addr) (g_q20 : n0 ≤ a_q20) (ne_q10_q20 : a_q10 ≠ a_q20) (E_q10 : Exa Z h a_q10 "com/example/waybill/waybill/core/Money") (F_q10_cents : Fld Z h a_q10 "com/example/waybill/waybill/core/Money" "cents" "J" (.long cq10_cents)) (E_q20 : Exa Z h a_q20 "com/example/waybill/waybill/core/Money") (F_q20_cents : Fld Z h a_q20 "com/example/waybill/waybill/core/Money" "cents" "J" (.long cq20_cents)), Ends p e below s 3 3 (Q0 Z  h0 n0 (F0_51 cq10_cents cq20_cents x0 x2)) (T.setTop (mkF m 51 #[.val (.long x0), .second, .val (.long x2), .second, .val (.ref a_q10), .val (.ref a_q20), d6] [])) := by
    intro T L h X eT N Zs cq10_cents cq20_cents x0 x2 d6 od6 a_q10 g_q10 a_q20 g_q20 ne_q10_q20 E_q10 F_q10_cents E_q20 F_q20_cents
    refine Ends.step (u' := (T.setTop (mkF m 53 #[.val (.long x0), .second, .val (.long x2), .second, .val (.ref a_q10), .val (.ref a_q20), d6] [(.ref a_q10)]))) ?_ (fun _ k => XS.aload X.here hx rfl (hb hby at_51) rfl rfl k)
    refine Ends.callV X hx hZ hown (hw _ (List.mem_of_getElem? (i := 32) rfl)) (hw _ (List.mem_of_getElem? (i := 33) rfl)) (hw _ (List.mem_of_getElem? (i := 35) rfl)) (hw _ (List.mem_of_getElem? (i := 34) rfl)) (hw _ (List.mem_of_getElem? (i := 7) rfl)) (hw _ (List.mem_of_getElem? (i := 36) rfl)) (by decide) (rm7 l Z a0 hw cq10_cents a_q10 h n0 Zs E_q10 F_q10_cents) 0 (by decide) (by decide) eT a_q10 E_q10 (g := (mkF m 53 #[.val (.long x0), .second, .val (.long x2), .second, .val (.ref a_q10), .val (.ref a_q20), d6] [(.ref a_q10)])) rfl (by rw [hml]; rfl)  [] [] (lenOf pd_5 rfl) rfl (by show 2 * 0 + _ ≤ _; exact Nat.le_of_eq rfl) (hb hby at_53) rfl (by decide) (by decide) (fun v2 T2 L2 X2 hQ2 => ?_)
    obtain ⟨rfl, Nq2, e2⟩ := hQ2
    have N2 := Fr.app N Nq2
    show Ends p e below s _ _ _ (T2.setTop (mkF m 56 #[.val (.long x0), .second, .val (.long x2), .second, .val (.ref a_q10), .val (.ref a_q20), d6] [(.long (F7 cq10_cents))]))
    refine Ends.step (u' := (T2.setTop (mkF m 57 #[.val (.long x0), .second, .val (.long x2), .second, .val (.ref a_q10), .val (.ref a_q20), d6] [(.long x0), (.long (F7 cq10_cents))]))) ?_ (fun _ k => XT.lloadN X2.here hx rfl (hb hby at_56) rfl k)
    refine Ends.step (u' := (T2.setTop (mkF m 58 #[.val (.long x0), .second, .val (.long x2), .second, .val (.ref a_q10), .val (.ref a_q20), d6] [(.int (XT.cmpL (F7 cq10_cents) x0))]))) ?_ (fun _ k => XT.lcmp X2.here hx rfl (hb hby at_57) rfl k)
    by_cases hc58 : (F7 cq10_cents) = x0
    · refine Eq.mp (congrArg (fun z => Ends p e below s 3 3 (Q0 Z  h0 n0 z) (T2.setTop (mkF m 58 #[.val (.long x0), .second, .val (.long x2), .second, .val (.ref a_q10), .val (.ref a_q20), d6] [(.int (XT.cmpL (F7 cq10_cents) x0))]))) (show (F0_51 cq10_cents cq20_cents x0 x2) = (F0_61 cq20_cents x2) from (if_pos hc58)).symm) ?_
      refine Ends.step (u' := (T2.setTop (mkF m 61 #[.val (.long x0), .second, .val (.long x2), .second, .val (.ref a_q10), .val (.ref a_q20), d6] []))) ?_ (fun _ k => XS.ifNo X2.here hx rfl (hb hby at_58) rfl (XT.ll_ne_f hc58) k)
      exact b61 T2 _ _ X2 e2 N2 Zs cq20_cents x2 x0 (.val (.ref a_q10)) (Or.inr ⟨_, rfl, rfl⟩) (d6) od6 a_q20 g_q20 E_q20 F_q20_cents
    · refine Eq.mp (congrArg (fun z => Ends p e below s 3 3 (Q0 Z  h0 n0 z) (T2.setTop (mkF m 58 #[.val (.long x0), .second, .val (.long x2), .second, .val (.ref a_q10), .val (.ref a_q20), d6] [(.int (XT.cmpL (F7 cq10_cents) x0))]))) (show (F0_51 cq10_cents cq20_cents x0 x2) = F0_75 from (if_neg hc58)).symm) ?_
      refine Ends.step (u' := (T2.setTop (mkF m 75 #[.val (.long x0), .second, .val (.long x2), .second, .val (.ref a_q10), .val (.ref a_q20), d6] []))) ?_ (fun _ k => XS.ifYes X2.here hx rfl (pc0 := 58) (pc' := 75) rfl (hb hby at_58) rfl (XT.ll_ne_t hc58) (by decide) (by decide) k)
      exact b75 T2 _ _ X2 e2 N2 Zs x0 x2 (.val (.ref a_q10)) (Or.inr ⟨_, rfl, rfl⟩) (.val (.ref a_q20)) (Or.inr ⟨_, rfl, rfl⟩) (d6) od6
  have b10 : ∀ (T : State) (L : List Loc) (h : Heap) (X : Stand p l e room_1 s m #[(.long p0), (.long p1)] below meth c T L 0 0) (eT : T.heap = h) (N : Fr n0 L) (Zs : n0 ≤ h.size) (x0 : Int64) (x2 : Int64) (ok : (O0_10 x0 x2)), Ends p e below s 3 3 (Q0 Z  h0 n0 (F0_10 x0 x2)) (T.setTop (mkF m 10 #[.val (.long x0), .second, .val (.long x2), .second, .unset, .unset, .unset] [])) := by
    intro T L h X eT N Zs x0 x2 ok
    obtain ⟨o1, okt, okf⟩ := ok
    refine Ends.newO X hx hZ hown (hw _ (List.mem_of_getElem? (i := 5) rfl)) (hw _ (List.mem_of_getElem? (i := 6) rfl)) (hw _ (List.mem_of_getElem? (i := 7) rfl)) eT (g := (mkF m 10 #[.val (.long x0), .second, .val (.long x2), .second, .unset, .unset, .unset] [])) rfl (hb hby at_10) (by decide) (by decide) (fun T3 h3 a3 X3 e3 E3 q3 Y3 D3 => ?_)
    have Fd4 : Fld Z h3 a3 "com/example/waybill/waybill/core/Money" "cents" "J" (.long (0 : Int64)) := D3 (Or.inr (hw _ (List.mem_of_getElem? (i := 20) rfl))) (ty := .long) (by decide)
    have g5 : n0 ≤ a3 := q3 ▸ Zs
    have Z6 := Nat.le_trans Zs E3.1
    show Ends p e below s _ _ _ (T3.setTop (mkF m 13 #[.val (.long x0), .second, .val (.long x2), .second, .unset, .unset, .unset] [(.ref a3)]))
    refine Ends.step (u' := (T3.setTop (mkF m 14 #[.val (.long x0), .second, .val (.long x2), .second, .unset, .unset, .unset] [(.ref a3), (.ref a3)]))) ?_ (fun _ k => XS.dup X3.here hx rfl (hb hby at_13) rfl rfl k)
    refine Ends.step (u' := (T3.setTop (mkF m 15 #[.val (.long x0), .second, .val (.long x2), .second, .unset, .unset, .unset] [(.long x0), (.ref a3), (.ref a3)]))) ?_ (fun _ k => XT.lloadN X3.here hx rfl (hb hby at_14) rfl k)
    refine Ends.callC X3 hx hZ (y := (⟨"com/example/waybill/waybill/core/Money", "<init>", "(J)V"⟩ : MethodName)) rfl hown (hw _ (List.mem_of_getElem? (i := 8) rfl)) (hw _ (List.mem_of_getElem? (i := 9) rfl)) (hw _ (List.mem_of_getElem? (i := 7) rfl)) (hw _ (List.mem_of_getElem? (i := 10) rfl)) (by decide) (rm2 l Z a0 hw x0 (0 : Int64) a3 h3 n0 Z6 Y3 Fd4 g5) 1 (by decide) (by decide) e3  (g := (mkF m 15 #[.val (.long x0), .second, .val (.long x2), .second, .unset, .unset, .unset] [(.long x0), (.ref a3), (.ref a3)])) rfl (by rw [hml]; rfl) a3 [(.long x0)] [(.ref a3)] (lenOf pd_2 rfl) rfl (by show 2 * 0 + _ ≤ _; exact Nat.le_of_eq rfl) (hb hby at_15) rfl (by decide) (by decide) (fun v7 T7 L7 X7 hQ7 => ?_)
    obtain ⟨rfl, Nq7, Kq7, Fd8⟩ := hQ7
    have N7 := Fr.app N Nq7
    show Ends p e below s _ _ _ (T7.setTop (mkF m 18 #[.val (.long x0), .second, .val (.long x2), .second, .unset, .unset, .unset] [(.ref a3)]))
    have E9 := Y3.keep Kq7
    have Z10 := Nat.le_trans Z6 Kq7.1
    refine Ends.step (u' := (T7.setTop (mkF m 20 #[.val (.long x0), .second, .val (.long x2), .second, .val (.ref a3), .unset, .unset] []))) ?_ (fun _ k => XS.astore X7.here hx rfl (hb hby at_18) rfl rfl (l' := #[.val (.long x0), .second, .val (.long x2), .second, .val (.ref a3), .unset, .unset]) rfl k)
    refine Ends.newO X7 hx hZ hown (hw _ (List.mem_of_getElem? (i := 5) rfl)) (hw _ (List.mem_of_getElem? (i := 6) rfl)) (hw _ (List.mem_of_getElem? (i := 7) rfl)) rfl (g := (mkF m 20 #[.val (.long x0), .second, .val (.long x2), .second, .val (.ref a3), .unset, .unset] [])) rfl (hb hby at_20) (by decide) (by decide) (fun T11 h11 a11 X11 e11 E11 q11 Y11 D11 => ?_)
    have Fd12 : Fld Z h11 a11 "com/example/waybill/waybill/core/Money" "cents" "J" (.long (0 : Int64)) := D11 (Or.inr (hw _ (List.mem_of_getElem? (i := 20) rfl))) (ty := .long) (by decide)
    have ne13 : a3 ≠ a11 := q11 ▸ Nat.ne_of_lt E9.lt
    have E14 := E9.ext E11
    have Fd15 := Fd8.ext E11
    have g16 : n0 ≤ a11 := q11 ▸ Z10
    have Z17 := Nat.le_trans Z10 E11.1
    show Ends p e below s _ _ _ (T11.setTop (mkF m 23 #[.val (.long x0), .second, .val (.long x2), .second, .val (.ref a3), .unset, .unset] [(.ref a11)]))
    refine Ends.step (u' := (T11.setTop (mkF m 24 #[.val (.long x0), .second, .val (.long x2), .second, .val (.ref a3), .unset, .unset] [(.ref a11), (.ref a11)]))) ?_ (fun _ k => XS.dup X11.here hx rfl (hb hby at_23) rfl rfl k)
    refine Ends.step (u' := (T11.setTop (mkF m 25 #[.val (.long x0), .second, .val (.long x2), .second, .val (.ref a3), .unset, .unset] [(.long x2), (.ref a11), (.ref a11)]))) ?_ (fun _ k => XT.lloadN X11.here hx rfl (hb hby at_24) rfl k)
    refine Ends.callC X11 hx hZ (y := (⟨"com/example/waybill/waybill/core/Money", "<init>", "(J)V"⟩ : MethodName)) rfl hown (hw _ (List.mem_of_getElem? (i := 8) rfl)) (hw _ (List.mem_of_getElem? (i := 9) rfl)) (hw _ (List.mem_of_getElem? (i := 7) rfl)) (hw _ (List.mem_of_getElem? (i := 10) rfl)) (by decide) (rm2 l Z a0 hw x2 (0 : Int64) a11 h11 n0 Z17 Y11 Fd12 g16) 1 (by decide) (by decide) e11  (g := (mkF m 25 #[.val (.long x0), .second, .val (.long x2), .second, .val (.ref a3), .unset, .unset] [(.long x2), (.ref a11), (.ref a11)])) rfl (by rw [hml]; rfl) a11 [(.long x2)] [(.ref a11)] (lenOf pd_2 rfl) rfl (by show 2 * 0 + _ ≤ _; exact Nat.le_of_eq rfl) (hb hby at_25) rfl (by decide) (by decide) (fun v18 T18 L18 X18 hQ18 => ?_)
    obtain ⟨rfl, Nq18, Kq18, Fd19⟩ := hQ18
    have N18 := Fr.app N7 Nq18
    show Ends p e below s _ _ _ (T18.setTop (mkF m 28 #[.val (.long x0), .second, .val (.long x2), .second, .val (.ref a3), .unset, .unset] [(.ref a11)]))
    have E20 := E14.keep Kq18
    have Fd21 := Fd15.keep Kq18 (ninS ne13 nin0)
    have E22 := Y11.keep Kq18
    have Z23 := Nat.le_trans Z17 Kq18.1
    refine Ends.step (u' := (T18.setTop (mkF m 30 #[.val (.long x0), .second, .val (.long x2), .second, .val (.ref a3), .val (.ref a11), .unset] []))) ?_ (fun _ k => XS.astore X18.here hx rfl (hb hby at_28) rfl rfl (l' := #[.val (.long x0), .second, .val (.long x2), .second, .val (.ref a3), .val (.ref a11), .unset]) rfl k)
    refine Ends.step (u' := (T18.setTop (mkF m 32 #[.val (.long x0), .second, .val (.long x2), .second, .val (.ref a3), .val (.ref a11), .unset] [(.ref a3)]))) ?_ (fun _ k => XS.aload X18.here hx rfl (hb hby at_30) rfl rfl k)
    refine Ends.step (u' := (T18.setTop (mkF m 34 #[.val (.long x0), .second, .val (.long x2), .second, .val (.ref a3), .val (.ref a11), .unset] [(.ref a11), (.ref a3)]))) ?_ (fun _ k => XS.aload X18.here hx rfl (hb hby at_32) rfl rfl k)
    refine Ends.callV X18 hx hZ hown (hw _ (List.mem_of_getElem? (i := 21) rfl)) (hw _ (List.mem_of_getElem? (i := 22) rfl)) (hw _ (List.mem_of_getElem? (i := 24) rfl)) (hw _ (List.mem_of_getElem? (i := 23) rfl)) (hw _ (List.mem_of_getElem? (i := 7) rfl)) (hw _ (List.mem_of_getElem? (i := 25) rfl)) (by decide) (rm5 l Z a0 hw (F2 x0 (0 : Int64)) (F2 x2 (0 : Int64)) a3 a11 T18.heap n0 Z23 E20 Fd21 E22 Fd19 o1) 0 (by decide) (by decide) rfl a3 E20 (g := (mkF m 34 #[.val (.long x0), .second, .val (.long x2), .second, .val (.ref a3), .val (.ref a11), .unset] [(.ref a11), (.ref a3)])) rfl (by rw [hml]; rfl)  [(.ref a11)] [] (lenOf pd_4 rfl) rfl (by show 2 * 0 + _ ≤ _; exact Nat.le_of_eq rfl) (hb hby at_34) rfl (by decide) (by decide) (fun v24 T24 L24 X24 hQ24 => ?_)
    obtain ⟨a24_q0, rfl, Nq24, Kq24, fr25, E26, Fd27⟩ := hQ24
    have N24 := Fr.app N18 Nq24
    show Ends p e below s _ _ _ (T24.setTop (mkF m 37 #[.val (.long x0), .second, .val (.long x2), .second, .val (.ref a3), .val (.ref a11), .unset] [(.ref a24_q0)]))
    have E28 := E20.keep Kq24
    have Fd29 := Fd21.keep Kq24 nin0
    have E30 := E22.keep Kq24
    have Fd31 := Fd19.keep Kq24 nin0
    have g32 : n0 ≤ a24_q0 := Nat.le_trans Z23 fr25
    have ne33 : a3 ≠ a24_q0 := Nat.ne_of_lt (Nat.lt_of_lt_of_le E20.lt fr25)
    have ne34 : a11 ≠ a24_q0 := Nat.ne_of_lt (Nat.lt_of_lt_of_le E22.lt fr25)
    have Z35 := Nat.le_trans Z23 Kq24.1
    refine Ends.step (u' := (T24.setTop (mkF m 39 #[.val (.long x0), .second, .val (.long x2), .second, .val (.ref a3), .val (.ref a11), .val (.ref a24_q0)] []))) ?_ (fun _ k => XS.astore X24.here hx rfl (hb hby at_37) rfl rfl (l' := #[.val (.long x0), .second, .val (.long x2), .second, .val (.ref a3), .val (.ref a11), .val (.ref a24_q0)]) rfl k)
    refine Ends.step (u' := (T24.setTop (mkF m 41 #[.val (.long x0), .second, .val (.long x2), .second, .val (.ref a3), .val (.ref a11), .val (.ref a24_q0)] [(.ref a24_q0)]))) ?_ (fun _ k => XS.aload X24.here hx rfl (hb hby at_39) rfl rfl k)
    refine Ends.callV X24 hx hZ hown (hw _ (List.mem_of_getElem? (i := 32) rfl)) (hw _ (List.mem_of_getElem? (i := 33) rfl)) (hw _ (List.mem_of_getElem? (i := 35) rfl)) (hw _ (List.mem_of_getElem? (i := 34) rfl)) (hw _ (List.mem_of_getElem? (i := 7) rfl)) (hw _ (List.mem_of_getElem? (i := 36) rfl)) (by decide) (rm7 l Z a0 hw (F5 (F2 x0 (0 : Int64)) (F2 x2 (0 : Int64))) a24_q0 T24.heap n0 Z35 E26 Fd27) 0 (by decide) (by decide) rfl a24_q0 E26 (g := (mkF m 41 #[.val (.long x0), .second, .val (.long x2), .second, .val (.ref a3), .val (.ref a11), .val (.ref a24_q0)] [(.ref a24_q0)])) rfl (by rw [hml]; rfl)  [] [] (lenOf pd_5 rfl) rfl (by show 2 * 0 + _ ≤ _; exact Nat.le_of_eq rfl) (hb hby at_41) rfl (by decide) (by decide) (fun v36 T36 L36 X36 hQ36 => ?_)
    obtain ⟨rfl, Nq36, e36⟩ := hQ36
    have N36 := Fr.app N24 Nq36
    show Ends p e below s _ _ _ (T36.setTop (mkF m 44 #[.val (.long x0), .second, .val (.long x2), .second, .val (.ref a3), .val (.ref a11), .val (.ref a24_q0)] [(.long (F7 (F5 (F2 x0 (0 : Int64)) (F2 x2 (0 : Int64)))))]))
    refine Ends.step (u' := (T36.setTop (mkF m 45 #[.val (.long x0), .second, .val (.long x2), .second, .val (.ref a3), .val (.ref a11), .val (.ref a24_q0)] [(.long x0), (.long (F7 (F5 (F2 x0 (0 : Int64)) (F2 x2 (0 : Int64)))))]))) ?_ (fun _ k => XT.lloadN X36.here hx rfl (hb hby at_44) rfl k)
    refine Ends.step (u' := (T36.setTop (mkF m 46 #[.val (.long x0), .second, .val (.long x2), .second, .val (.ref a3), .val (.ref a11), .val (.ref a24_q0)] [(.long x2), (.long x0), (.long (F7 (F5 (F2 x0 (0 : Int64)) (F2 x2 (0 : Int64)))))]))) ?_ (fun _ k => XT.lloadN X36.here hx rfl (hb hby at_45) rfl k)
    refine Ends.step (u' := (T36.setTop (mkF m 47 #[.val (.long x0), .second, .val (.long x2), .second, .val (.ref a3), .val (.ref a11), .val (.ref a24_q0)] [(.long (x0 - x2)), (.long (F7 (F5 (F2 x0 (0 : Int64)) (F2 x2 (0 : Int64)))))]))) ?_ (fun _ k => XT.lsub X36.here hx rfl (hb hby at_46) rfl k)
    refine Ends.step (u' := (T36.setTop (mkF m 48 #[.val (.long x0), .second, .val (.long x2), .second, .val (.ref a3), .val (.ref a11), .val (.ref a24_q0)] [(.int (XT.cmpL (F7 (F5 (F2 x0 (0 : Int64)) (F2 x2 (0 : Int64)))) (x0 - x2)))]))) ?_ (fun _ k => XT.lcmp X36.here hx rfl (hb hby at_47) rfl k)
    by_cases hc48 : (F7 (F5 (F2 x0 (0 : Int64)) (F2 x2 (0 : Int64)))) = (x0 - x2)
    · refine Eq.mp (congrArg (fun z => Ends p e below s 3 3 (Q0 Z  h0 n0 z) (T36.setTop (mkF m 48 #[.val (.long x0), .second, .val (.long x2), .second, .val (.ref a3), .val (.ref a11), .val (.ref a24_q0)] [(.int (XT.cmpL (F7 (F5 (F2 x0 (0 : Int64)) (F2 x2 (0 : Int64)))) (x0 - x2)))]))) (show (F0_10 x0 x2) = (F0_51 (F2 x0 (0 : Int64)) (F2 x2 (0 : Int64)) x0 x2) from (if_pos hc48)).symm) ?_
      refine Ends.step (u' := (T36.setTop (mkF m 51 #[.val (.long x0), .second, .val (.long x2), .second, .val (.ref a3), .val (.ref a11), .val (.ref a24_q0)] []))) ?_ (fun _ k => XS.ifNo X36.here hx rfl (hb hby at_48) rfl (XT.ll_ne_f hc48) k)
      exact b51 T36 _ _ X36 e36 N36 Z35 (F2 x0 (0 : Int64)) (F2 x2 (0 : Int64)) x0 x2 (.val (.ref a24_q0)) (Or.inr ⟨_, rfl, rfl⟩) a3 g5 a11 g16 ne13 E28 Fd29 E30 Fd31
    · refine Eq.mp (congrArg (fun z => Ends p e below s 3 3 (Q0 Z  h0 n0 z) (T36.setTop (mkF m 48 #[.val (.long x0), .second, .val (.long x2), .second, .val (.ref a3), .val (.ref a11), .val (.ref a24_q0)] [(.int (XT.cmpL (F7 (F5 (F2 x0 (0 : Int64)) (F2 x2 (0 : Int64)))) (x0 - x2)))]))) (show (F0_10 x0 x2) = F0_75 from (if_neg hc48)).symm) ?_
      refine Ends.step (u' := (T36.setTop (mkF m 75 #[.val (.long x0), .second, .val (.long x2), .second, .val (.ref a3), .val (.ref a11), .val (.ref a24_q0)] []))) ?_ (fun _ k => XS.ifYes X36.here hx rfl (pc0 := 48) (pc' := 75) rfl (hb hby at_48) rfl (XT.ll_ne_t hc48) (by decide) (by decide) k)
      exact b75 T36 _ _ X36 e36 N36 Z35 x0 x2 (.val (.ref a3)) (Or.inr ⟨_, rfl, rfl⟩) (.val (.ref a11)) (Or.inr ⟨_, rfl, rfl⟩) (.val (.ref a24_q0)) (Or.inr ⟨_, rfl, rfl⟩)
  refine Ends.step (u' := (s₁.setTop (mkF m 0 #[.val (.long p0), .second, .val (.long p1), .second, .unset, .unset, .unset] []))) ?_ (fun _ k => castTop (ef_0 m p0 p1) k)
  obtain ⟨okt, okf⟩ := ok
  refine Ends.step (u' := (s₁.setTop (mkF m 1 #[.val (.long p0), .second, .val (.long p1), .second, .unset, .unset, .unset] [(.long p0)]))) ?_ (fun _ k => XT.lloadN X0.here hx rfl (hb hby at_0) rfl k)
  refine Ends.step (u' := (s₁.setTop (mkF m 2 #[.val (.long p0), .second, .val (.long p1), .second, .unset, .unset, .unset] [(.long p1), (.long p0)]))) ?_ (fun _ k => XT.lloadN X0.here hx rfl (hb hby at_1) rfl k)
  refine Ends.callS X0 hx hZ hown (hw _ (List.mem_of_getElem? (i := 0) rfl)) (hw _ (List.mem_of_getElem? (i := 1) rfl)) (hw _ (List.mem_of_getElem? (i := 2) rfl)) (hw _ (List.mem_of_getElem? (i := 3) rfl)) (by decide) (rm1 l Z a0 hw p0 p1 h0 n0 Z0) 0 (by decide) (by decide) e0  (g := (mkF m 2 #[.val (.long p0), .second, .val (.long p1), .second, .unset, .unset, .unset] [(.long p1), (.long p0)])) rfl (by rw [hml]; rfl)  [(.long p0), (.long p1)] [] (lenOf pd_3 rfl) rfl (by show 2 * 0 + _ ≤ _; exact Nat.le_of_eq rfl) (hb hby at_2) rfl (by decide) (by decide) (fun v37 T37 L37 X37 hQ37 => ?_)
  obtain ⟨rfl, Nq37, e37⟩ := hQ37
  have N37 := Fr.app N0 Nq37
  show Ends p e below s _ _ _ (T37.setTop (mkF m 5 #[.val (.long p0), .second, .val (.long p1), .second, .unset, .unset, .unset] [(.int (F1 p0 p1))]))
  by_cases hc5 : (F1 p0 p1) = 0
  · refine Eq.mp (congrArg (fun z => Ends p e below s 3 3 (Q0 Z  h0 n0 z) (T37.setTop (mkF m 5 #[.val (.long p0), .second, .val (.long p1), .second, .unset, .unset, .unset] [(.int (F1 p0 p1))]))) (show (F0 p0 p1) = F0_8 from (if_pos hc5)).symm) ?_
    refine Ends.step (u' := (T37.setTop (mkF m 8 #[.val (.long p0), .second, .val (.long p1), .second, .unset, .unset, .unset] []))) ?_ (fun _ k => XS.ifNo X37.here hx rfl (hb hby at_5) rfl (XT.i0_ne_f hc5) k)
    exact b8 T37 _ _ X37 e37 N37 Z0 p0 p1
  · refine Eq.mp (congrArg (fun z => Ends p e below s 3 3 (Q0 Z  h0 n0 z) (T37.setTop (mkF m 5 #[.val (.long p0), .second, .val (.long p1), .second, .unset, .unset, .unset] [(.int (F1 p0 p1))]))) (show (F0 p0 p1) = (F0_10 p0 p1) from (if_neg hc5)).symm) ?_
    refine Ends.step (u' := (T37.setTop (mkF m 10 #[.val (.long p0), .second, .val (.long p1), .second, .unset, .unset, .unset] []))) ?_ (fun _ k => XS.ifYes X37.here hx rfl (pc0 := 5) (pc' := 10) rfl (hb hby at_5) rfl (XT.i0_ne_t hc5) (by decide) (by decide) k)
    exact b10 T37 _ _ X37 e37 N37 Z0 p0 p1 (okf hc5)
theorem own_ok (a b : Int64) (h : XT.fits64 (a.toInt - b.toInt)) : O0_10 a b ∧ F0_10 a b = 1 := by
  have n : ¬ ((a ^^^ b) &&& (a ^^^ (a - b))) < 0 := XT.subOk64 h
  have v : F6 a b = a - b := if_neg n
  refine ⟨⟨⟨⟨fun q => absurd q n, fun _ => trivial⟩, trivial⟩, fun _ => trivial, fun _ => trivial⟩, ?_⟩
  have e : F0_10 a b = if F6 a b = a - b then F0_51 a b a b else F0_75 := rfl
  rw [e, if_pos v]
  simp only [F0_51, F0_61, F7, if_true]
  rfl
theorem own_law (i0 : Int64) (i1 : Int64) : O0 i0 i1 ∧ F0 i0 i1 = 1 := by
  have a1 := Int64.le_toInt i0
  have a2 := Int64.toInt_lt i0
  have b1 := Int64.le_toInt i1
  have b2 := Int64.toInt_lt i1
  have z : (0 : Int64).toInt = 0 := rfl
  have mx : (9223372036854775807 : Int64).toInt = 9223372036854775807 := rfl
  have mn : (-9223372036854775808 : Int64).toInt = -9223372036854775808 := rfl
  have key : F1 i0 i1 = 0 ∨ XT.fits64 (i0.toInt - i1.toInt) := by
    by_cases c1 : (0 : Int64) < i1
    · have n1 : 0 < i1.toInt := by rw [Int64.lt_iff_toInt_lt, z] at c1; exact c1
      have e : ((-9223372036854775808 : Int64) + i1).toInt = -9223372036854775808 + i1.toInt := by
        rw [Int64.toInt_add, mn]; apply Int.bmod_eq_of_le <;> omega
      by_cases c2 : i0 < (-9223372036854775808 : Int64) + i1
      · exact Or.inl ((if_pos c1).trans (if_pos c2))
      · rw [Int64.lt_iff_toInt_lt, e] at c2
        exact Or.inr ⟨by omega, by omega⟩
    · have n1 : ¬ 0 < i1.toInt := by rw [Int64.lt_iff_toInt_lt, z] at c1; exact c1
      have e : ((9223372036854775807 : Int64) + i1).toInt = 9223372036854775807 + i1.toInt := by
        rw [Int64.toInt_add, mx]; apply Int.bmod_eq_of_le <;> omega
      by_cases c2 : (9223372036854775807 : Int64) + i1 < i0
      · exact Or.inl ((if_neg c1).trans (if_pos c2))
      · rw [Int64.lt_iff_toInt_lt, e] at c2
        exact Or.inr ⟨by omega, by omega⟩
  by_cases c : F1 i0 i1 = 0
  · exact ⟨⟨fun _ => trivial, fun q => absurd c q⟩, (if_pos c).trans rfl⟩
  · have t := own_ok i0 i1 (key.resolve_left c)
    exact ⟨⟨fun q => absurd q c, fun _ => t.1⟩, (if_neg c).trans t.2⟩
set_option maxRecDepth 65536 in
set_option maxHeartbeats 40000000 in
theorem comes_1 {Post : Tables → Env → Array Value → State → Outcome → State → Prop} (hpost : ∀ tb e args s v u, (limb_1_1.after args s (.returned v) u = true ∧ limb_1_2.after args s (.returned v) u = true ∧ True) → FrameEnd s (.returned v) u (Jvm.fieldLocs frame_1_writes args s ++ Jvm.arrayLocs frame_1_arrays args s ++ Jvm.staticLocs frame_1_statics s) 16 128 → Post tb e args s (.returned v) u) :
    ArmFor flags0 classFile x code maxLocals ret World_1 tables_1 room_1 Calls_1 rest_1 Pre_1 Post := by
  intro l hfl _ _ p e ha hc hk s m args below hf hA hF happ hP
  obtain ⟨hcalls, hrest, hpre⟩ := hP
  obtain ⟨-, -, -, hnamed, -, -, -, hat⟩ := (Spec.applies_iff hf).mp happ
  obtain ⟨hg, hn⟩ := and_e (Cond.before_iff.mp (show (Jvm.Cond.and given_1 narrow_1).before args s = true from hpre))
  obtain ⟨h1, r0⟩ := and_e hg
  obtain ⟨k0, r1⟩ := and_e r0
  obtain ⟨w0, w1, rfl⟩ : ∃ w0 w1 : Value, args = #[w0, w1] := by
    have hs : args.size = 2 := by simpa [Cond.value, given_1] using h1
    obtain ⟨L⟩ := args
    match L, hs with
    | [w0, w1], _ => exact ⟨w0, w1, rfl⟩
  have hw := fun d (hd : d ∈ tables_1) => atoms_spec (ws := Jvm.Cond.code x code maxLocals ret :: tables_1) hat d (List.mem_cons_of_mem _ hd)
  obtain ⟨i0, e0⟩ := isL_v k0
  obtain rfl : w0 = (.long i0) := Option.some.inj e0
  obtain ⟨i1, e1⟩ := isL_v r1
  obtain rfl : w1 = (.long i1) := Option.some.inj e1
  obtain ⟨ok, val⟩ := own_law i0 i1
  obtain ⟨n, o, h1, h2, h3, _, L, rfl, ⟨rfl, N⟩, hq⟩ := rm0 l s _ hw i0 i1 s.heap s.heap.size (Nat.le_refl _) ok p e ha hc hk s m _ below hf ((Spec.applies_iff_loose hf).mp happ).1 ⟨rfl, State.Warmed39.refl s, rfl⟩ trivial
  refine ⟨n, _, h1, h2, h3, hpost _ _ _ _ _ _ ⟨Cond.after_iff.mpr rfl, Cond.after_iff.mpr (eq_i res_at (Term.int_eval (1)) (by rw [val])), trivial⟩ ⟨hq.1, hq.2.1, (hq.2.2.sift fun y hy => Or.inr (N y hy)).mono (by decide) (by decide)⟩⟩
theorem main_1_1 : Claimed_1_1 := comes_1 fun _ _ _ _ _ _ h hF => ⟨h.1, hF⟩
theorem main_1_2 : Claimed_1_2 := comes_1 fun _ _ _ _ _ _ h hF => ⟨h.2.1, hF⟩
end Jvm.Pilot.@@N@@
namespace Jvm.Pilot.@@N@@
open Jvm Jvm.ClassFile Sem Op Lib Jvm.Free Jvm.Stand Jvm.Pilot.@@N@@.Jvm.D
/-! MADE BY PROGRAM (witnessworld.py) out of the Statement's table words and the real class files: 12 classes; the members and pool entries that the words name. The judged class is class 1, her method 2. -/
namespace start1
open Jvm.ClassFile
def u (s : String) : CpInfo := .utf8 (stringToUtf16 s)
/-- a pool by its gaps: so many unusable entries, then the entry; so many at the end -/
def gap : Nat → List CpInfo → List CpInfo
  | 0, r => r
  | n + 1, r => .unusable :: gap n r
def poolList (es : List (Nat × CpInfo)) (last : Nat) : List CpInfo := es.foldr (fun e r => gap e.1 (e.2 :: r)) (gap last [])
def pool (es : List (Nat × CpInfo)) (last : Nat) : Array CpInfo := ⟨poolList es last⟩
def fileOf (pool : Array CpInfo) (this : Nat) (attrs : Array Attribute := #[]) (ms : Array MethodInfo := #[]) (fl : Nat := 33) (sup : Nat := 0) (ifs : Array Nat := #[]) (fds : Array FieldInfo := #[]) : ClassFile where
  minorVersion := 0
  majorVersion := 65
  constantPool := pool
  accessFlags := fl
  thisClass := this
  superClass := sup
  interfaces := ifs
  fields := fds
  methods := ms
  attributes := attrs
def plain (name : String) (sup : Option ClassId) : Class where
  name := name
  kind := .ordinary
  loader := none
  accessFlags := 33
  super := sup
  interfaces := #[]
  cf := none
  fields := #[]
  methods := #[]
  instanceTypes := #[]
  staticTypes := #[]
  resolved := #[]
  callSites := []
  init := .initialized
  statics := none
  mirror := none

def pool0 : Array CpInfo := pool [(5, u "<init>"), (0, u "()V"), (1, .class_ 10), (1, u "java/lang/Object")] 113

def k0c0 : Code := { maxStack := 0, maxLocals := 1, code := object_method_1_code, exceptionTable := #[], attributes := #[] }
def k0m0 : Method := { name := "<init>", desc := "()V", sig := { parameters := [], returnType := none }, accessFlags := 1, code := some k0c0 }
/-- java/lang/Object -/
def k0 : Class := { plain "java/lang/Object" none with
  accessFlags := 33
  interfaces := #[]
  cf := some (fileOf pool0 8 #[] #[{ accessFlags := 1, nameIndex := 5, descriptorIndex := 6, attributes := #[] }] 33 0 #[] #[])
  fields := #[]
  methods := #[k0m0]
  instanceTypes := #[]
  staticTypes := #[]
  resolved := Array.replicate 124 none
  statics := none }

def pool1 : Array CpInfo := pool [(2, .class_ 4), (1, u "java/lang/Object"), (0, u "<init>"), (0, u "()V"), (2, .long 9223372036854775808), (1, .long 9223372036854775807), (1, .methodref 14 15), (0, .class_ 16), (0, .nameAndType 17 18), (0, u "com/example/waybill/waybill/core/MoneyMinusPinLaw"), (0, u "fits"), (0, u "(JJ)Z"), (0, .class_ 20), (0, u "com/example/waybill/waybill/core/Money"), (0, .methodref 19 22), (0, .nameAndType 5 23), (0, u "(J)V"), (0, .methodref 19 25), (0, .nameAndType 26 27), (0, u "minus"), (0, u "(Lcom/example/waybill/waybill/core/Money;)Lcom/example/waybill/waybill/core/Money;"), (0, .methodref 19 29), (0, .nameAndType 30 31), (0, u "cents"), (0, u "()J"), (3, u "law")] 2

def k1m0 : Method := { name := "<init>", desc := "()V", sig := { parameters := [], returnType := none }, accessFlags := 2, code := none }
def k1c1 : Code := { maxStack := 6, maxLocals := 4, code := method_2_code, exceptionTable := #[], attributes := #[] }
def k1m1 : Method := { name := "fits", desc := "(JJ)Z", sig := { parameters := [.long, .long], returnType := some .boolean }, accessFlags := 10, code := some k1c1 }
def k1c2 : Code := { maxStack := 6, maxLocals := 7, code := code, exceptionTable := #[], attributes := #[] }
def k1m2 : Method := { name := "law", desc := "(JJ)Z", sig := { parameters := [.long, .long], returnType := some .boolean }, accessFlags := 9, code := some k1c2 }
/-- com/example/waybill/waybill/core/MoneyMinusPinLaw -/
def k1 : Class := { plain "com/example/waybill/waybill/core/MoneyMinusPinLaw" (some 0) with
  accessFlags := 49
  interfaces := #[]
  cf := some (fileOf pool1 14 #[] #[{ accessFlags := 2, nameIndex := 5, descriptorIndex := 6, attributes := #[] }, { accessFlags := 10, nameIndex := 17, descriptorIndex := 18, attributes := #[] }, { accessFlags := 9, nameIndex := 35, descriptorIndex := 18, attributes := #[] }] 49 2 #[] #[])
  fields := #[]
  methods := #[k1m0, k1m1, k1m2]
  instanceTypes := #[]
  staticTypes := #[]
  resolved := Array.replicate 38 none
  statics := none }

def pool2 : Array CpInfo := pool [(1, .methodref 2 3), (0, .class_ 4), (0, .nameAndType 5 6), (0, u "java/lang/Object"), (0, u "<init>"), (0, u "()V"), (0, .class_ 8), (0, u "java/lang/Record")] 13

def k2c0 : Code := { maxStack := 1, maxLocals := 1, code := jdk_30_method_1_code, exceptionTable := #[], attributes := #[] }
def k2m0 : Method := { name := "<init>", desc := "()V", sig := { parameters := [], returnType := none }, accessFlags := 4, code := some k2c0 }
/-- java/lang/Record -/
def k2 : Class := { plain "java/lang/Record" (some 0) with
  accessFlags := 1057
  interfaces := #[]
  cf := some (fileOf pool2 7 #[] #[{ accessFlags := 4, nameIndex := 5, descriptorIndex := 6, attributes := #[] }] 1057 2 #[] #[])
  fields := #[]
  methods := #[k2m0]
  instanceTypes := #[]
  staticTypes := #[]
  resolved := Array.replicate 22 none
  statics := none }

def pool3 : Array CpInfo := pool [(1, .class_ 2), (0, u "java/lang/Comparable"), (0, .class_ 4), (0, u "java/lang/Object")] 7

/-- java/lang/Comparable -/
def k3 : Class := { plain "java/lang/Comparable" (some 0) with
  accessFlags := 1537
  interfaces := #[]
  cf := some (fileOf pool3 1 #[] #[] 1537 3 #[] #[])
  fields := #[]
  methods := #[]
  instanceTypes := #[]
  staticTypes := #[]
  resolved := Array.replicate 12 none
  statics := none }

def pool4 : Array CpInfo := pool [(1, .methodref 2 3), (0, .class_ 4), (0, .nameAndType 5 6), (0, u "java/lang/Record"), (0, u "<init>"), (0, u "()V"), (0, .fieldref 8 9), (0, .class_ 10), (0, .nameAndType 11 12), (0, u "com/example/waybill/waybill/core/Money"), (0, u "cents"), (0, u "J"), (40, u "()J"), (0, .methodref 8 55), (0, .nameAndType 5 56), (0, u "(J)V"), (7, .class_ 66), (1, u "java/lang/Math"), (1, u "(JJ)J"), (0, .methodref 64 70), (0, .nameAndType 71 68), (0, u "subtractExact"), (30, u "ZERO"), (0, u "Lcom/example/waybill/waybill/core/Money;"), (0, .class_ 105), (0, u "java/lang/Comparable"), (0, u "CURRENCY"), (0, u "Ljava/lang/String;"), (10, u "(Lcom/example/waybill/waybill/core/Money;)Lcom/example/waybill/waybill/core/Money;"), (0, u "minus")] 35

def k4c0 : Code := { maxStack := 3, maxLocals := 3, code := prog_23_method_1_code, exceptionTable := #[], attributes := #[] }
def k4m0 : Method := { name := "<init>", desc := "(J)V", sig := { parameters := [.long], returnType := none }, accessFlags := 1, code := some k4c0 }
def k4c1 : Code := { maxStack := 6, maxLocals := 2, code := prog_23_method_4_code, exceptionTable := #[], attributes := #[] }
def k4m1 : Method := { name := "minus", desc := "(Lcom/example/waybill/waybill/core/Money;)Lcom/example/waybill/waybill/core/Money;", sig := { parameters := [(.object "com/example/waybill/waybill/core/Money")], returnType := some (.object "com/example/waybill/waybill/core/Money") }, accessFlags := 1, code := some k4c1 }
def k4c2 : Code := { maxStack := 2, maxLocals := 1, code := prog_23_method_10_code, exceptionTable := #[], attributes := #[] }
def k4m2 : Method := { name := "cents", desc := "()J", sig := { parameters := [], returnType := some .long }, accessFlags := 1, code := some k4c2 }
/-- com/example/waybill/waybill/core/Money -/
def k4 : Class := { plain "com/example/waybill/waybill/core/Money" (some 2) with
  accessFlags := 49
  interfaces := #[3]
  cf := some (fileOf pool4 8 #[] #[{ accessFlags := 1, nameIndex := 5, descriptorIndex := 56, attributes := #[] }, { accessFlags := 1, nameIndex := 119, descriptorIndex := 118, attributes := #[] }, { accessFlags := 1, nameIndex := 11, descriptorIndex := 53, attributes := #[] }] 49 2 #[104] #[{ accessFlags := 18, nameIndex := 11, descriptorIndex := 12, attributes := #[] }, { accessFlags := 25, nameIndex := 106, descriptorIndex := 107, attributes := #[] }, { accessFlags := 25, nameIndex := 102, descriptorIndex := 103, attributes := #[] }])
  fields := #[{ name := "cents", type := .long, accessFlags := 18, slot := 0, constantValue := 0 }, { name := "CURRENCY", type := (.object "java/lang/String"), accessFlags := 25, slot := 0, constantValue := 0 }, { name := "ZERO", type := (.object "com/example/waybill/waybill/core/Money"), accessFlags := 25, slot := 1, constantValue := 0 }]
  methods := #[k4m0, k4m1, k4m2]
  instanceTypes := #[.long]
  staticTypes := #[(.object "java/lang/String"), (.object "com/example/waybill/waybill/core/Money")]
  resolved := Array.replicate 155 none
  statics := none }

def pool5 : Array CpInfo := pool [(1, .class_ 2), (0, u "java/lang/Math"), (1, .class_ 6), (1, u "java/lang/Object"), (0, u "<init>"), (0, u "()V"), (89, .class_ 100), (1, u "java/lang/Math$RandomNumberGeneratorHolder"), (20, u "(JJ)J"), (50, u "negativeZeroFloatBits"), (0, u "J"), (2, u "negativeZeroDoubleBits"), (68, u "$assertionsDisabled"), (0, u "Z"), (91, u "twoToTheDoubleScaleDown"), (0, u "D"), (4, u "twoToTheDoubleScaleUp"), (9, u "E"), (3, u "PI"), (2, u "TAU"), (2, u "DEGREES_TO_RADIANS"), (0, u "RADIANS_TO_DEGREES"), (28, u "subtractExact")] 65

def k5m0 : Method := { name := "<init>", desc := "()V", sig := { parameters := [], returnType := none }, accessFlags := 2, code := none }
def k5c1 : Code := { maxStack := 6, maxLocals := 6, code := jdk_29_method_27_code, exceptionTable := #[], attributes := #[] }
def k5m1 : Method := { name := "subtractExact", desc := "(JJ)J", sig := { parameters := [.long, .long], returnType := some .long }, accessFlags := 9, code := some k5c1 }
/-- java/lang/Math -/
def k5 : Class := { plain "java/lang/Math" (some 0) with
  accessFlags := 49
  interfaces := #[]
  cf := some (fileOf pool5 1 #[.nestMembers #[98]] #[{ accessFlags := 2, nameIndex := 7, descriptorIndex := 8, attributes := #[] }, { accessFlags := 9, nameIndex := 394, descriptorIndex := 121, attributes := #[] }] 49 4 #[] #[{ accessFlags := 25, nameIndex := 354, descriptorIndex := 339, attributes := #[] }, { accessFlags := 25, nameIndex := 358, descriptorIndex := 339, attributes := #[] }, { accessFlags := 25, nameIndex := 361, descriptorIndex := 339, attributes := #[] }, { accessFlags := 26, nameIndex := 364, descriptorIndex := 339, attributes := #[] }, { accessFlags := 26, nameIndex := 365, descriptorIndex := 339, attributes := #[] }, { accessFlags := 26, nameIndex := 172, descriptorIndex := 173, attributes := #[] }, { accessFlags := 26, nameIndex := 176, descriptorIndex := 173, attributes := #[] }, { accessFlags := 8, nameIndex := 344, descriptorIndex := 339, attributes := #[] }, { accessFlags := 8, nameIndex := 338, descriptorIndex := 339, attributes := #[] }, { accessFlags := 4120, nameIndex := 245, descriptorIndex := 246, attributes := #[] }])
  fields := #[{ name := "E", type := .double, accessFlags := 25, slot := 0, constantValue := 0 }, { name := "PI", type := .double, accessFlags := 25, slot := 1, constantValue := 0 }, { name := "TAU", type := .double, accessFlags := 25, slot := 2, constantValue := 0 }, { name := "DEGREES_TO_RADIANS", type := .double, accessFlags := 26, slot := 3, constantValue := 0 }, { name := "RADIANS_TO_DEGREES", type := .double, accessFlags := 26, slot := 4, constantValue := 0 }, { name := "negativeZeroFloatBits", type := .long, accessFlags := 26, slot := 5, constantValue := 0 }, { name := "negativeZeroDoubleBits", type := .long, accessFlags := 26, slot := 6, constantValue := 0 }, { name := "twoToTheDoubleScaleUp", type := .double, accessFlags := 8, slot := 7, constantValue := 0 }, { name := "twoToTheDoubleScaleDown", type := .double, accessFlags := 8, slot := 8, constantValue := 0 }, { name := "$assertionsDisabled", type := .boolean, accessFlags := 4120, slot := 9, constantValue := 0 }]
  methods := #[k5m0, k5m1]
  instanceTypes := #[]
  staticTypes := #[.double, .double, .double, .double, .double, .long, .long, .double, .double, .boolean]
  resolved := Array.replicate 460 none
  statics := none }

def pool6 : Array CpInfo := pool [(1, u "java/lang/Cloneable"), (0, .class_ 1), (0, u "java/lang/Object"), (0, .class_ 3)] 3

/-- java/lang/Cloneable -/
def k6 : Class := { plain "java/lang/Cloneable" (some 0) with
  accessFlags := 1537
  interfaces := #[]
  cf := some (fileOf pool6 2 #[] #[] 1537 4 #[] #[])
  fields := #[]
  methods := #[]
  instanceTypes := #[]
  staticTypes := #[]
  resolved := Array.replicate 8 none
  statics := none }

def pool7 : Array CpInfo := pool [(1, u "java/io/Serializable"), (0, .class_ 1), (0, u "java/lang/Object"), (0, .class_ 3)] 3

/-- java/io/Serializable -/
def k7 : Class := { plain "java/io/Serializable" (some 0) with
  accessFlags := 1537
  interfaces := #[]
  cf := some (fileOf pool7 2 #[] #[] 1537 4 #[] #[])
  fields := #[]
  methods := #[]
  instanceTypes := #[]
  staticTypes := #[]
  resolved := Array.replicate 8 none
  statics := none }

/-- the primitive byte -/
def k8 : Class := { plain "byte" none with kind := .primitive 'B', accessFlags := 0x411 }
/-- [B -/
def k9 : Class := { plain "[B" (some 0) with kind := .array 8 .byte, interfaces := #[6, 7], accessFlags := 1041 }

/-- the primitive int -/
def k10 : Class := { plain "int" none with kind := .primitive 'I', accessFlags := 0x411 }
/-- [I -/
def k11 : Class := { plain "[I" (some 0) with kind := .array 10 .int, interfaces := #[6, 7], accessFlags := 1041 }

def heap : Heap := #[]
def classes : Array Class := #[k0, k1, k2, k3, k4, k5, k6, k7, k8, k9, k10, k11]
def interned : List (Array UInt16 × Addr) := []
def slotsUsed : Nat := 0
def theMethod : MethodId := ⟨1, 2⟩
def args0 : Array Value := #[.long 5, .long 7]
def aboutOver (below : List Frame) : State where
  vm := { classes := classes, interned := interned.toArray }
  heap := heap
  slotsUsed := slotsUsed
  threads := #[{ frames := .invoking theMethod args0 :: below }]
def below0 : List Frame := [.native { method := ⟨0, 0⟩, args := #[] }]
def about1 : State := aboutOver below0
def p0 : Program := .bare "" "" ""
def e0 : Env := launch0.env 0 0 0
theorem w_frames : about1.frames = Frame.invoking theMethod args0 :: below0 := rfl
set_option maxRecDepth 65536 in
theorem w_args : argsFit about1.vm theMethod args0 = true := by decide +kernel
set_option maxRecDepth 65536 in
theorem w_heap : heapFits about1 = true := by decide +kernel
set_option maxRecDepth 65536 in
theorem w_runnable : about1.curStatus? = some .runnable := by decide +kernel
set_option maxRecDepth 65536 in
theorem w_alone : about1.alone = true := by decide +kernel
set_option maxRecDepth 65536 in
theorem w_named : about1.methodNamed? x = some theMethod := by decide +kernel
set_option maxRecDepth 65536 in
theorem w_hears : about1.hears theMethod below0 = true := by decide +kernel
set_option maxRecDepth 65536 in
theorem w_ripe : about1.ripe theMethod args0 below0 = true := by decide +kernel
theorem w_running : about1.status = .running := rfl
set_option maxRecDepth 65536 in
theorem w_room : about1.hasRoom e0.platform room_1 = true :=
  launch0.hasRoom_least _ room_1 (by decide +kernel) (by decide +kernel) (by decide +kernel) (by decide +kernel) (by decide +kernel) (by decide +kernel)
theorem allAtoms_all (ts : List Jvm.Cond) (a : Array Jvm.Value) (st : Jvm.State) : (allAtoms ts).before a st = ts.all (fun c => c.before a st) := by
  induction ts with
  | nil => rfl
  | cons c t ih =>
    show (Jvm.Cond.and c (allAtoms t)).before a st = _
    rw [Jvm.Cond.before_and, ih, List.all_cons]
def words1 : List Jvm.Cond := Jvm.Cond.code x code maxLocals ret :: tables_1
/-- a 'code' word, met by the world's own term for the bytes: nothing is compared byte by byte -/
theorem code_word {y : MethodName} {bytes : ByteArray} {mx : Nat} {rt : Option FieldType} {a : Array Value} {s : State} {m : MethodId} {meth : Method} {c : Code} (h1 : s.methodNamed? y = some m) (h2 : s.vm.method? m = some meth) (h3 : meth.code = some c) (h4 : c.code = bytes)
    (h5 : (c.maxLocals == mx && c.exceptionTable.isEmpty && decide (c.maxStack ≤ mostOperands) && decide (meth.sig.returnType = rt) && !meth.locks && decide (parseMethodDescriptor y.desc = some meth.sig)) = true) : (Jvm.Cond.code y bytes mx rt).before a s = true := by
  simp only [Bool.and_eq_true, beq_iff_eq, Bool.not_eq_true', decide_eq_true_eq] at h5
  obtain ⟨⟨⟨⟨⟨g1, g2⟩, g3⟩, g4⟩, g5⟩, g6⟩ := h5
  simp [Cond.before, Cond.holds, Cond.value, h1, h2, h3, h4, g1, g2, g3, g4, g5, g6]
def isCode : Jvm.Cond → Bool
  | .code _ _ _ _ => true
  | _ => false
theorem all_split {L : List Jvm.Cond} {P : Jvm.Cond → Bool} (h1 : L.all (fun c => isCode c || P c) = true) (h2 : ∀ c ∈ L.filter isCode, P c = true) : L.all P = true := by
  refine List.all_eq_true.mpr fun c hc => ?_
  have h := List.all_eq_true.mp h1 c hc
  rcases Bool.eq_false_or_eq_true (isCode c) with hi | hi
  · exact h2 c (List.mem_filter.mpr ⟨hc, hi⟩)
  · simpa [hi] using h
set_option maxRecDepth 65536 in
theorem w_c0 : (Jvm.Cond.code x code maxLocals ret).before args0 about1 = true := code_word (m := ⟨1, 2⟩) (meth := k1m2) (c := k1c2) (by decide +kernel) rfl rfl rfl (by decide +kernel)
set_option maxRecDepth 65536 in
theorem w_c1 : (Jvm.Cond.code ({ cls := "com/example/waybill/waybill/core/MoneyMinusPinLaw", name := "fits", desc := "(JJ)Z" } : Jvm.MethodName) method_2_code (4 : Nat) (Option.some Jvm.ClassFile.FieldType.boolean)).before args0 about1 = true := code_word (m := ⟨1, 1⟩) (meth := k1m1) (c := k1c1) (by decide +kernel) rfl rfl rfl (by decide +kernel)
set_option maxRecDepth 65536 in
theorem w_c2 : (Jvm.Cond.code ({ cls := "com/example/waybill/waybill/core/Money", name := "<init>", desc := "(J)V" } : Jvm.MethodName) prog_23_method_1_code (3 : Nat) (Option.none : Option Jvm.ClassFile.FieldType)).before args0 about1 = true := code_word (m := ⟨4, 0⟩) (meth := k4m0) (c := k4c0) (by decide +kernel) rfl rfl rfl (by decide +kernel)
set_option maxRecDepth 65536 in
theorem w_c3 : (Jvm.Cond.code ({ cls := "java/lang/Record", name := "<init>", desc := "()V" } : Jvm.MethodName) jdk_30_method_1_code (1 : Nat) (Option.none : Option Jvm.ClassFile.FieldType)).before args0 about1 = true := code_word (m := ⟨2, 0⟩) (meth := k2m0) (c := k2c0) (by decide +kernel) rfl rfl rfl (by decide +kernel)
set_option maxRecDepth 65536 in
theorem w_c4 : (Jvm.Cond.code ({ cls := "java/lang/Object", name := "<init>", desc := "()V" } : Jvm.MethodName) object_method_1_code (1 : Nat) (Option.none : Option Jvm.ClassFile.FieldType)).before args0 about1 = true := code_word (m := ⟨0, 0⟩) (meth := k0m0) (c := k0c0) (by decide +kernel) rfl rfl rfl (by decide +kernel)
set_option maxRecDepth 65536 in
theorem w_c5 : (Jvm.Cond.code ({ cls := "com/example/waybill/waybill/core/Money", name := "minus", desc := "(Lcom/example/waybill/waybill/core/Money;)Lcom/example/waybill/waybill/core/Money;" } : Jvm.MethodName) prog_23_method_4_code (2 : Nat) (Option.some (Jvm.ClassFile.FieldType.object "com/example/waybill/waybill/core/Money"))).before args0 about1 = true := code_word (m := ⟨4, 1⟩) (meth := k4m1) (c := k4c1) (by decide +kernel) rfl rfl rfl (by decide +kernel)
set_option maxRecDepth 65536 in
theorem w_c6 : (Jvm.Cond.code ({ cls := "java/lang/Math", name := "subtractExact", desc := "(JJ)J" } : Jvm.MethodName) jdk_29_method_27_code (6 : Nat) (Option.some Jvm.ClassFile.FieldType.long)).before args0 about1 = true := code_word (m := ⟨5, 1⟩) (meth := k5m1) (c := k5c1) (by decide +kernel) rfl rfl rfl (by decide +kernel)
set_option maxRecDepth 65536 in
theorem w_c7 : (Jvm.Cond.code ({ cls := "com/example/waybill/waybill/core/Money", name := "cents", desc := "()J" } : Jvm.MethodName) prog_23_method_10_code (1 : Nat) (Option.some Jvm.ClassFile.FieldType.long)).before args0 about1 = true := code_word (m := ⟨4, 2⟩) (meth := k4m2) (c := k4c2) (by decide +kernel) rfl rfl rfl (by decide +kernel)
def codes1 : List Jvm.Cond := [Jvm.Cond.code x code maxLocals ret, Jvm.Cond.code ({ cls := "com/example/waybill/waybill/core/MoneyMinusPinLaw", name := "fits", desc := "(JJ)Z" } : Jvm.MethodName) method_2_code (4 : Nat) (Option.some Jvm.ClassFile.FieldType.boolean), Jvm.Cond.code ({ cls := "com/example/waybill/waybill/core/Money", name := "<init>", desc := "(J)V" } : Jvm.MethodName) prog_23_method_1_code (3 : Nat) (Option.none : Option Jvm.ClassFile.FieldType), Jvm.Cond.code ({ cls := "java/lang/Record", name := "<init>", desc := "()V" } : Jvm.MethodName) jdk_30_method_1_code (1 : Nat) (Option.none : Option Jvm.ClassFile.FieldType), Jvm.Cond.code ({ cls := "java/lang/Object", name := "<init>", desc := "()V" } : Jvm.MethodName) object_method_1_code (1 : Nat) (Option.none : Option Jvm.ClassFile.FieldType), Jvm.Cond.code ({ cls := "com/example/waybill/waybill/core/Money", name := "minus", desc := "(Lcom/example/waybill/waybill/core/Money;)Lcom/example/waybill/waybill/core/Money;" } : Jvm.MethodName) prog_23_method_4_code (2 : Nat) (Option.some (Jvm.ClassFile.FieldType.object "com/example/waybill/waybill/core/Money")), Jvm.Cond.code ({ cls := "java/lang/Math", name := "subtractExact", desc := "(JJ)J" } : Jvm.MethodName) jdk_29_method_27_code (6 : Nat) (Option.some Jvm.ClassFile.FieldType.long), Jvm.Cond.code ({ cls := "com/example/waybill/waybill/core/Money", name := "cents", desc := "()J" } : Jvm.MethodName) prog_23_method_10_code (1 : Nat) (Option.some Jvm.ClassFile.FieldType.long)]
set_option maxRecDepth 65536 in
theorem codes_eq : words1.filter isCode = codes1 := rfl
theorem w_codes : ∀ c ∈ words1.filter isCode, c.before args0 about1 = true := by
  rw [codes_eq]
  intro c hc
  simp only [codes1, List.mem_cons, List.not_mem_nil, or_false] at hc
  rcases hc with rfl | rfl | rfl | rfl | rfl | rfl | rfl | rfl
  · exact w_c0
  · exact w_c1
  · exact w_c2
  · exact w_c3
  · exact w_c4
  · exact w_c5
  · exact w_c6
  · exact w_c7
set_option maxRecDepth 65536 in
theorem w_t1 : (words1.take 24).all (fun c => isCode c || c.before args0 about1) = true := by decide +kernel
set_option maxRecDepth 65536 in
theorem w_t2 : (words1.drop 24).all (fun c => isCode c || c.before args0 about1) = true := by decide +kernel
theorem w_tables : (allAtoms (Jvm.Cond.code x code maxLocals ret :: tables_1)).before args0 about1 = true := by
  rw [allAtoms_all]
  show words1.all (fun c => c.before args0 about1) = true
  refine all_split ?_ w_codes
  rw [← List.take_append_drop 24 words1, List.all_append, w_t1, w_t2]
  rfl
set_option maxRecDepth 65536 in
theorem w_case : (Jvm.Cond.and given_1 narrow_1).before args0 about1 = true := by decide +kernel
theorem w_applies : (headSpec (Jvm.Cond.code x code maxLocals ret :: tables_1) room_1).applies x e0.platform about1 = true :=
  (Spec.applies_iff w_frames).mpr ⟨w_running, w_runnable, w_alone, w_named, w_hears, w_ripe, w_room, w_tables⟩
theorem atStart : AtStart classFile x code maxLocals ret World_1 tables_1 room_1 Calls_1 rest_1 Pre_1 launch0 p0 e0 about1 theMethod args0 below0 :=
  ⟨lists_1, trivial, launch0.admits_env _ _ _, launch0.least_env, fairChoices_fair.cas, fairChoices_fair.clock, w_frames, w_args, w_heap, w_applies, trivial, trivial, w_case⟩
end start1
theorem witness_1 : WitnessClaimed_1 := ⟨start1.p0, start1.e0, start1.about1, start1.theMethod, start1.args0, start1.below0, start1.atStart⟩
end Jvm.Pilot.@@N@@
