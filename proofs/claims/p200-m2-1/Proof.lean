import JvmDerived
import JvmDerived.Pilot.@@N@@Statement
import JvmDerived.Pilot.@@N@@Code
set_option linter.unusedVariables false
set_option linter.unusedSimpArgs false
namespace Jvm.RoadKit
open Sem ClassFile Op Lib Jvm.Stand Jvm.Free Jvm.LawKit
section New
variable {p : Program} {l : Launch} {e : Env} {R : Room} {s : State} {m : MethodId} {args : Array Value} {below : List Frame} {meth : Method} {c : Code} {T : State} {locs : List Loc} {cells slots : Nat}
theorem retI (X : Stand p l e R s m args below meth c T locs cells slots) (hx : p.tables.exec = Jvm.exec) {pc : Nat} {Ls : Array Slot} {z : Int32} {rest : List Value} (hret : meth.sig.returnType = some .int) (hd : decode c.code pc = .ok (.ireturn, 1)) {fs : List Frame}
    (hl : ∀ (f : JFrame) (acts : List Action), f.method = m → f.locked = none → f.entered = [] → (doReturn e (T.setTop f) acts (some (.int z))).1 = T.setFrames fs) : Steps p.tables e below (T.setTop (mkF m pc Ls (.int z :: rest))) (T.setFrames fs) := by
  have hm' : T.vm.method? m = some meth := X.method'
  have hn : narrow .int (.int z) = .int z := rfl
  show Steps p.tables e below (T.setTop { method := m, pc := pc, locals := Ls, stack := _ :: rest, locked := none }) _
  jvm_step X.here [X.here.top, hx, hd, hm', hret, hn]
  first | (intro acts; rw [hl _ acts rfl rfl rfl]) | rw [hl _ _ rfl rfl rfl]
  exact Steps.refl _
end New
end Jvm.RoadKit
namespace Jvm.Pilot.@@N@@
open Jvm Jvm.ClassFile Sem Op Lib Jvm.Free Jvm.Stand Jvm.LawKit Jvm.RoadKit Bundle Jvm.Pilot.@@N@@.Jvm.D
/-! ### the frame of this text: 'Ends': the run from u ends in a return that Q says -/
section OwnFrame
variable {p : Program} {l : Launch} {e : Env} {R : Room} {s : State} {m : MethodId} {args : Array Value} {below : List Frame} {meth : Method} {c : Code} {T : State} {locs : List Loc} {cells slots cs ss : Nat} {Z : State} {a0 : Array Value} {h h' : Heap} {Q : Option Value → Heap → List Loc → Prop} {u u' : State}
def Ends (p : Program) (e : Env) (below : List Frame) (s : State) (cs ss : Nat) (Q : Option Value → Heap → List Loc → Prop) (u : State) : Prop :=
  ∃ t v L, Steps p.tables e below u t ∧ t.status = .running ∧ Ended t below (.returned v) ∧ Q v t.heap L ∧ s.WarmedH t.vm ∧ s.sameButNew ({ t with vm := s.vm } : State) L cs ss
theorem Ends.step (h : Ends p e below s cs ss Q u') (k : ∀ t, Steps p.tables e below u' t → Steps p.tables e below u t) : Ends p e below s cs ss Q u := by
  obtain ⟨t, v, L, h1, r⟩ := h; exact ⟨t, v, L, k t h1, r⟩
theorem Ends.ret (X : Stand p l e R s m args below meth c T locs cells slots) {v : Option Value} (hv : meth.sig.returnType = none → v = none) (hlk : meth.locks = false)
    (k : ∀ fs, (∀ (f : JFrame) (acts : List Action), f.method = m → f.locked = none → f.entered = [] → (doReturn e (T.setTop f) acts v).1 = T.setFrames fs) → Steps p.tables e below u (T.setFrames fs))
    (hc : cells ≤ cs) (hs : slots ≤ ss) (hq : Q v T.heap locs) : Ends p e below s cs ss Q u := by
  obtain ⟨fs, hr, hrun, hended, hW, hsame⟩ := X.leave (v := v) hv hlk
  exact ⟨T.setFrames fs, v, locs, k fs hr, hrun, hended, hq, hW, hsame.mono hc hs⟩
/-- what a body promises -/
abbrev Meets (l : Launch) (Z : State) (y : MethodName) (bytes : ByteArray) (maxL : Nat) (ret : Option FieldType) (ws : List Jvm.Cond) (rm : Room) (as' : Array Value) (h : Heap) (Q : Option Value → Heap → List Loc → Prop) (cs ss : Nat) : Prop :=
  MetFree l y (head1 (Jvm.Cond.code y bytes maxL ret :: ws) rm) (fun a U => a = as' ∧ Z.Warmed39 U.vm ∧ U.heap = h) (fun _ _ _ _ _ => True) (fun _ U o U' => ∃ v L, o = .returned v ∧ Q v U'.heap L ∧ FrameEnd U o U' L cs ss)
theorem Meets.of {y : MethodName} {bytes : ByteArray} {maxL : Nat} {ret : Option FieldType} {ws : List Jvm.Cond} {rm : Room} {as' : Array Value} (pn : plainFor y = true)
    (k : ∀ (p : Program) (e : Env) (s : State) (m : MethodId) (below : List Frame) (meth : Method) (c : Code) (s₁ : State), p.tables.exec = Jvm.exec → c.code = bytes → c.maxLocals = maxL → Z.Warmed39 s.vm → s.vm.findClass y.cls = some m.cls → meth.name = y.name → meth.sig.returnType = ret → meth.locks = false →
      Stand p l e rm s m as' below meth c s₁ [] 0 0 → s₁.heap = h → Ends p e below s cs ss Q (s₁.setTop (entryFrame m as' maxL))) : Meets l Z y bytes maxL ret ws rm as' h Q cs ss := by
  refine MetFree.of_bodySF pn hisR ?_
  intro p e s m args below meth c s₁ Bd hml0 hP hK
  obtain ⟨rfl, hZ, hh⟩ := hP
  obtain ⟨t, v, L, h1, h2, h3, h4, h5, h6⟩ := k p e s m below meth c s₁ Bd.exec Bd.bytes hml0 hZ (findClass_of_methodNamed Bd.named) (name_of_methodNamed Bd.named Bd.method).1 Bd.returns (BodyLoose.notSynchronized Bd) (Stand.of_body Bd) (by rw [← hh, Bd.state]; rfl)
  exact ⟨t, .returned v, h1, h2, h3, v, L, rfl, h4, ⟨_, rfl⟩, h5, h6⟩
theorem Ends.callS (X : Stand p l e R s m args below meth c T locs cells slots) (hx : p.tables.exec = Jvm.exec) (hZ : Z.Warmed39 s.vm) {own : String} {index : Nat} {y : MethodName} {bytes : ByteArray} {maxL : Nat} {ret : Option FieldType}
    (hown : s.vm.findClass own = some m.cls) (w1 : (Jvm.Cond.methodLink own index y).before a0 Z = true) (w2 : (Jvm.Cond.static y).before a0 Z = true) (w3 : (Jvm.Cond.initialized y.cls).before a0 Z = true) (w4 : (Jvm.Cond.code y bytes maxL ret).before a0 Z = true)
    (hy : y.cls ≠ "java/lang/invoke/MethodHandle" ∧ y.cls ≠ "java/lang/invoke/VarHandle") {rm : Room} {as' : Array Value} {Q' : Option Value → Heap → List Loc → Prop} (hM : Meets l Z y bytes maxL ret [] rm as' h Q' rm.cells rm.slots)
    (W : Nat) (hf : rm.frames + 1 ≤ R.frames) (hl : W + (maxL + 11) + rm.locals ≤ R.locals) (eT : T.heap = h) {g : JFrame} (hg : g.method = m) (hsize : g.locals.size = c.maxLocals) (argsL rest : List Value)
    (hlen : ∀ sig, parseMethodDescriptor y.desc = some sig → argsL.length = sig.parameters.length) (hstack : g.stack = argsL.reverse ++ rest) (hW : 2 * g.monitorRoom + (rest.map fun v => v.category).sum ≤ W) (hdg : decode c.code g.pc = .ok (.invokestatic index, 3))
    (ha : argsL.toArray = as') (hc : cells + rm.cells ≤ R.cells) (hs : slots + rm.slots ≤ R.slots)
    (k : ∀ v T' L, Stand p l e R s m args below meth c T' (locs ++ L) (cells + rm.cells) (slots + rm.slots) → Q' v T'.heap L → Ends p e below s cs ss Q (T'.setTop { g with pc := g.pc + 3, stack := v.toList ++ rest })) : Ends p e below s cs ss Q (T.setTop g) := by
  obtain ⟨v, _, ⟨T', L', k', n'⟩, -, X', ⟨Lc, hQ, rfl, rfl, rfl⟩, st⟩ := Jvm.LawKit.callS X hx (y := y) hown (mvT hZ w1) (mvT hZ w2) (mvT hZ w3) (mvT hZ w4) hy (backOf (W := W) hM hZ w4 w3 hf hl) hg hsize (argsL := argsL) (rest := rest) hlen hstack hW hdg (fun _ _ => ⟨ha, eT, hc, hs⟩)
  exact (k v T' Lc X' hQ).step st
theorem Ends.callC (X : Stand p l e R s m args below meth c T locs cells slots) (hx : p.tables.exec = Jvm.exec) (hZ : Z.Warmed39 s.vm) {own : String} {index : Nat} {y : MethodName} {bytes : ByteArray} {maxL : Nat} (hy1 : y.name = "<init>")
    (hown : s.vm.findClass own = some m.cls) (w1 : (Jvm.Cond.methodLink own index y).before a0 Z = true) (w2 : (Jvm.Cond.instanceMethod y).before a0 Z = true) (w3 : (Jvm.Cond.initialized y.cls).before a0 Z = true) (w4 : (Jvm.Cond.code y bytes maxL none).before a0 Z = true)
    (hy : y.cls ≠ "java/lang/invoke/MethodHandle" ∧ y.cls ≠ "java/lang/invoke/VarHandle") {rm : Room} {as' : Array Value} {Q' : Option Value → Heap → List Loc → Prop} (hM : Meets l Z y bytes maxL none [] rm as' h Q' rm.cells rm.slots)
    (W : Nat) (hf : rm.frames + 1 ≤ R.frames) (hl : W + (maxL + 11) + rm.locals ≤ R.locals) (eT : T.heap = h) {g : JFrame} (hg : g.method = m) (hsize : g.locals.size = c.maxLocals) (a : Addr) (argsL rest : List Value)
    (hlen : ∀ sig, parseMethodDescriptor y.desc = some sig → argsL.length = sig.parameters.length) (hstack : g.stack = argsL.reverse ++ .ref a :: rest) (hW : 2 * g.monitorRoom + (rest.map fun v => v.category).sum ≤ W) (hdg : decode c.code g.pc = .ok (.invokespecial index, 3))
    (ha : (.ref a :: argsL).toArray = as') (hc : cells + rm.cells ≤ R.cells) (hs : slots + rm.slots ≤ R.slots)
    (k : ∀ v T' L, Stand p l e R s m args below meth c T' (locs ++ L) (cells + rm.cells) (slots + rm.slots) → Q' v T'.heap L → Ends p e below s cs ss Q (T'.setTop { g with pc := g.pc + 3, stack := v.toList ++ rest })) : Ends p e below s cs ss Q (T.setTop g) := by
  obtain ⟨v, _, ⟨T', L', k', n'⟩, -, X', ⟨Lc, hQ, rfl, rfl, rfl⟩, st⟩ := X.specialBack hx (y := y) hy1 hown (mvT hZ w1) (mvT hZ w2) (mvT hZ w4) hy (backOf (W := W) hM hZ w4 w3 hf hl) hg hsize (Steps.refl _) (a := a) (argsL := argsL) (rest := rest) hlen hstack hW hdg (fun _ _ => ⟨ha, eT, hc, hs⟩)
  exact (k v T' Lc X' hQ).step (fun _ q => st.trans q)
theorem Ends.callV (X : Stand p l e R s m args below meth c T locs cells slots) (hx : p.tables.exec = Jvm.exec) (hZ : Z.Warmed39 s.vm) {own C : String} {index : Nat} {y : MethodName} {bytes : ByteArray} {maxL : Nat} {ret : Option FieldType}
    (hown : s.vm.findClass own = some m.cls) (w1 : (Jvm.Cond.methodLink own index y).before a0 Z = true) (wd : (Jvm.Cond.declares y).before a0 Z = true) (wsel : (Jvm.Cond.selects C y y).before a0 Z = true) (w2 : (Jvm.Cond.instanceMethod y).before a0 Z = true) (w3 : (Jvm.Cond.initialized y.cls).before a0 Z = true) (w4 : (Jvm.Cond.code y bytes maxL ret).before a0 Z = true)
    (hy : y.cls ≠ "java/lang/invoke/MethodHandle" ∧ y.cls ≠ "java/lang/invoke/VarHandle") {rm : Room} {as' : Array Value} {Q' : Option Value → Heap → List Loc → Prop} (hM : Meets l Z y bytes maxL ret [] rm as' h Q' rm.cells rm.slots)
    (W : Nat) (hf : rm.frames + 1 ≤ R.frames) (hl : W + (maxL + 11) + rm.locals ≤ R.locals) (eT : T.heap = h) (a : Addr) (E : Exa Z h a C) {g : JFrame} (hg : g.method = m) (hsize : g.locals.size = c.maxLocals) (argsL rest : List Value)
    (hlen : ∀ sig, parseMethodDescriptor y.desc = some sig → argsL.length = sig.parameters.length) (hstack : g.stack = argsL.reverse ++ .ref a :: rest) (hW : 2 * g.monitorRoom + (rest.map fun v => v.category).sum ≤ W) (hdg : decode c.code g.pc = .ok (.invokevirtual index, 3))
    (ha : (.ref a :: argsL).toArray = as') (hc : cells + rm.cells ≤ R.cells) (hs : slots + rm.slots ≤ R.slots)
    (k : ∀ v T' L, Stand p l e R s m args below meth c T' (locs ++ L) (cells + rm.cells) (slots + rm.slots) → Q' v T'.heap L → Ends p e below s cs ss Q (T'.setTop { g with pc := g.pc + 3, stack := v.toList ++ rest })) : Ends p e below s cs ss Q (T.setTop g) := by
  obtain ⟨cq, kq, q1, q2, q3⟩ := isOf (T := T) hZ eT E
  obtain ⟨v, _, ⟨T', L', k', n'⟩, -, X', ⟨Lc, hQ, rfl, rfl, rfl⟩, st⟩ := X.virtualBack hx (y := y) (z := y) hown (mvT hZ w1) (mvT hZ wd) (notFace_of_selects (args := #[]) (mvT hZ wsel)) (mvT hZ wsel) (mvT hZ w2) hy (backOf (W := W) hM hZ w4 w3 hf hl) q1 q3 hg hsize (Steps.refl _) (argsL := argsL) (rest := rest) hlen hstack hW hdg (fun _ _ => ⟨ha, eT, hc, hs⟩)
  exact (k v T' Lc X' hQ).step (fun _ q => st.trans q)
/-! ### arrays of small numbers: what each place holds, as a function -/
def Ar (Z : State) (h : Heap) (a : Addr) (ty : FieldType) (n : Nat) (f : Nat → Int32) : Prop := ∃ cl : Cell, Arr Z h a cl ty ∧ cl.slots.size = n ∧ n < 2 ^ 31 ∧ ∀ i, i < n → cl.slots[i]? = some (.int (f i))
def upd (f : Nat → Int32) (j : Nat) (v : Int32) : Nat → Int32 := fun i => if i = j then v else f i
def inb (j : Int32) (n : Nat) : Prop := ¬ (j < 0 ∨ n ≤ j.toNatClampNeg)
variable {a b : Addr} {ty : FieldType} {n sl : Nat} {f : Nat → Int32} {v : Value} {wsA : List Addr}
theorem Ar.lt (A : Ar Z h a ty n f) : a < h.size := by obtain ⟨cl, A1, -⟩ := A; exact A1.lt
theorem Ar.ext (A : Ar Z h a ty n f) (E : Ext h h') : Ar Z h' a ty n f := by obtain ⟨cl, A1, r⟩ := A; exact ⟨cl, A1.ext E, r⟩
theorem Ar.other (A : Ar Z h b ty n f) (W : Wr h h' a sl v) (q : b ≠ a) : Ar Z h' b ty n f := by obtain ⟨cl, A1, r⟩ := A; exact ⟨cl, A1.other W q, r⟩
theorem Ar.keep (A : Ar Z h a ty n f) (K : Keep h h' wsA) (q : a ∉ wsA) : Ar Z h' a ty n f := by obtain ⟨cl, A1, r⟩ := A; exact ⟨cl, ⟨K.2.1 a cl A1.1 q, A1.2⟩, r⟩
theorem Ar.small (A : Ar Z h a ty n f) : n < 2 ^ 31 := by obtain ⟨cl, A1, -, r, -⟩ := A; exact r
theorem Ar.set {j : Int32} {x : Int32} (A : Ar Z h a ty n f) (W : Wr h h' a j.toNatClampNeg (.int x)) : Ar Z h' a ty n (upd f j.toNatClampNeg x) := by
  obtain ⟨cl, A1, r1, r2, r3⟩ := A
  refine ⟨_, A1.same W, by rw [sz_set]; exact r1, r2, fun i hi => ?_⟩
  by_cases q : i = j.toNatClampNeg
  · subst q; simp [Cell.setSlot, upd, r1, hi]
  · simp only [Cell.setSlot, upd, if_neg q]; rw [Array.getElem?_setIfInBounds_ne (fun z => q z.symm)]; exact r3 i hi
theorem Ar.new {cA : ClassId} {k : Int32} (A : Arr Z h a (newA cA ty k) ty) (q : ¬ k < 0) (hd : defaultValue ty = .int 0) : Ar Z h a ty k.toNatClampNeg (fun _ => 0) :=
  ⟨_, A, sz_new _ _ _, (back32 q).2, fun i hi => by simp [newA, hi, hd]⟩
theorem Ends.newA (X : Stand p l e R s m args below meth c T locs cells slots) (hx : p.tables.exec = Jvm.exec) (hZ : Z.Warmed39 s.vm) {aty : ArrayType} (w : (Jvm.Cond.arrayClass (newarray.typeOf aty)).before a0 Z = true) (eT : T.heap = h) {g : JFrame} (hg : g.method = m) (hd : decode c.code g.pc = .ok (.newarray aty, 2)) {k : Int32} {rest : List Value} (hs : g.stack = .int k :: rest)
    (hdf : defaultValue (newarray.typeOf aty) = .int 0) (hn : ¬ k < 0) (cap : Nat) (hcap : k.toNatClampNeg ≤ cap) (hb : cap * 8 ≤ 536870912) (hc : cells + 1 ≤ R.cells) (hl : slots + cap ≤ R.slots)
    (kk : ∀ T' h' a, Stand p l e R s m args below meth c T' locs (cells + 1) (slots + cap) → T'.heap = h' → Ext h h' → h.size = a → Ar Z h' a (newarray.typeOf aty) k.toNatClampNeg (fun _ => 0) → Ends p e below s cs ss Q (T'.setTop { g with pc := g.pc + 2, stack := .ref a :: rest })) : Ends p e below s cs ss Q (T.setTop g) := by
  obtain ⟨T', h', cA, X', e', E, A, st⟩ := newP X hx hZ w eT hg hd hs hn hcap hb hc hl
  exact (kk T' h' h.size X' e' E rfl (Ar.new A hn hdf)).step st
theorem Ends.iaload (X : Stand p l e R s m args below meth c T locs cells slots) (hx : p.tables.exec = Jvm.exec) (hZ : Z.Warmed39 s.vm) (eT : T.heap = h) (A : Ar Z h a .int n f) {j : Int32} (hj : inb j n) {g : JFrame} (hg : g.method = m) {rest : List Value} (hs : g.stack = .int j :: .ref a :: rest) (hd : decode c.code g.pc = .ok (.iaload, 1))
    (k : Ends p e below s cs ss Q (T.setTop { g with pc := g.pc + 1, stack := .int (f j.toNatClampNeg) :: rest })) : Ends p e below s cs ss Q (T.setTop g) := by
  obtain ⟨cl, A1, r1, -, r3⟩ := A
  subst r1
  exact k.step (X.iaload hx (by rw [eT]; exact A1.1) (State.isArrayOf_alike hZ.alike A1.2.1) A1.2.2 hj (r3 _ (Nat.lt_of_not_le fun q => hj (Or.inr q))) hg hs hd)
theorem Ends.baload (X : Stand p l e R s m args below meth c T locs cells slots) (hx : p.tables.exec = Jvm.exec) (hZ : Z.Warmed39 s.vm) (eT : T.heap = h) (A : Ar Z h a .byte n f) {j : Int32} (hj : inb j n) {g : JFrame} (hg : g.method = m) {rest : List Value} (hs : g.stack = .int j :: .ref a :: rest) (hd : decode c.code g.pc = .ok (.baload, 1))
    (k : Ends p e below s cs ss Q (T.setTop { g with pc := g.pc + 1, stack := .int (f j.toNatClampNeg) :: rest })) : Ends p e below s cs ss Q (T.setTop g) := by
  obtain ⟨cl, A1, r1, -, r3⟩ := A
  subst r1
  exact k.step (X.baloadBytes hx (by rw [eT]; exact A1.1) (State.isArrayOf_alike hZ.alike A1.2.1) A1.2.2 hj (r3 _ (Nat.lt_of_not_le fun q => hj (Or.inr q))) hg hs hd)
theorem Ends.arrlen (X : Stand p l e R s m args below meth c T locs cells slots) (hx : p.tables.exec = Jvm.exec) (hZ : Z.Warmed39 s.vm) (eT : T.heap = h) (A : Ar Z h a ty n f) {g : JFrame} (hg : g.method = m) {rest : List Value} (hs : g.stack = .ref a :: rest) (hd : decode c.code g.pc = .ok (.arraylength, 1))
    (k : Ends p e below s cs ss Q (T.setTop { g with pc := g.pc + 1, stack := .int (Nat.toInt32 n) :: rest })) : Ends p e below s cs ss Q (T.setTop g) := by
  obtain ⟨cl, A1, r1, -, r3⟩ := A
  subst r1
  exact k.step (X.arraylength hx (by rw [eT]; exact A1.1) (State.isArrayOf_alike hZ.alike A1.2.1) hg hs hd)
theorem Ends.iastore (X : Stand p l e R s m args below meth c T locs cells slots) (hx : p.tables.exec = Jvm.exec) (hZ : Z.Warmed39 s.vm) (eT : T.heap = h) (A : Ar Z h a .int n f) {j x : Int32} (hj : inb j n) {n0 : Nat} (N : Fr n0 locs) (ge : n0 ≤ a) {g : JFrame} (hg : g.method = m) {rest : List Value} (hs : g.stack = .int x :: .int j :: .ref a :: rest) (hd : decode c.code g.pc = .ok (.iastore, 1))
    (k : ∀ T' h' sl, Stand p l e R s m args below meth c T' (locs ++ [⟨a, sl⟩]) cells slots → T'.heap = h' → Fr n0 (locs ++ [⟨a, sl⟩]) → Wr h h' a sl (.int x) → Ar Z h' a .int n (upd f j.toNatClampNeg x) → Ends p e below s cs ss Q (T'.setTop { g with pc := g.pc + 1, stack := rest })) : Ends p e below s cs ss Q (T.setTop g) := by
  obtain ⟨cl, A1, r1, r2, r3⟩ := A
  obtain ⟨T', h', X', e', W, st⟩ := stI X hx hZ eT A1 (by rw [r1]; exact hj) hg hs hd
  exact (k T' h' _ X' e' (Fr.snoc X' N ge) W (Ar.set ⟨cl, A1, r1, r2, r3⟩ W)).step st
theorem Ends.bastore (X : Stand p l e R s m args below meth c T locs cells slots) (hx : p.tables.exec = Jvm.exec) (hZ : Z.Warmed39 s.vm) (eT : T.heap = h) (A : Ar Z h a .byte n f) {j x : Int32} (hj : inb j n) {n0 : Nat} (N : Fr n0 locs) (ge : n0 ≤ a) {g : JFrame} (hg : g.method = m) {rest : List Value} (hs : g.stack = .int x :: .int j :: .ref a :: rest) (hd : decode c.code g.pc = .ok (.bastore, 1))
    (k : ∀ T' h' sl, Stand p l e R s m args below meth c T' (locs ++ [⟨a, sl⟩]) cells slots → T'.heap = h' → Fr n0 (locs ++ [⟨a, sl⟩]) → Wr h h' a sl (.int (nar .byte x)) → Ar Z h' a .byte n (upd f j.toNatClampNeg (nar .byte x)) → Ends p e below s cs ss Q (T'.setTop { g with pc := g.pc + 1, stack := rest })) : Ends p e below s cs ss Q (T.setTop g) := by
  obtain ⟨cl, A1, r1, r2, r3⟩ := A
  obtain ⟨T', h', X', e', W, st⟩ := stB X hx hZ eT A1 (by rw [r1]; exact hj) hg hs hd
  exact (k T' h' _ X' e' (Fr.snoc X' N ge) W (Ar.set ⟨cl, A1, r1, r2, r3⟩ W)).step st
theorem Ends.getF (X : Stand p l e R s m args below meth c T locs cells slots) (hx : p.tables.exec = Jvm.exec) (hZ : Z.Warmed39 s.vm) {own O fn d : String} {index : Nat} (hown : s.vm.findClass own = some m.cls) (w : (Jvm.Cond.fieldLink own index O fn d).before a0 Z = true) (eT : T.heap = h) (F : Fld Z h a O fn d v) {g : JFrame} (hg : g.method = m) {rest : List Value} (hs : g.stack = .ref a :: rest) (hd : decode c.code g.pc = .ok (.getfield index, 3))
    (k : ∀ T', Stand p l e R s m args below meth c T' locs cells slots → T'.heap = h → Ends p e below s cs ss Q (T'.setTop { g with pc := g.pc + 3, stack := v :: rest })) : Ends p e below s cs ss Q (T.setTop g) := by
  obtain ⟨T', X', e', st⟩ := Jvm.RoadKit.getF X hx hZ hown (host := "") (Or.inl w) Via.refl eT F hg hs hd
  exact (k T' X' e').step st
theorem Ends.putF (X : Stand p l e R s m args below meth c T locs cells slots) (hx : p.tables.exec = Jvm.exec) (hZ : Z.Warmed39 s.vm) {own O fn d : String} {index kk : Nat} {tf : FieldType} {old : Value} (hown : s.vm.findClass own = some m.cls) (w : (Jvm.Cond.fieldLink own index O fn d).before a0 Z = true) (eT : T.heap = h) (F : Fld Z h a O fn d old) (E : Exa Z h a O) (L : (Jvm.Cond.lays O O fn d).before a0 Z = true ∨ ((Jvm.Cond.laysFinal O O fn d).before a0 Z = true ∧ own = O ∧ meth.name = "<init>")) (wi : (Jvm.Cond.instantiable O kk).before a0 Z = true)
    (hty : parseFieldDescriptor d = some tf) (hn : narrow tf v = v) (hf : fits tf v = true) {n0 : Nat} (N : Fr n0 locs) (ge : n0 ≤ a) {g : JFrame} (hg : g.method = m) {rest : List Value} (hs : g.stack = v :: .ref a :: rest) (hd : decode c.code g.pc = .ok (.putfield index, 3))
    (k : ∀ T' h', Stand p l e R s m args below meth c T' (locs ++ [⟨a, Jvm.RoadKit.slotOf Z O fn d⟩]) cells slots → T'.heap = h' → Fr n0 (locs ++ [⟨a, Jvm.RoadKit.slotOf Z O fn d⟩]) → Wr h h' a (Jvm.RoadKit.slotOf Z O fn d) v → Ends p e below s cs ss Q (T'.setTop { g with pc := g.pc + 3, stack := rest })) : Ends p e below s cs ss Q (T.setTop g) := by
  obtain ⟨T', h', X', e', W, st⟩ := Jvm.RoadKit.putF X hx hZ hown (host := "") (Or.inl w) Via.refl eT F E L wi hty hn hf hg hs hd
  exact (k T' h' X' e' (Fr.snoc X' N ge) W).step st
theorem Ends.newO (X : Stand p l e R s m args below meth c T locs cells slots) (hx : p.tables.exec = Jvm.exec) (hZ : Z.Warmed39 s.vm) {own C : String} {index k : Nat} (hown : s.vm.findClass own = some m.cls) (w : (Jvm.Cond.classLink own index C).before a0 Z = true) (wi : (Jvm.Cond.instantiable C k).before a0 Z = true) (wz : (Jvm.Cond.initialized C).before a0 Z = true) (eT : T.heap = h)
    {g : JFrame} (hg : g.method = m) (hd : decode c.code g.pc = .ok (.new index, 3)) (hc : cells + 1 ≤ R.cells) (hl : slots + k ≤ R.slots)
    (kk : ∀ T' h' a, Stand p l e R s m args below meth c T' locs (cells + 1) (slots + k) → T'.heap = h' → Ext h h' → h.size = a → Exa Z h' a C → (∀ {O nm d : String} {ty : FieldType}, Laid Z a0 C O nm d → parseFieldDescriptor d = some ty → Fld Z h' a O nm d (defaultValue ty)) → Ends p e below s cs ss Q (T'.setTop { g with pc := g.pc + 3, stack := .ref a :: g.stack })) : Ends p e below s cs ss Q (T.setTop g) := by
  obtain ⟨T', h', X', e', E, A, D, -, st⟩ := Jvm.RoadKit.newO X hx hZ hown w wi wz eT hg hd hc hl
  exact (kk T' h' _ X' e' E rfl A D).step st
theorem Ends.initO (X : Stand p l e R s m args below meth c T locs cells slots) (hx : p.tables.exec = Jvm.exec) (hZ : Z.Warmed39 s.vm) {own : String} {idx : Nat} (hown : s.vm.findClass own = some m.cls) (w1 : (Jvm.Cond.methodLink own idx Lib.objectInit).before a0 Z = true) (w2 : (Jvm.Cond.instanceMethod Lib.objectInit).before a0 Z = true)
    (w3 : (Jvm.Cond.code Lib.objectInit ⟨#[0xb1]⟩ 1 none).before a0 Z = true) (eT : T.heap = h) {g : JFrame} (hg : g.method = m) (hsize : g.locals.size = c.maxLocals) {rest : List Value} (hs : g.stack = .ref a :: rest) (hd : decode c.code g.pc = .ok (.invokespecial idx, 3))
    (hf : 1 ≤ R.frames) (W : Nat) (hW : 2 * g.monitorRoom + (rest.map fun v => v.category).sum ≤ W) (hl : W + 12 ≤ R.locals)
    (k : ∀ T', Stand p l e R s m args below meth c T' locs cells slots → T'.heap = h → Ends p e below s cs ss Q (T'.setTop { g with pc := g.pc + 3, stack := rest })) : Ends p e below s cs ss Q (T.setTop g) := by
  obtain ⟨T', X', e', st⟩ := Jvm.RoadKit.initO X hx hZ hown w1 w2 w3 eT hg hsize hs hd hf hW hl
  exact (k T' X' e').step st
def OneS (o : Slot) : Prop := o = .unset ∨ ∃ w, o = .val w ∧ w.category = 1
theorem storeL {ls : Array Slot} {i : Nat} {x : Int64} {o o' : Slot} (h1 : ls[i]? = some o) (h2 : ls[i + 1]? = some o') (p1 : OneS o) (p2 : OneS o') : storeLocals ls i (.long x) = some ((ls.setIfInBounds i (.val (.long x))).setIfInBounds (i + 1) .second) := by
  have l1 : i < ls.size := (Array.getElem?_eq_some_iff.mp h1).1
  have l2 : i + 1 < ls.size := (Array.getElem?_eq_some_iff.mp h2).1
  have e2 : (ls.setIfInBounds i (.val (.long x)))[i + 1]? = some o' := by rw [Array.getElem?_setIfInBounds_ne (by omega)]; exact h2
  have q : storeSelf ls i (.long x) = some ((ls.setIfInBounds i (.val (.long x))).setIfInBounds (i + 1) .second) := by
    have cat : (Value.long x).category = 2 := rfl
    simp only [storeSelf, setAt, if_pos l1, cat, if_true, Option.bind_eq_bind, Option.bind_some, e2]
    rcases p2 with rfl | ⟨w, rfl, hw⟩
    · simp [l2]
    · simp [l2, hw]
  simp only [storeLocals, h1, Option.bind_eq_bind, Option.bind_some]
  rcases p1 with rfl | ⟨w, rfl, hw⟩
  · exact q
  · simp only [hw]; exact q
end OwnFrame
-- body 1
def F1_5 (n_o0 : Nat) (f_o0 : Nat → Int32) : Int64 := (0 : Int64)
def F1_7 (n_o0 : Nat) (f_o0 : Nat → Int32) (x1 : Int32) (x3 : Int32) : Int64 := (((((f_o0 ((x1 + x3)).toNatClampNeg) &&& (255 : Int32))).toInt64) <<< ((((8 : Int32) * x3)).toInt64 &&& 63))
def O1_7 (n_o0 : Nat) (f_o0 : Nat → Int32) (x1 : Int32) (x3 : Int32) : Prop := (inb (x1 + x3) n_o0) ∧ True
def F1 (p1 : Int32) (p2 : Int32) (p3 : Int32) (n_o0 : Nat) (f_o0 : Nat → Int32) : Int64 := if p3 < p2 then (F1_7 n_o0 f_o0 p1 p3) else (F1_5 n_o0 f_o0)
def O1 (p1 : Int32) (p2 : Int32) (p3 : Int32) (n_o0 : Nat) (f_o0 : Nat → Int32) : Prop := (p3 < p2 → (O1_7 n_o0 f_o0 p1 p3)) ∧ (¬ p3 < p2 → True)
-- body 2
def F2_35 (K : Nat) (n_o0 : Nat) (f_o0 : Nat → Int32) (x3 : Int64) : Int64 := x3
def F2_29 (K : Nat) (rec : Nat → (Nat → Int32) → Int32 → Int64 → Int32 → Int64) (n_o0 : Nat) (f_o0 : Nat → Int32) (x1 : Int32) (x3 : Int64) (x5 : Int32) : Int64 := (rec n_o0 f_o0 x1 x3 (x5 + (-1 : Int32)))
def O2_29 (K : Nat) (rec : Nat → (Nat → Int32) → Int32 → Int64 → Int32 → Prop) (n_o0 : Nat) (f_o0 : Nat → Int32) (x1 : Int32) (x3 : Int64) (x5 : Int32) : Prop := (rec n_o0 f_o0 x1 x3 (x5 + (-1 : Int32)))
def F2_12 (K : Nat) (rec : Nat → (Nat → Int32) → Int32 → Int64 → Int32 → Int64) (n_o0 : Nat) (f_o0 : Nat → Int32) (x1 : Int32) (x3 : Int64) (x5 : Int32) : Int64 := (F2_29 K rec n_o0 f_o0 x1 ((x3 <<< (((8 : Int32)).toInt64 &&& 63)) ||| ((((f_o0 ((x1 + x5)).toNatClampNeg) &&& (255 : Int32))).toInt64)) x5)
def O2_12 (K : Nat) (rec : Nat → (Nat → Int32) → Int32 → Int64 → Int32 → Prop) (n_o0 : Nat) (f_o0 : Nat → Int32) (x1 : Int32) (x3 : Int64) (x5 : Int32) : Prop := (inb (x1 + x5) n_o0) ∧ (O2_29 K rec n_o0 f_o0 x1 ((x3 <<< (((8 : Int32)).toInt64 &&& 63)) ||| ((((f_o0 ((x1 + x5)).toNatClampNeg) &&& (255 : Int32))).toInt64)) x5)
def F2_7 (K : Nat) : Nat → Nat → (Nat → Int32) → Int32 → Int64 → Int32 → Int64
  | 0, _, _, _, _, _ => default
  | j + 1, n_o0, f_o0, x1, x3, x5 => if x5 < 0 then (F2_35 K n_o0 f_o0 x3) else (F2_12 K (F2_7 K j) n_o0 f_o0 x1 x3 x5)
def O2_7 (K : Nat) : Nat → Nat → (Nat → Int32) → Int32 → Int64 → Int32 → Prop
  | 0, _, _, _, _, _ => False
  | j + 1, n_o0, f_o0, x1, x3, x5 => (x5 < 0 → True) ∧ (¬ x5 < 0 → (O2_12 K (O2_7 K j) n_o0 f_o0 x1 x3 x5))
def F2 (K : Nat) (p1 : Int32) (p2 : Int32) (n_o0 : Nat) (f_o0 : Nat → Int32) : Int64 := (F2_7 K K n_o0 f_o0 p1 (0 : Int64) (p2 - (1 : Int32)))
def O2 (K : Nat) (p1 : Int32) (p2 : Int32) (n_o0 : Nat) (f_o0 : Nat → Int32) : Prop := (O2_7 K K n_o0 f_o0 p1 (0 : Int64) (p2 - (1 : Int32)))
-- body 0
def F0_305 (K : Nat) (t0 : Int32) : Int32 := (nar .boolean t0)
def F0_300 (K : Nat)  : Int32 := (F0_305 K (1 : Int32))
def F0_304 (K : Nat)  : Int32 := (F0_305 K (0 : Int32))
def F0_292 (K : Nat) (x9 : Int64) (x11 : Int64) : Int32 := if x11 = x9 then (F0_300 K) else (F0_304 K)
def F0_281 (K : Nat) (cf_q2 : Nat → Int32) (x7 : Int32) (x8 : Int32) (x9 : Int64) : Int32 := (F0_292 K x9 (F2 K x7 x8 16 cf_q2))
def O0_281 (K : Nat) (cf_q2 : Nat → Int32) (x7 : Int32) (x8 : Int32) (x9 : Int64) : Prop := (O2 K x7 x8 16 cf_q2) ∧ True
def F0_190 (K : Nat) (cf_q2 : Nat → Int32) (x7 : Int32) (x8 : Int32) : Int32 := (F0_281 K cf_q2 x7 x8 ((((((((F1 x7 x8 (0 : Int32) 16 cf_q2) ||| (F1 x7 x8 (1 : Int32) 16 cf_q2)) ||| (F1 x7 x8 (2 : Int32) 16 cf_q2)) ||| (F1 x7 x8 (3 : Int32) 16 cf_q2)) ||| (F1 x7 x8 (4 : Int32) 16 cf_q2)) ||| (F1 x7 x8 (5 : Int32) 16 cf_q2)) ||| (F1 x7 x8 (6 : Int32) 16 cf_q2)) ||| (F1 x7 x8 (7 : Int32) 16 cf_q2)))
def O0_190 (K : Nat) (cf_q2 : Nat → Int32) (x7 : Int32) (x8 : Int32) : Prop := (O1 x7 x8 (0 : Int32) 16 cf_q2) ∧ (O1 x7 x8 (1 : Int32) 16 cf_q2) ∧ (O1 x7 x8 (2 : Int32) 16 cf_q2) ∧ (O1 x7 x8 (3 : Int32) 16 cf_q2) ∧ (O1 x7 x8 (4 : Int32) 16 cf_q2) ∧ (O1 x7 x8 (5 : Int32) 16 cf_q2) ∧ (O1 x7 x8 (6 : Int32) 16 cf_q2) ∧ (O1 x7 x8 (7 : Int32) 16 cf_q2) ∧ (O0_281 K cf_q2 x7 x8 ((((((((F1 x7 x8 (0 : Int32) 16 cf_q2) ||| (F1 x7 x8 (1 : Int32) 16 cf_q2)) ||| (F1 x7 x8 (2 : Int32) 16 cf_q2)) ||| (F1 x7 x8 (3 : Int32) 16 cf_q2)) ||| (F1 x7 x8 (4 : Int32) 16 cf_q2)) ||| (F1 x7 x8 (5 : Int32) 16 cf_q2)) ||| (F1 x7 x8 (6 : Int32) 16 cf_q2)) ||| (F1 x7 x8 (7 : Int32) 16 cf_q2)))
def F0_180 (K : Nat) (cf_q2 : Nat → Int32) (x5 : Int32) (x7 : Int32) : Int32 := (F0_190 K cf_q2 x7 ((x5 &&& (2147483647 : Int32)) % (9 : Int32)))
def O0_180 (K : Nat) (cf_q2 : Nat → Int32) (x5 : Int32) (x7 : Int32) : Prop := (O0_190 K cf_q2 x7 ((x5 &&& (2147483647 : Int32)) % (9 : Int32)))
def F0 (K : Nat) (p0 : Int64) (p1 : Int64) (p2 : Int32) (p3 : Int32) : Int32 := (F0_180 K (upd (upd (upd (upd (upd (upd (upd (upd (upd (upd (upd (upd (upd (upd (upd (upd (fun _ => 0) 0 (nar .byte ((((p0).toInt32)).toInt8.toInt32))) 1 (nar .byte (((((XT.ushrL p0 (8 : Int32))).toInt32)).toInt8.toInt32))) 2 (nar .byte (((((XT.ushrL p0 (16 : Int32))).toInt32)).toInt8.toInt32))) 3 (nar .byte (((((XT.ushrL p0 (24 : Int32))).toInt32)).toInt8.toInt32))) 4 (nar .byte (((((XT.ushrL p0 (32 : Int32))).toInt32)).toInt8.toInt32))) 5 (nar .byte (((((XT.ushrL p0 (40 : Int32))).toInt32)).toInt8.toInt32))) 6 (nar .byte (((((XT.ushrL p0 (48 : Int32))).toInt32)).toInt8.toInt32))) 7 (nar .byte (((((XT.ushrL p0 (56 : Int32))).toInt32)).toInt8.toInt32))) 8 (nar .byte ((((p1).toInt32)).toInt8.toInt32))) 9 (nar .byte (((((XT.ushrL p1 (8 : Int32))).toInt32)).toInt8.toInt32))) 10 (nar .byte (((((XT.ushrL p1 (16 : Int32))).toInt32)).toInt8.toInt32))) 11 (nar .byte (((((XT.ushrL p1 (24 : Int32))).toInt32)).toInt8.toInt32))) 12 (nar .byte (((((XT.ushrL p1 (32 : Int32))).toInt32)).toInt8.toInt32))) 13 (nar .byte (((((XT.ushrL p1 (40 : Int32))).toInt32)).toInt8.toInt32))) 14 (nar .byte (((((XT.ushrL p1 (48 : Int32))).toInt32)).toInt8.toInt32))) 15 (nar .byte (((((XT.ushrL p1 (56 : Int32))).toInt32)).toInt8.toInt32))) p3 ((p2 &&& (2147483647 : Int32)) % (9 : Int32)))
def O0 (K : Nat) (p0 : Int64) (p1 : Int64) (p2 : Int32) (p3 : Int32) : Prop := (O0_180 K (upd (upd (upd (upd (upd (upd (upd (upd (upd (upd (upd (upd (upd (upd (upd (upd (fun _ => 0) 0 (nar .byte ((((p0).toInt32)).toInt8.toInt32))) 1 (nar .byte (((((XT.ushrL p0 (8 : Int32))).toInt32)).toInt8.toInt32))) 2 (nar .byte (((((XT.ushrL p0 (16 : Int32))).toInt32)).toInt8.toInt32))) 3 (nar .byte (((((XT.ushrL p0 (24 : Int32))).toInt32)).toInt8.toInt32))) 4 (nar .byte (((((XT.ushrL p0 (32 : Int32))).toInt32)).toInt8.toInt32))) 5 (nar .byte (((((XT.ushrL p0 (40 : Int32))).toInt32)).toInt8.toInt32))) 6 (nar .byte (((((XT.ushrL p0 (48 : Int32))).toInt32)).toInt8.toInt32))) 7 (nar .byte (((((XT.ushrL p0 (56 : Int32))).toInt32)).toInt8.toInt32))) 8 (nar .byte ((((p1).toInt32)).toInt8.toInt32))) 9 (nar .byte (((((XT.ushrL p1 (8 : Int32))).toInt32)).toInt8.toInt32))) 10 (nar .byte (((((XT.ushrL p1 (16 : Int32))).toInt32)).toInt8.toInt32))) 11 (nar .byte (((((XT.ushrL p1 (24 : Int32))).toInt32)).toInt8.toInt32))) 12 (nar .byte (((((XT.ushrL p1 (32 : Int32))).toInt32)).toInt8.toInt32))) 13 (nar .byte (((((XT.ushrL p1 (40 : Int32))).toInt32)).toInt8.toInt32))) 14 (nar .byte (((((XT.ushrL p1 (48 : Int32))).toInt32)).toInt8.toInt32))) 15 (nar .byte (((((XT.ushrL p1 (56 : Int32))).toInt32)).toInt8.toInt32))) p3 ((p2 &&& (2147483647 : Int32)) % (9 : Int32)))
theorem pd_0 : parseMethodDescriptor "([BIII)J" = some ⟨[(.array .byte), .int, .int, .int], (some .long)⟩ := by decide +kernel
theorem pd_1 : parseMethodDescriptor "([BII)J" = some ⟨[(.array .byte), .int, .int], (some .long)⟩ := by decide +kernel
theorem d1_0 : decode method_3_code 0 = .ok (.iload_n 3, 1) := by decide +kernel
theorem d1_1 : decode method_3_code 1 = .ok (.iload_n 2, 1) := by decide +kernel
theorem d1_2 : decode method_3_code 2 = .ok (.if_icmp .lt 5, 3) := by decide +kernel
theorem d1_5 : decode method_3_code 5 = .ok (.lconst 0, 1) := by decide +kernel
theorem d1_6 : decode method_3_code 6 = .ok (.lreturn, 1) := by decide +kernel
theorem d1_7 : decode method_3_code 7 = .ok (.aload_n 0, 1) := by decide +kernel
theorem d1_8 : decode method_3_code 8 = .ok (.iload_n 1, 1) := by decide +kernel
theorem d1_9 : decode method_3_code 9 = .ok (.iload_n 3, 1) := by decide +kernel
theorem d1_10 : decode method_3_code 10 = .ok (.iadd, 1) := by decide +kernel
theorem d1_11 : decode method_3_code 11 = .ok (.baload, 1) := by decide +kernel
theorem d1_12 : decode method_3_code 12 = .ok (.sipush 255, 3) := by decide +kernel
theorem d1_15 : decode method_3_code 15 = .ok (.iand, 1) := by decide +kernel
theorem d1_16 : decode method_3_code 16 = .ok (.i2l, 1) := by decide +kernel
theorem d1_17 : decode method_3_code 17 = .ok (.bipush 8, 2) := by decide +kernel
theorem d1_19 : decode method_3_code 19 = .ok (.iload_n 3, 1) := by decide +kernel
theorem d1_20 : decode method_3_code 20 = .ok (.imul, 1) := by decide +kernel
theorem d1_21 : decode method_3_code 21 = .ok (.lshl, 1) := by decide +kernel
theorem d1_22 : decode method_3_code 22 = .ok (.lreturn, 1) := by decide +kernel
theorem pn_1 : plainFor (⟨"com/example/ananke/ananke/hash/LittleEndianPartialLongAtPinLaw", "part", "([BIII)J"⟩ : MethodName) = true := by first | exact plainFor_of_name (by first | (simp [plainName, overriddenIn]; done) | decide +kernel) | decide +kernel
theorem ef_1 (m : MethodId) (y0 : Addr) (y1 : Int32) (y2 : Int32) (y3 : Int32) : entryFrame m #[(.ref y0), (.int y1), (.int y2), (.int y3)] 4 = mkF m 0 #[.val (.ref y0), .val (.int y1), .val (.int y2), .val (.int y3)] [] := by first | (simp [entryFrame, mkF, argsToLocals, Value.category]; done) | rfl
def Q1 (Z : State) (a_o0 : Addr) (n_o0 : Nat) (f_o0 : Nat → Int32) (h0 : Heap) (n0 : Nat) (ans : Int64) (v : Option Value) (h : Heap) (L : List Loc) : Prop := v = some (.long ans) ∧ Fr n0 L ∧ h = h0
set_option maxRecDepth 65536 in
set_option maxHeartbeats 40000000 in
theorem rm1 (l : Launch) (Z : State) (a0 : Array Value) (hw : ∀ d ∈ tables_1, d.before a0 Z = true) (p1 : Int32) (p2 : Int32) (p3 : Int32) (n_o0 : Nat) (f_o0 : Nat → Int32) (a_o0 : Addr) (h0 : Heap) (n0 : Nat) (Z0 : n0 ≤ h0.size) (A_o0 : Ar Z h0 a_o0 .byte n_o0 f_o0) (ok : O1 p1 p2 p3 n_o0 f_o0) :
    Meets l Z (⟨"com/example/ananke/ananke/hash/LittleEndianPartialLongAtPinLaw", "part", "([BIII)J"⟩ : MethodName) method_3_code 4 (some .long) [] ({ frames := 0, cells := 0, slots := 0, locals := 0 } : Room) #[(.ref a_o0), (.int p1), (.int p2), (.int p3)] h0 (Q1 Z a_o0 n_o0 f_o0 h0 n0 (F1 p1 p2 p3 n_o0 f_o0)) 0 0 := by
  refine Meets.of pn_1 ?_
  intro p e s m below meth c s₁ hx hby hml hZ hown hnm hret hlk X0 e0
  have hml : c.maxLocals = 4 := hml
  have hown : s.vm.findClass "com/example/ananke/ananke/hash/LittleEndianPartialLongAtPinLaw" = some m.cls := hown
  have N0 := Fr.nil n0
  have b5 : ∀ (T : State) (L : List Loc) (X : Stand p l e ({ frames := 0, cells := 0, slots := 0, locals := 0 } : Room) s m #[(.ref a_o0), (.int p1), (.int p2), (.int p3)] below meth c T L 0 0) (eT : T.heap = h0) (N : Fr n0 L) (d0 : Slot) (od0 : OneS d0) (d1 : Slot) (od1 : OneS d1) (d2 : Slot) (od2 : OneS d2) (d3 : Slot) (od3 : OneS d3), Ends p e below s 0 0 (Q1 Z a_o0 n_o0 f_o0 h0 n0 (F1_5 n_o0 f_o0)) (T.setTop (mkF m 5 #[d0, d1, d2, d3] [])) := by
    intro T L X eT N d0 od0 d1 od1 d2 od2 d3 od3
    refine Ends.step (u' := (T.setTop (mkF m 6 #[d0, d1, d2, d3] [(.long (0 : Int64))]))) ?_ (fun _ k => XT.lconstV X.here hx rfl (0 : Int64) (hb hby d1_5) rfl k)
    exact Ends.ret X (v := some (.long (0 : Int64))) (fun q => by rw [hret] at q; cases q) hlk (fun fs hr => X.lreturnOut hx hret (hb hby d1_6) hr) (by decide) (by decide) ⟨rfl, N, eT⟩
  have b7 : ∀ (T : State) (L : List Loc) (X : Stand p l e ({ frames := 0, cells := 0, slots := 0, locals := 0 } : Room) s m #[(.ref a_o0), (.int p1), (.int p2), (.int p3)] below meth c T L 0 0) (eT : T.heap = h0) (N : Fr n0 L) (x1 : Int32) (x3 : Int32) (d2 : Slot) (od2 : OneS d2) (ok : (O1_7 n_o0 f_o0 x1 x3)), Ends p e below s 0 0 (Q1 Z a_o0 n_o0 f_o0 h0 n0 (F1_7 n_o0 f_o0 x1 x3)) (T.setTop (mkF m 7 #[.val (.ref a_o0), .val (.int x1), d2, .val (.int x3)] [])) := by
    intro T L X eT N x1 x3 d2 od2 ok
    obtain ⟨o1, ok⟩ := ok
    refine Ends.step (u' := (T.setTop (mkF m 8 #[.val (.ref a_o0), .val (.int x1), d2, .val (.int x3)] [(.ref a_o0)]))) ?_ (fun _ k => XS.aloadN X.here hx rfl (hb hby d1_7) rfl rfl k)
    refine Ends.step (u' := (T.setTop (mkF m 9 #[.val (.ref a_o0), .val (.int x1), d2, .val (.int x3)] [(.int x1), (.ref a_o0)]))) ?_ (fun _ k => XS.iloadN X.here hx rfl (hb hby d1_8) rfl k)
    refine Ends.step (u' := (T.setTop (mkF m 10 #[.val (.ref a_o0), .val (.int x1), d2, .val (.int x3)] [(.int x3), (.int x1), (.ref a_o0)]))) ?_ (fun _ k => XS.iloadN X.here hx rfl (hb hby d1_9) rfl k)
    refine Ends.step (u' := (T.setTop (mkF m 11 #[.val (.ref a_o0), .val (.int x1), d2, .val (.int x3)] [(.int (x1 + x3)), (.ref a_o0)]))) ?_ (fun _ k => XS.iadd X.here hx rfl (hb hby d1_10) rfl k)
    refine Ends.baload X hx hZ eT A_o0 o1 (g := (mkF m 11 #[.val (.ref a_o0), .val (.int x1), d2, .val (.int x3)] [(.int (x1 + x3)), (.ref a_o0)])) rfl rfl (hb hby d1_11) ?_
    show Ends p e below s _ _ _ (T.setTop (mkF m 12 #[.val (.ref a_o0), .val (.int x1), d2, .val (.int x3)] [(.int (f_o0 ((x1 + x3)).toNatClampNeg))]))
    refine Ends.step (u' := (T.setTop (mkF m 15 #[.val (.ref a_o0), .val (.int x1), d2, .val (.int x3)] [(.int (255 : Int32)), (.int (f_o0 ((x1 + x3)).toNatClampNeg))]))) ?_ (fun _ k => XT.sipushV X.here hx rfl (255 : Int32) (hb hby d1_12) rfl k)
    refine Ends.step (u' := (T.setTop (mkF m 16 #[.val (.ref a_o0), .val (.int x1), d2, .val (.int x3)] [(.int ((f_o0 ((x1 + x3)).toNatClampNeg) &&& (255 : Int32)))]))) ?_ (fun _ k => XS.iand X.here hx rfl (hb hby d1_15) rfl k)
    refine Ends.step (u' := (T.setTop (mkF m 17 #[.val (.ref a_o0), .val (.int x1), d2, .val (.int x3)] [(.long ((((f_o0 ((x1 + x3)).toNatClampNeg) &&& (255 : Int32))).toInt64))]))) ?_ (fun _ k => XT.i2l X.here hx rfl (hb hby d1_16) rfl k)
    refine Ends.step (u' := (T.setTop (mkF m 19 #[.val (.ref a_o0), .val (.int x1), d2, .val (.int x3)] [(.int (8 : Int32)), (.long ((((f_o0 ((x1 + x3)).toNatClampNeg) &&& (255 : Int32))).toInt64))]))) ?_ (fun _ k => XT.bipushV X.here hx rfl (8 : Int32) (hb hby d1_17) rfl k)
    refine Ends.step (u' := (T.setTop (mkF m 20 #[.val (.ref a_o0), .val (.int x1), d2, .val (.int x3)] [(.int x3), (.int (8 : Int32)), (.long ((((f_o0 ((x1 + x3)).toNatClampNeg) &&& (255 : Int32))).toInt64))]))) ?_ (fun _ k => XS.iloadN X.here hx rfl (hb hby d1_19) rfl k)
    refine Ends.step (u' := (T.setTop (mkF m 21 #[.val (.ref a_o0), .val (.int x1), d2, .val (.int x3)] [(.int ((8 : Int32) * x3)), (.long ((((f_o0 ((x1 + x3)).toNatClampNeg) &&& (255 : Int32))).toInt64))]))) ?_ (fun _ k => XS.imul X.here hx rfl (hb hby d1_20) rfl k)
    refine Ends.step (u' := (T.setTop (mkF m 22 #[.val (.ref a_o0), .val (.int x1), d2, .val (.int x3)] [(.long (((((f_o0 ((x1 + x3)).toNatClampNeg) &&& (255 : Int32))).toInt64) <<< ((((8 : Int32) * x3)).toInt64 &&& 63)))]))) ?_ (fun _ k => XT.lshl X.here hx rfl (hb hby d1_21) rfl k)
    exact Ends.ret X (v := some (.long (((((f_o0 ((x1 + x3)).toNatClampNeg) &&& (255 : Int32))).toInt64) <<< ((((8 : Int32) * x3)).toInt64 &&& 63)))) (fun q => by rw [hret] at q; cases q) hlk (fun fs hr => X.lreturnOut hx hret (hb hby d1_22) hr) (by decide) (by decide) ⟨rfl, N, eT⟩
  refine Ends.step (u' := (s₁.setTop (mkF m 0 #[.val (.ref a_o0), .val (.int p1), .val (.int p2), .val (.int p3)] []))) ?_ (fun _ k => castTop (ef_1 m a_o0 p1 p2 p3) k)
  obtain ⟨okt, okf⟩ := ok
  refine Ends.step (u' := (s₁.setTop (mkF m 1 #[.val (.ref a_o0), .val (.int p1), .val (.int p2), .val (.int p3)] [(.int p3)]))) ?_ (fun _ k => XS.iloadN X0.here hx rfl (hb hby d1_0) rfl k)
  refine Ends.step (u' := (s₁.setTop (mkF m 2 #[.val (.ref a_o0), .val (.int p1), .val (.int p2), .val (.int p3)] [(.int p2), (.int p3)]))) ?_ (fun _ k => XS.iloadN X0.here hx rfl (hb hby d1_1) rfl k)
  by_cases hc2 : p3 < p2
  · refine Eq.mp (congrArg (fun z => Ends p e below s 0 0 (Q1 Z a_o0 n_o0 f_o0 h0 n0 z) (s₁.setTop (mkF m 2 #[.val (.ref a_o0), .val (.int p1), .val (.int p2), .val (.int p3)] [(.int p2), (.int p3)]))) (show (F1 p1 p2 p3 n_o0 f_o0) = (F1_7 n_o0 f_o0 p1 p3) from (if_pos hc2)).symm) ?_
    refine Ends.step (u' := (s₁.setTop (mkF m 7 #[.val (.ref a_o0), .val (.int p1), .val (.int p2), .val (.int p3)] []))) ?_ (fun _ k => XS.icmpYes X0.here hx rfl (pc0 := 2) (pc' := 7) rfl (hb hby d1_2) rfl (XT.ii_lt_t hc2) (by decide) (by decide) k)
    exact b7 s₁ _ X0 e0 N0 p1 p3 (.val (.int p2)) (Or.inr ⟨_, rfl, rfl⟩) (okt hc2)
  · refine Eq.mp (congrArg (fun z => Ends p e below s 0 0 (Q1 Z a_o0 n_o0 f_o0 h0 n0 z) (s₁.setTop (mkF m 2 #[.val (.ref a_o0), .val (.int p1), .val (.int p2), .val (.int p3)] [(.int p2), (.int p3)]))) (show (F1 p1 p2 p3 n_o0 f_o0) = (F1_5 n_o0 f_o0) from (if_neg hc2)).symm) ?_
    refine Ends.step (u' := (s₁.setTop (mkF m 5 #[.val (.ref a_o0), .val (.int p1), .val (.int p2), .val (.int p3)] []))) ?_ (fun _ k => XS.icmpNo X0.here hx rfl (hb hby d1_2) rfl (XT.ii_lt_f hc2) k)
    exact b5 s₁ _ X0 e0 N0 (.val (.ref a_o0)) (Or.inr ⟨_, rfl, rfl⟩) (.val (.int p1)) (Or.inr ⟨_, rfl, rfl⟩) (.val (.int p2)) (Or.inr ⟨_, rfl, rfl⟩) (.val (.int p3)) (Or.inr ⟨_, rfl, rfl⟩)
theorem d2_0 : decode prog_14_method_4_code 0 = .ok (.lconst 0, 1) := by decide +kernel
theorem d2_1 : decode prog_14_method_4_code 1 = .ok (.lstore_n 3, 1) := by decide +kernel
theorem d2_2 : decode prog_14_method_4_code 2 = .ok (.iload_n 2, 1) := by decide +kernel
theorem d2_3 : decode prog_14_method_4_code 3 = .ok (.iconst 1, 1) := by decide +kernel
theorem d2_4 : decode prog_14_method_4_code 4 = .ok (.isub, 1) := by decide +kernel
theorem d2_5 : decode prog_14_method_4_code 5 = .ok (.istore 5, 2) := by decide +kernel
theorem d2_7 : decode prog_14_method_4_code 7 = .ok (.iload 5, 2) := by decide +kernel
theorem d2_9 : decode prog_14_method_4_code 9 = .ok (.ifCond .lt 26, 3) := by decide +kernel
theorem d2_12 : decode prog_14_method_4_code 12 = .ok (.lload_n 3, 1) := by decide +kernel
theorem d2_13 : decode prog_14_method_4_code 13 = .ok (.bipush 8, 2) := by decide +kernel
theorem d2_15 : decode prog_14_method_4_code 15 = .ok (.lshl, 1) := by decide +kernel
theorem d2_16 : decode prog_14_method_4_code 16 = .ok (.aload_n 0, 1) := by decide +kernel
theorem d2_17 : decode prog_14_method_4_code 17 = .ok (.iload_n 1, 1) := by decide +kernel
theorem d2_18 : decode prog_14_method_4_code 18 = .ok (.iload 5, 2) := by decide +kernel
theorem d2_20 : decode prog_14_method_4_code 20 = .ok (.iadd, 1) := by decide +kernel
theorem d2_21 : decode prog_14_method_4_code 21 = .ok (.baload, 1) := by decide +kernel
theorem d2_22 : decode prog_14_method_4_code 22 = .ok (.sipush 255, 3) := by decide +kernel
theorem d2_25 : decode prog_14_method_4_code 25 = .ok (.iand, 1) := by decide +kernel
theorem d2_26 : decode prog_14_method_4_code 26 = .ok (.i2l, 1) := by decide +kernel
theorem d2_27 : decode prog_14_method_4_code 27 = .ok (.lor, 1) := by decide +kernel
theorem d2_28 : decode prog_14_method_4_code 28 = .ok (.lstore_n 3, 1) := by decide +kernel
theorem d2_29 : decode prog_14_method_4_code 29 = .ok (.iinc 5 (-1), 3) := by decide +kernel
theorem d2_32 : decode prog_14_method_4_code 32 = .ok (.goto (-25), 3) := by decide +kernel
theorem d2_35 : decode prog_14_method_4_code 35 = .ok (.lload_n 3, 1) := by decide +kernel
theorem d2_36 : decode prog_14_method_4_code 36 = .ok (.lreturn, 1) := by decide +kernel
theorem pn_2 : plainFor (⟨"com/example/ananke/ananke/hash/LittleEndian", "partialLongAt", "([BII)J"⟩ : MethodName) = true := by first | exact plainFor_of_name (by first | (simp [plainName, overriddenIn]; done) | decide +kernel) | decide +kernel
theorem ef_2 (m : MethodId) (y0 : Addr) (y1 : Int32) (y2 : Int32) : entryFrame m #[(.ref y0), (.int y1), (.int y2)] 6 = mkF m 0 #[.val (.ref y0), .val (.int y1), .val (.int y2), .unset, .unset, .unset] [] := by first | (simp [entryFrame, mkF, argsToLocals, Value.category]; done) | rfl
def Q2 (Z : State) (a_o0 : Addr) (n_o0 : Nat) (f_o0 : Nat → Int32) (h0 : Heap) (n0 : Nat) (ans : Int64) (v : Option Value) (h : Heap) (L : List Loc) : Prop := v = some (.long ans) ∧ Fr n0 L ∧ h = h0
set_option maxRecDepth 65536 in
set_option maxHeartbeats 40000000 in
theorem rm2 (l : Launch) (Z : State) (a0 : Array Value) (hw : ∀ d ∈ tables_1, d.before a0 Z = true) (K : Nat) (p1 : Int32) (p2 : Int32) (n_o0 : Nat) (f_o0 : Nat → Int32) (a_o0 : Addr) (h0 : Heap) (n0 : Nat) (Z0 : n0 ≤ h0.size) (A_o0 : Ar Z h0 a_o0 .byte n_o0 f_o0) (ok : O2 K p1 p2 n_o0 f_o0) :
    Meets l Z (⟨"com/example/ananke/ananke/hash/LittleEndian", "partialLongAt", "([BII)J"⟩ : MethodName) prog_14_method_4_code 6 (some .long) [] ({ frames := 0, cells := 0, slots := 0, locals := 0 } : Room) #[(.ref a_o0), (.int p1), (.int p2)] h0 (Q2 Z a_o0 n_o0 f_o0 h0 n0 (F2 K p1 p2 n_o0 f_o0)) 0 0 := by
  refine Meets.of pn_2 ?_
  intro p e s m below meth c s₁ hx hby hml hZ hown hnm hret hlk X0 e0
  have hml : c.maxLocals = 6 := hml
  have hown : s.vm.findClass "com/example/ananke/ananke/hash/LittleEndian" = some m.cls := hown
  have N0 := Fr.nil n0
  have b35 : ∀ (T : State) (L : List Loc) (X : Stand p l e ({ frames := 0, cells := 0, slots := 0, locals := 0 } : Room) s m #[(.ref a_o0), (.int p1), (.int p2)] below meth c T L 0 0) (eT : T.heap = h0) (N : Fr n0 L) (x3 : Int64) (d0 : Slot) (od0 : OneS d0) (d1 : Slot) (od1 : OneS d1) (d2 : Slot) (od2 : OneS d2) (d5 : Slot) (od5 : OneS d5), Ends p e below s 0 0 (Q2 Z a_o0 n_o0 f_o0 h0 n0 (F2_35 K n_o0 f_o0 x3)) (T.setTop (mkF m 35 #[d0, d1, d2, .val (.long x3), .second, d5] [])) := by
    intro T L X eT N x3 d0 od0 d1 od1 d2 od2 d5 od5
    refine Ends.step (u' := (T.setTop (mkF m 36 #[d0, d1, d2, .val (.long x3), .second, d5] [(.long x3)]))) ?_ (fun _ k => XT.lloadN X.here hx rfl (hb hby d2_35) rfl k)
    exact Ends.ret X (v := some (.long x3)) (fun q => by rw [hret] at q; cases q) hlk (fun fs hr => X.lreturnOut hx hret (hb hby d2_36) hr) (by decide) (by decide) ⟨rfl, N, eT⟩
  have b7 : ∀ (j : Nat) (T : State) (L : List Loc) (X : Stand p l e ({ frames := 0, cells := 0, slots := 0, locals := 0 } : Room) s m #[(.ref a_o0), (.int p1), (.int p2)] below meth c T L 0 0) (eT : T.heap = h0) (N : Fr n0 L) (x1 : Int32) (x3 : Int64) (x5 : Int32) (d2 : Slot) (od2 : OneS d2) (ok : (O2_7 K j n_o0 f_o0 x1 x3 x5)), Ends p e below s 0 0 (Q2 Z a_o0 n_o0 f_o0 h0 n0 (F2_7 K j n_o0 f_o0 x1 x3 x5)) (T.setTop (mkF m 7 #[.val (.ref a_o0), .val (.int x1), d2, .val (.long x3), .second, .val (.int x5)] [])) := by
    intro j
    induction j with
    | zero => intro T L X eT N x1 x3 x5 d2 od2 ok; exact ok.elim
    | succ j ih =>
      have b29 : ∀ (T : State) (L : List Loc) (X : Stand p l e ({ frames := 0, cells := 0, slots := 0, locals := 0 } : Room) s m #[(.ref a_o0), (.int p1), (.int p2)] below meth c T L 0 0) (eT : T.heap = h0) (N : Fr n0 L) (x1 : Int32) (x3 : Int64) (x5 : Int32) (d2 : Slot) (od2 : OneS d2) (ok : (O2_29 K (O2_7 K j) n_o0 f_o0 x1 x3 x5)), Ends p e below s 0 0 (Q2 Z a_o0 n_o0 f_o0 h0 n0 (F2_29 K (F2_7 K j) n_o0 f_o0 x1 x3 x5)) (T.setTop (mkF m 29 #[.val (.ref a_o0), .val (.int x1), d2, .val (.long x3), .second, .val (.int x5)] [])) := by
        intro T L X eT N x1 x3 x5 d2 od2 ok
        refine Ends.step (u' := (T.setTop (mkF m 32 #[.val (.ref a_o0), .val (.int x1), d2, .val (.long x3), .second, .val (.int (x5 + (-1 : Int32)))] []))) ?_ (fun _ k => XT.iincV X.here hx rfl (-1 : Int32) (hb hby d2_29) rfl rfl (l' := #[.val (.ref a_o0), .val (.int x1), d2, .val (.long x3), .second, .val (.int (x5 + (-1 : Int32)))]) rfl k)
        refine Ends.step (u' := (T.setTop (mkF m 7 #[.val (.ref a_o0), .val (.int x1), d2, .val (.long x3), .second, .val (.int (x5 + (-1 : Int32)))] []))) ?_ (fun _ k => XS.goto X.here hx rfl (pc0 := 32) (pc' := 7) rfl (hb hby d2_32) (by decide) (by decide) k)
        exact ih T _ X eT N x1 x3 (x5 + (-1 : Int32)) (d2) od2 ok
      have b12 : ∀ (T : State) (L : List Loc) (X : Stand p l e ({ frames := 0, cells := 0, slots := 0, locals := 0 } : Room) s m #[(.ref a_o0), (.int p1), (.int p2)] below meth c T L 0 0) (eT : T.heap = h0) (N : Fr n0 L) (x1 : Int32) (x3 : Int64) (x5 : Int32) (d2 : Slot) (od2 : OneS d2) (ok : (O2_12 K (O2_7 K j) n_o0 f_o0 x1 x3 x5)), Ends p e below s 0 0 (Q2 Z a_o0 n_o0 f_o0 h0 n0 (F2_12 K (F2_7 K j) n_o0 f_o0 x1 x3 x5)) (T.setTop (mkF m 12 #[.val (.ref a_o0), .val (.int x1), d2, .val (.long x3), .second, .val (.int x5)] [])) := by
        intro T L X eT N x1 x3 x5 d2 od2 ok
        obtain ⟨o1, ok⟩ := ok
        refine Ends.step (u' := (T.setTop (mkF m 13 #[.val (.ref a_o0), .val (.int x1), d2, .val (.long x3), .second, .val (.int x5)] [(.long x3)]))) ?_ (fun _ k => XT.lloadN X.here hx rfl (hb hby d2_12) rfl k)
        refine Ends.step (u' := (T.setTop (mkF m 15 #[.val (.ref a_o0), .val (.int x1), d2, .val (.long x3), .second, .val (.int x5)] [(.int (8 : Int32)), (.long x3)]))) ?_ (fun _ k => XT.bipushV X.here hx rfl (8 : Int32) (hb hby d2_13) rfl k)
        refine Ends.step (u' := (T.setTop (mkF m 16 #[.val (.ref a_o0), .val (.int x1), d2, .val (.long x3), .second, .val (.int x5)] [(.long (x3 <<< (((8 : Int32)).toInt64 &&& 63)))]))) ?_ (fun _ k => XT.lshl X.here hx rfl (hb hby d2_15) rfl k)
        refine Ends.step (u' := (T.setTop (mkF m 17 #[.val (.ref a_o0), .val (.int x1), d2, .val (.long x3), .second, .val (.int x5)] [(.ref a_o0), (.long (x3 <<< (((8 : Int32)).toInt64 &&& 63)))]))) ?_ (fun _ k => XS.aloadN X.here hx rfl (hb hby d2_16) rfl rfl k)
        refine Ends.step (u' := (T.setTop (mkF m 18 #[.val (.ref a_o0), .val (.int x1), d2, .val (.long x3), .second, .val (.int x5)] [(.int x1), (.ref a_o0), (.long (x3 <<< (((8 : Int32)).toInt64 &&& 63)))]))) ?_ (fun _ k => XS.iloadN X.here hx rfl (hb hby d2_17) rfl k)
        refine Ends.step (u' := (T.setTop (mkF m 20 #[.val (.ref a_o0), .val (.int x1), d2, .val (.long x3), .second, .val (.int x5)] [(.int x5), (.int x1), (.ref a_o0), (.long (x3 <<< (((8 : Int32)).toInt64 &&& 63)))]))) ?_ (fun _ k => XS.iload X.here hx rfl (hb hby d2_18) rfl k)
        refine Ends.step (u' := (T.setTop (mkF m 21 #[.val (.ref a_o0), .val (.int x1), d2, .val (.long x3), .second, .val (.int x5)] [(.int (x1 + x5)), (.ref a_o0), (.long (x3 <<< (((8 : Int32)).toInt64 &&& 63)))]))) ?_ (fun _ k => XS.iadd X.here hx rfl (hb hby d2_20) rfl k)
        refine Ends.baload X hx hZ eT A_o0 o1 (g := (mkF m 21 #[.val (.ref a_o0), .val (.int x1), d2, .val (.long x3), .second, .val (.int x5)] [(.int (x1 + x5)), (.ref a_o0), (.long (x3 <<< (((8 : Int32)).toInt64 &&& 63)))])) rfl rfl (hb hby d2_21) ?_
        show Ends p e below s _ _ _ (T.setTop (mkF m 22 #[.val (.ref a_o0), .val (.int x1), d2, .val (.long x3), .second, .val (.int x5)] [(.int (f_o0 ((x1 + x5)).toNatClampNeg)), (.long (x3 <<< (((8 : Int32)).toInt64 &&& 63)))]))
        refine Ends.step (u' := (T.setTop (mkF m 25 #[.val (.ref a_o0), .val (.int x1), d2, .val (.long x3), .second, .val (.int x5)] [(.int (255 : Int32)), (.int (f_o0 ((x1 + x5)).toNatClampNeg)), (.long (x3 <<< (((8 : Int32)).toInt64 &&& 63)))]))) ?_ (fun _ k => XT.sipushV X.here hx rfl (255 : Int32) (hb hby d2_22) rfl k)
        refine Ends.step (u' := (T.setTop (mkF m 26 #[.val (.ref a_o0), .val (.int x1), d2, .val (.long x3), .second, .val (.int x5)] [(.int ((f_o0 ((x1 + x5)).toNatClampNeg) &&& (255 : Int32))), (.long (x3 <<< (((8 : Int32)).toInt64 &&& 63)))]))) ?_ (fun _ k => XS.iand X.here hx rfl (hb hby d2_25) rfl k)
        refine Ends.step (u' := (T.setTop (mkF m 27 #[.val (.ref a_o0), .val (.int x1), d2, .val (.long x3), .second, .val (.int x5)] [(.long ((((f_o0 ((x1 + x5)).toNatClampNeg) &&& (255 : Int32))).toInt64)), (.long (x3 <<< (((8 : Int32)).toInt64 &&& 63)))]))) ?_ (fun _ k => XT.i2l X.here hx rfl (hb hby d2_26) rfl k)
        refine Ends.step (u' := (T.setTop (mkF m 28 #[.val (.ref a_o0), .val (.int x1), d2, .val (.long x3), .second, .val (.int x5)] [(.long ((x3 <<< (((8 : Int32)).toInt64 &&& 63)) ||| ((((f_o0 ((x1 + x5)).toNatClampNeg) &&& (255 : Int32))).toInt64)))]))) ?_ (fun _ k => XT.lor X.here hx rfl (hb hby d2_27) rfl k)
        refine Ends.step (u' := (T.setTop (mkF m 29 #[.val (.ref a_o0), .val (.int x1), d2, .val (.long ((x3 <<< (((8 : Int32)).toInt64 &&& 63)) ||| ((((f_o0 ((x1 + x5)).toNatClampNeg) &&& (255 : Int32))).toInt64))), .second, .val (.int x5)] []))) ?_ (fun _ k => XT.lstoreN X.here hx rfl (hb hby d2_28) rfl (l' := #[.val (.ref a_o0), .val (.int x1), d2, .val (.long ((x3 <<< (((8 : Int32)).toInt64 &&& 63)) ||| ((((f_o0 ((x1 + x5)).toNatClampNeg) &&& (255 : Int32))).toInt64))), .second, .val (.int x5)]) rfl k)
        exact b29 T _ X eT N x1 ((x3 <<< (((8 : Int32)).toInt64 &&& 63)) ||| ((((f_o0 ((x1 + x5)).toNatClampNeg) &&& (255 : Int32))).toInt64)) x5 (d2) od2 ok
      intro T L X eT N x1 x3 x5 d2 od2 ok
      obtain ⟨okt, okf⟩ := ok
      refine Ends.step (u' := (T.setTop (mkF m 9 #[.val (.ref a_o0), .val (.int x1), d2, .val (.long x3), .second, .val (.int x5)] [(.int x5)]))) ?_ (fun _ k => XS.iload X.here hx rfl (hb hby d2_7) rfl k)
      by_cases hc9 : x5 < 0
      · refine Eq.mp (congrArg (fun z => Ends p e below s 0 0 (Q2 Z a_o0 n_o0 f_o0 h0 n0 z) (T.setTop (mkF m 9 #[.val (.ref a_o0), .val (.int x1), d2, .val (.long x3), .second, .val (.int x5)] [(.int x5)]))) (show (F2_7 K (j + 1) n_o0 f_o0 x1 x3 x5) = (F2_35 K n_o0 f_o0 x3) from (if_pos hc9)).symm) ?_
        refine Ends.step (u' := (T.setTop (mkF m 35 #[.val (.ref a_o0), .val (.int x1), d2, .val (.long x3), .second, .val (.int x5)] []))) ?_ (fun _ k => XS.ifYes X.here hx rfl (pc0 := 9) (pc' := 35) rfl (hb hby d2_9) rfl (XT.i0_lt_t hc9) (by decide) (by decide) k)
        exact b35 T _ X eT N x3 (.val (.ref a_o0)) (Or.inr ⟨_, rfl, rfl⟩) (.val (.int x1)) (Or.inr ⟨_, rfl, rfl⟩) (d2) od2 (.val (.int x5)) (Or.inr ⟨_, rfl, rfl⟩)
      · refine Eq.mp (congrArg (fun z => Ends p e below s 0 0 (Q2 Z a_o0 n_o0 f_o0 h0 n0 z) (T.setTop (mkF m 9 #[.val (.ref a_o0), .val (.int x1), d2, .val (.long x3), .second, .val (.int x5)] [(.int x5)]))) (show (F2_7 K (j + 1) n_o0 f_o0 x1 x3 x5) = (F2_12 K (F2_7 K j) n_o0 f_o0 x1 x3 x5) from (if_neg hc9)).symm) ?_
        refine Ends.step (u' := (T.setTop (mkF m 12 #[.val (.ref a_o0), .val (.int x1), d2, .val (.long x3), .second, .val (.int x5)] []))) ?_ (fun _ k => XS.ifNo X.here hx rfl (hb hby d2_9) rfl (XT.i0_lt_f hc9) k)
        exact b12 T _ X eT N x1 x3 x5 (d2) od2 (okf hc9)
  refine Ends.step (u' := (s₁.setTop (mkF m 0 #[.val (.ref a_o0), .val (.int p1), .val (.int p2), .unset, .unset, .unset] []))) ?_ (fun _ k => castTop (ef_2 m a_o0 p1 p2) k)
  refine Ends.step (u' := (s₁.setTop (mkF m 1 #[.val (.ref a_o0), .val (.int p1), .val (.int p2), .unset, .unset, .unset] [(.long (0 : Int64))]))) ?_ (fun _ k => XT.lconstV X0.here hx rfl (0 : Int64) (hb hby d2_0) rfl k)
  refine Ends.step (u' := (s₁.setTop (mkF m 2 #[.val (.ref a_o0), .val (.int p1), .val (.int p2), .val (.long (0 : Int64)), .second, .unset] []))) ?_ (fun _ k => XT.lstoreN X0.here hx rfl (hb hby d2_1) rfl (l' := #[.val (.ref a_o0), .val (.int p1), .val (.int p2), .val (.long (0 : Int64)), .second, .unset]) rfl k)
  refine Ends.step (u' := (s₁.setTop (mkF m 3 #[.val (.ref a_o0), .val (.int p1), .val (.int p2), .val (.long (0 : Int64)), .second, .unset] [(.int p2)]))) ?_ (fun _ k => XS.iloadN X0.here hx rfl (hb hby d2_2) rfl k)
  refine Ends.step (u' := (s₁.setTop (mkF m 4 #[.val (.ref a_o0), .val (.int p1), .val (.int p2), .val (.long (0 : Int64)), .second, .unset] [(.int (1 : Int32)), (.int p2)]))) ?_ (fun _ k => XT.iconstV X0.here hx rfl (1 : Int32) (hb hby d2_3) rfl k)
  refine Ends.step (u' := (s₁.setTop (mkF m 5 #[.val (.ref a_o0), .val (.int p1), .val (.int p2), .val (.long (0 : Int64)), .second, .unset] [(.int (p2 - (1 : Int32)))]))) ?_ (fun _ k => XS.isub X0.here hx rfl (hb hby d2_4) rfl k)
  refine Ends.step (u' := (s₁.setTop (mkF m 7 #[.val (.ref a_o0), .val (.int p1), .val (.int p2), .val (.long (0 : Int64)), .second, .val (.int (p2 - (1 : Int32)))] []))) ?_ (fun _ k => XS.istore X0.here hx rfl (hb hby d2_5) rfl (l' := #[.val (.ref a_o0), .val (.int p1), .val (.int p2), .val (.long (0 : Int64)), .second, .val (.int (p2 - (1 : Int32)))]) rfl k)
  exact b7 K s₁ _ X0 e0 N0 p1 (0 : Int64) (p2 - (1 : Int32)) (.val (.int p2)) (Or.inr ⟨_, rfl, rfl⟩) ok
theorem pn_0 : plainFor x = true := by first | exact plainFor_of_name (by first | (simp [plainName, overriddenIn]; done) | decide +kernel) | decide +kernel
theorem ef_0 (m : MethodId) (y0 : Int64) (y1 : Int64) (y2 : Int32) (y3 : Int32) : entryFrame m #[(.long y0), (.long y1), (.int y2), (.int y3)] maxLocals = mkF m 0 #[.val (.long y0), .second, .val (.long y1), .second, .val (.int y2), .val (.int y3), .unset, .unset, .unset, .unset, .unset, .unset, .unset] [] := by first | (simp [entryFrame, mkF, argsToLocals, Value.category, maxLocals]; done) | rfl
def Q0 (Z : State)   (h0 : Heap) (n0 : Nat) (ans : Int32) (v : Option Value) (h : Heap) (L : List Loc) : Prop := v = some (.int ans) ∧ Fr n0 L
set_option maxRecDepth 65536 in
set_option maxHeartbeats 40000000 in
theorem rm0 (l : Launch) (Z : State) (a0 : Array Value) (hw : ∀ d ∈ tables_1, d.before a0 Z = true) (K : Nat) (p0 : Int64) (p1 : Int64) (p2 : Int32) (p3 : Int32)  (h0 : Heap) (n0 : Nat) (Z0 : n0 ≤ h0.size)  (ok : O0 K p0 p1 p2 p3) :
    Meets l Z x code maxLocals ret tables_1 room_1 #[(.long p0), (.long p1), (.int p2), (.int p3)] h0 (Q0 Z  h0 n0 (F0 K p0 p1 p2 p3)) 1 16 := by
  refine Meets.of pn_0 ?_
  intro p e s m below meth c s₁ hx hby hml hZ hown hnm hret hlk X0 e0
  have hml : c.maxLocals = 13 := hml
  have hown : s.vm.findClass "com/example/ananke/ananke/hash/LittleEndianPartialLongAtPinLaw" = some m.cls := hown
  have N0 := Fr.nil n0
  have b305 : ∀ (T : State) (L : List Loc) (h : Heap) (X : Stand p l e room_1 s m #[(.long p0), (.long p1), (.int p2), (.int p3)] below meth c T L 1 16) (eT : T.heap = h) (N : Fr n0 L) (Zs : n0 ≤ h.size) (t0 : Int32) (z0 : Int64) (z2 : Int64) (d4 : Slot) (od4 : OneS d4) (d5 : Slot) (od5 : OneS d5) (d6 : Slot) (od6 : OneS d6) (d7 : Slot) (od7 : OneS d7) (d8 : Slot) (od8 : OneS d8) (z9 : Int64) (z11 : Int64), Ends p e below s 1 16 (Q0 Z  h0 n0 (F0_305 K t0)) (T.setTop (mkF m 305 #[.val (.long z0), .second, .val (.long z2), .second, d4, d5, d6, d7, d8, .val (.long z9), .second, .val (.long z11), .second] [(.int t0)])) := by
    intro T L h X eT N Zs t0 z0 z2 d4 od4 d5 od5 d6 od6 d7 od7 d8 od8 z9 z11
    exact Ends.ret X (v := some (.int (nar .boolean t0))) (fun q => by rw [hret] at q; cases q) hlk (fun fs hr => retN X hx (t := .boolean) hret (by simp) (hb hby at_305) hr) (by decide) (by decide) ⟨rfl, N⟩
  have b300 : ∀ (T : State) (L : List Loc) (h : Heap) (X : Stand p l e room_1 s m #[(.long p0), (.long p1), (.int p2), (.int p3)] below meth c T L 1 16) (eT : T.heap = h) (N : Fr n0 L) (Zs : n0 ≤ h.size) (z0 : Int64) (z2 : Int64) (d4 : Slot) (od4 : OneS d4) (d5 : Slot) (od5 : OneS d5) (d6 : Slot) (od6 : OneS d6) (d7 : Slot) (od7 : OneS d7) (d8 : Slot) (od8 : OneS d8) (z9 : Int64) (z11 : Int64), Ends p e below s 1 16 (Q0 Z  h0 n0 (F0_300 K)) (T.setTop (mkF m 300 #[.val (.long z0), .second, .val (.long z2), .second, d4, d5, d6, d7, d8, .val (.long z9), .second, .val (.long z11), .second] [])) := by
    intro T L h X eT N Zs z0 z2 d4 od4 d5 od5 d6 od6 d7 od7 d8 od8 z9 z11
    refine Ends.step (u' := (T.setTop (mkF m 301 #[.val (.long z0), .second, .val (.long z2), .second, d4, d5, d6, d7, d8, .val (.long z9), .second, .val (.long z11), .second] [(.int (1 : Int32))]))) ?_ (fun _ k => XT.iconstV X.here hx rfl (1 : Int32) (hb hby at_300) rfl k)
    refine Ends.step (u' := (T.setTop (mkF m 305 #[.val (.long z0), .second, .val (.long z2), .second, d4, d5, d6, d7, d8, .val (.long z9), .second, .val (.long z11), .second] [(.int (1 : Int32))]))) ?_ (fun _ k => XS.goto X.here hx rfl (pc0 := 301) (pc' := 305) rfl (hb hby at_301) (by decide) (by decide) k)
    exact b305 T _ _ X eT N Zs (1 : Int32) z0 z2 (d4) od4 (d5) od5 (d6) od6 (d7) od7 (d8) od8 z9 z11
  have b304 : ∀ (T : State) (L : List Loc) (h : Heap) (X : Stand p l e room_1 s m #[(.long p0), (.long p1), (.int p2), (.int p3)] below meth c T L 1 16) (eT : T.heap = h) (N : Fr n0 L) (Zs : n0 ≤ h.size) (z0 : Int64) (z2 : Int64) (d4 : Slot) (od4 : OneS d4) (d5 : Slot) (od5 : OneS d5) (d6 : Slot) (od6 : OneS d6) (d7 : Slot) (od7 : OneS d7) (d8 : Slot) (od8 : OneS d8) (z9 : Int64) (z11 : Int64), Ends p e below s 1 16 (Q0 Z  h0 n0 (F0_304 K)) (T.setTop (mkF m 304 #[.val (.long z0), .second, .val (.long z2), .second, d4, d5, d6, d7, d8, .val (.long z9), .second, .val (.long z11), .second] [])) := by
    intro T L h X eT N Zs z0 z2 d4 od4 d5 od5 d6 od6 d7 od7 d8 od8 z9 z11
    refine Ends.step (u' := (T.setTop (mkF m 305 #[.val (.long z0), .second, .val (.long z2), .second, d4, d5, d6, d7, d8, .val (.long z9), .second, .val (.long z11), .second] [(.int (0 : Int32))]))) ?_ (fun _ k => XT.iconstV X.here hx rfl (0 : Int32) (hb hby at_304) rfl k)
    exact b305 T _ _ X eT N Zs (0 : Int32) z0 z2 (d4) od4 (d5) od5 (d6) od6 (d7) od7 (d8) od8 z9 z11
  have b292 : ∀ (T : State) (L : List Loc) (h : Heap) (X : Stand p l e room_1 s m #[(.long p0), (.long p1), (.int p2), (.int p3)] below meth c T L 1 16) (eT : T.heap = h) (N : Fr n0 L) (Zs : n0 ≤ h.size) (x9 : Int64) (x11 : Int64) (z0 : Int64) (z2 : Int64) (d4 : Slot) (od4 : OneS d4) (d5 : Slot) (od5 : OneS d5) (d6 : Slot) (od6 : OneS d6) (d7 : Slot) (od7 : OneS d7) (d8 : Slot) (od8 : OneS d8), Ends p e below s 1 16 (Q0 Z  h0 n0 (F0_292 K x9 x11)) (T.setTop (mkF m 292 #[.val (.long z0), .second, .val (.long z2), .second, d4, d5, d6, d7, d8, .val (.long x9), .second, .val (.long x11), .second] [])) := by
    intro T L h X eT N Zs x9 x11 z0 z2 d4 od4 d5 od5 d6 od6 d7 od7 d8 od8
    refine Ends.step (u' := (T.setTop (mkF m 294 #[.val (.long z0), .second, .val (.long z2), .second, d4, d5, d6, d7, d8, .val (.long x9), .second, .val (.long x11), .second] [(.long x11)]))) ?_ (fun _ k => XT.lload X.here hx rfl (hb hby at_292) rfl k)
    refine Ends.step (u' := (T.setTop (mkF m 296 #[.val (.long z0), .second, .val (.long z2), .second, d4, d5, d6, d7, d8, .val (.long x9), .second, .val (.long x11), .second] [(.long x9), (.long x11)]))) ?_ (fun _ k => XT.lload X.here hx rfl (hb hby at_294) rfl k)
    refine Ends.step (u' := (T.setTop (mkF m 297 #[.val (.long z0), .second, .val (.long z2), .second, d4, d5, d6, d7, d8, .val (.long x9), .second, .val (.long x11), .second] [(.int (XT.cmpL x11 x9))]))) ?_ (fun _ k => XT.lcmp X.here hx rfl (hb hby at_296) rfl k)
    by_cases hc297 : x11 = x9
    · refine Eq.mp (congrArg (fun z => Ends p e below s 1 16 (Q0 Z  h0 n0 z) (T.setTop (mkF m 297 #[.val (.long z0), .second, .val (.long z2), .second, d4, d5, d6, d7, d8, .val (.long x9), .second, .val (.long x11), .second] [(.int (XT.cmpL x11 x9))]))) (show (F0_292 K x9 x11) = (F0_300 K) from (if_pos hc297)).symm) ?_
      refine Ends.step (u' := (T.setTop (mkF m 300 #[.val (.long z0), .second, .val (.long z2), .second, d4, d5, d6, d7, d8, .val (.long x9), .second, .val (.long x11), .second] []))) ?_ (fun _ k => XS.ifNo X.here hx rfl (hb hby at_297) rfl (XT.ll_ne_f hc297) k)
      exact b300 T _ _ X eT N Zs z0 z2 (d4) od4 (d5) od5 (d6) od6 (d7) od7 (d8) od8 x9 x11
    · refine Eq.mp (congrArg (fun z => Ends p e below s 1 16 (Q0 Z  h0 n0 z) (T.setTop (mkF m 297 #[.val (.long z0), .second, .val (.long z2), .second, d4, d5, d6, d7, d8, .val (.long x9), .second, .val (.long x11), .second] [(.int (XT.cmpL x11 x9))]))) (show (F0_292 K x9 x11) = (F0_304 K) from (if_neg hc297)).symm) ?_
      refine Ends.step (u' := (T.setTop (mkF m 304 #[.val (.long z0), .second, .val (.long z2), .second, d4, d5, d6, d7, d8, .val (.long x9), .second, .val (.long x11), .second] []))) ?_ (fun _ k => XS.ifYes X.here hx rfl (pc0 := 297) (pc' := 304) rfl (hb hby at_297) rfl (XT.ll_ne_t hc297) (by decide) (by decide) k)
      exact b304 T _ _ X eT N Zs z0 z2 (d4) od4 (d5) od5 (d6) od6 (d7) od7 (d8) od8 x9 x11
  have b281 : ∀ (T : State) (L : List Loc) (h : Heap) (X : Stand p l e room_1 s m #[(.long p0), (.long p1), (.int p2), (.int p3)] below meth c T L 1 16) (eT : T.heap = h) (N : Fr n0 L) (Zs : n0 ≤ h.size) (cf_q2 : Nat → Int32) (x7 : Int32) (x8 : Int32) (x9 : Int64) (z0 : Int64) (z2 : Int64) (d4 : Slot) (od4 : OneS d4) (d5 : Slot) (od5 : OneS d5) (a_q2 : Addr) (g_q2 : n0 ≤ a_q2) (A_q2 : Ar Z h a_q2 .byte 16 cf_q2) (ok : (O0_281 K cf_q2 x7 x8 x9)), Ends p e below s 1 16 (Q0 Z  h0 n0 (F0_281 K cf_q2 x7 x8 x9)) (T.setTop (mkF m 281 #[.val (.long z0), .second, .val (.long z2), .second, d4, d5, .val (.ref a_q2), .val (.int x7), .val (.int x8), .val (.long x9), .second, .unset, .unset] [])) := by
    intro T L h X eT N Zs cf_q2 x7 x8 x9 z0 z2 d4 od4 d5 od5 a_q2 g_q2 A_q2 ok
    obtain ⟨o1, ok⟩ := ok
    refine Ends.step (u' := (T.setTop (mkF m 283 #[.val (.long z0), .second, .val (.long z2), .second, d4, d5, .val (.ref a_q2), .val (.int x7), .val (.int x8), .val (.long x9), .second, .unset, .unset] [(.ref a_q2)]))) ?_ (fun _ k => XS.aload X.here hx rfl (hb hby at_281) rfl rfl k)
    refine Ends.step (u' := (T.setTop (mkF m 285 #[.val (.long z0), .second, .val (.long z2), .second, d4, d5, .val (.ref a_q2), .val (.int x7), .val (.int x8), .val (.long x9), .second, .unset, .unset] [(.int x7), (.ref a_q2)]))) ?_ (fun _ k => XS.iload X.here hx rfl (hb hby at_283) rfl k)
    refine Ends.step (u' := (T.setTop (mkF m 287 #[.val (.long z0), .second, .val (.long z2), .second, d4, d5, .val (.ref a_q2), .val (.int x7), .val (.int x8), .val (.long x9), .second, .unset, .unset] [(.int x8), (.int x7), (.ref a_q2)]))) ?_ (fun _ k => XS.iload X.here hx rfl (hb hby at_285) rfl k)
    refine Ends.callS X hx hZ hown (hw _ (List.mem_of_getElem? (i := 6) rfl)) (hw _ (List.mem_of_getElem? (i := 7) rfl)) (hw _ (List.mem_of_getElem? (i := 8) rfl)) (hw _ (List.mem_of_getElem? (i := 9) rfl)) (by decide) (rm2 l Z a0 hw K x7 x8 16 cf_q2 a_q2 h n0 Zs A_q2 o1) 0 (by decide) (by decide) eT  (g := (mkF m 287 #[.val (.long z0), .second, .val (.long z2), .second, d4, d5, .val (.ref a_q2), .val (.int x7), .val (.int x8), .val (.long x9), .second, .unset, .unset] [(.int x8), (.int x7), (.ref a_q2)])) rfl (by rw [hml]; rfl)  [(.ref a_q2), (.int x7), (.int x8)] [] (lenOf pd_1 rfl) rfl (by show 2 * 0 + _ ≤ _; exact Nat.le_of_eq rfl) (hb hby at_287) rfl (by decide) (by decide) (fun v1 T1 L1 X1 hQ1 => ?_)
    obtain ⟨rfl, Nq1, e1⟩ := hQ1
    have N1 := Fr.app N Nq1
    show Ends p e below s _ _ _ (T1.setTop (mkF m 290 #[.val (.long z0), .second, .val (.long z2), .second, d4, d5, .val (.ref a_q2), .val (.int x7), .val (.int x8), .val (.long x9), .second, .unset, .unset] [(.long (F2 K x7 x8 16 cf_q2))]))
    refine Ends.step (u' := (T1.setTop (mkF m 292 #[.val (.long z0), .second, .val (.long z2), .second, d4, d5, .val (.ref a_q2), .val (.int x7), .val (.int x8), .val (.long x9), .second, .val (.long (F2 K x7 x8 16 cf_q2)), .second] []))) ?_ (fun _ k => XT.lstore X1.here hx rfl (hb hby at_290) rfl (l' := #[.val (.long z0), .second, .val (.long z2), .second, d4, d5, .val (.ref a_q2), .val (.int x7), .val (.int x8), .val (.long x9), .second, .val (.long (F2 K x7 x8 16 cf_q2)), .second]) rfl k)
    exact b292 T1 _ _ X1 e1 N1 Zs x9 (F2 K x7 x8 16 cf_q2) z0 z2 (d4) od4 (d5) od5 (.val (.ref a_q2)) (Or.inr ⟨_, rfl, rfl⟩) (.val (.int x7)) (Or.inr ⟨_, rfl, rfl⟩) (.val (.int x8)) (Or.inr ⟨_, rfl, rfl⟩)
  have b190 : ∀ (T : State) (L : List Loc) (h : Heap) (X : Stand p l e room_1 s m #[(.long p0), (.long p1), (.int p2), (.int p3)] below meth c T L 1 16) (eT : T.heap = h) (N : Fr n0 L) (Zs : n0 ≤ h.size) (cf_q2 : Nat → Int32) (x7 : Int32) (x8 : Int32) (z0 : Int64) (z2 : Int64) (d4 : Slot) (od4 : OneS d4) (d5 : Slot) (od5 : OneS d5) (a_q2 : Addr) (g_q2 : n0 ≤ a_q2) (A_q2 : Ar Z h a_q2 .byte 16 cf_q2) (ok : (O0_190 K cf_q2 x7 x8)), Ends p e below s 1 16 (Q0 Z  h0 n0 (F0_190 K cf_q2 x7 x8)) (T.setTop (mkF m 190 #[.val (.long z0), .second, .val (.long z2), .second, d4, d5, .val (.ref a_q2), .val (.int x7), .val (.int x8), .unset, .unset, .unset, .unset] [])) := by
    intro T L h X eT N Zs cf_q2 x7 x8 z0 z2 d4 od4 d5 od5 a_q2 g_q2 A_q2 ok
    obtain ⟨o1, o2, o3, o4, o5, o6, o7, o8, ok⟩ := ok
    refine Ends.step (u' := (T.setTop (mkF m 192 #[.val (.long z0), .second, .val (.long z2), .second, d4, d5, .val (.ref a_q2), .val (.int x7), .val (.int x8), .unset, .unset, .unset, .unset] [(.ref a_q2)]))) ?_ (fun _ k => XS.aload X.here hx rfl (hb hby at_190) rfl rfl k)
    refine Ends.step (u' := (T.setTop (mkF m 194 #[.val (.long z0), .second, .val (.long z2), .second, d4, d5, .val (.ref a_q2), .val (.int x7), .val (.int x8), .unset, .unset, .unset, .unset] [(.int x7), (.ref a_q2)]))) ?_ (fun _ k => XS.iload X.here hx rfl (hb hby at_192) rfl k)
    refine Ends.step (u' := (T.setTop (mkF m 196 #[.val (.long z0), .second, .val (.long z2), .second, d4, d5, .val (.ref a_q2), .val (.int x7), .val (.int x8), .unset, .unset, .unset, .unset] [(.int x8), (.int x7), (.ref a_q2)]))) ?_ (fun _ k => XS.iload X.here hx rfl (hb hby at_194) rfl k)
    refine Ends.step (u' := (T.setTop (mkF m 197 #[.val (.long z0), .second, .val (.long z2), .second, d4, d5, .val (.ref a_q2), .val (.int x7), .val (.int x8), .unset, .unset, .unset, .unset] [(.int (0 : Int32)), (.int x8), (.int x7), (.ref a_q2)]))) ?_ (fun _ k => XT.iconstV X.here hx rfl (0 : Int32) (hb hby at_196) rfl k)
    refine Ends.callS X hx hZ hown (hw _ (List.mem_of_getElem? (i := 2) rfl)) (hw _ (List.mem_of_getElem? (i := 3) rfl)) (hw _ (List.mem_of_getElem? (i := 4) rfl)) (hw _ (List.mem_of_getElem? (i := 5) rfl)) (by decide) (rm1 l Z a0 hw x7 x8 (0 : Int32) 16 cf_q2 a_q2 h n0 Zs A_q2 o1) 0 (by decide) (by decide) eT  (g := (mkF m 197 #[.val (.long z0), .second, .val (.long z2), .second, d4, d5, .val (.ref a_q2), .val (.int x7), .val (.int x8), .unset, .unset, .unset, .unset] [(.int (0 : Int32)), (.int x8), (.int x7), (.ref a_q2)])) rfl (by rw [hml]; rfl)  [(.ref a_q2), (.int x7), (.int x8), (.int (0 : Int32))] [] (lenOf pd_0 rfl) rfl (by show 2 * 0 + _ ≤ _; exact Nat.le_of_eq rfl) (hb hby at_197) rfl (by decide) (by decide) (fun v2 T2 L2 X2 hQ2 => ?_)
    obtain ⟨rfl, Nq2, e2⟩ := hQ2
    have N2 := Fr.app N Nq2
    show Ends p e below s _ _ _ (T2.setTop (mkF m 200 #[.val (.long z0), .second, .val (.long z2), .second, d4, d5, .val (.ref a_q2), .val (.int x7), .val (.int x8), .unset, .unset, .unset, .unset] [(.long (F1 x7 x8 (0 : Int32) 16 cf_q2))]))
    refine Ends.step (u' := (T2.setTop (mkF m 202 #[.val (.long z0), .second, .val (.long z2), .second, d4, d5, .val (.ref a_q2), .val (.int x7), .val (.int x8), .unset, .unset, .unset, .unset] [(.ref a_q2), (.long (F1 x7 x8 (0 : Int32) 16 cf_q2))]))) ?_ (fun _ k => XS.aload X2.here hx rfl (hb hby at_200) rfl rfl k)
    refine Ends.step (u' := (T2.setTop (mkF m 204 #[.val (.long z0), .second, .val (.long z2), .second, d4, d5, .val (.ref a_q2), .val (.int x7), .val (.int x8), .unset, .unset, .unset, .unset] [(.int x7), (.ref a_q2), (.long (F1 x7 x8 (0 : Int32) 16 cf_q2))]))) ?_ (fun _ k => XS.iload X2.here hx rfl (hb hby at_202) rfl k)
    refine Ends.step (u' := (T2.setTop (mkF m 206 #[.val (.long z0), .second, .val (.long z2), .second, d4, d5, .val (.ref a_q2), .val (.int x7), .val (.int x8), .unset, .unset, .unset, .unset] [(.int x8), (.int x7), (.ref a_q2), (.long (F1 x7 x8 (0 : Int32) 16 cf_q2))]))) ?_ (fun _ k => XS.iload X2.here hx rfl (hb hby at_204) rfl k)
    refine Ends.step (u' := (T2.setTop (mkF m 207 #[.val (.long z0), .second, .val (.long z2), .second, d4, d5, .val (.ref a_q2), .val (.int x7), .val (.int x8), .unset, .unset, .unset, .unset] [(.int (1 : Int32)), (.int x8), (.int x7), (.ref a_q2), (.long (F1 x7 x8 (0 : Int32) 16 cf_q2))]))) ?_ (fun _ k => XT.iconstV X2.here hx rfl (1 : Int32) (hb hby at_206) rfl k)
    refine Ends.callS X2 hx hZ hown (hw _ (List.mem_of_getElem? (i := 2) rfl)) (hw _ (List.mem_of_getElem? (i := 3) rfl)) (hw _ (List.mem_of_getElem? (i := 4) rfl)) (hw _ (List.mem_of_getElem? (i := 5) rfl)) (by decide) (rm1 l Z a0 hw x7 x8 (1 : Int32) 16 cf_q2 a_q2 h n0 Zs A_q2 o2) 2 (by decide) (by decide) e2  (g := (mkF m 207 #[.val (.long z0), .second, .val (.long z2), .second, d4, d5, .val (.ref a_q2), .val (.int x7), .val (.int x8), .unset, .unset, .unset, .unset] [(.int (1 : Int32)), (.int x8), (.int x7), (.ref a_q2), (.long (F1 x7 x8 (0 : Int32) 16 cf_q2))])) rfl (by rw [hml]; rfl)  [(.ref a_q2), (.int x7), (.int x8), (.int (1 : Int32))] [(.long (F1 x7 x8 (0 : Int32) 16 cf_q2))] (lenOf pd_0 rfl) rfl (by show 2 * 0 + _ ≤ _; exact Nat.le_of_eq rfl) (hb hby at_207) rfl (by decide) (by decide) (fun v3 T3 L3 X3 hQ3 => ?_)
    obtain ⟨rfl, Nq3, e3⟩ := hQ3
    have N3 := Fr.app N2 Nq3
    show Ends p e below s _ _ _ (T3.setTop (mkF m 210 #[.val (.long z0), .second, .val (.long z2), .second, d4, d5, .val (.ref a_q2), .val (.int x7), .val (.int x8), .unset, .unset, .unset, .unset] [(.long (F1 x7 x8 (1 : Int32) 16 cf_q2)), (.long (F1 x7 x8 (0 : Int32) 16 cf_q2))]))
    refine Ends.step (u' := (T3.setTop (mkF m 211 #[.val (.long z0), .second, .val (.long z2), .second, d4, d5, .val (.ref a_q2), .val (.int x7), .val (.int x8), .unset, .unset, .unset, .unset] [(.long ((F1 x7 x8 (0 : Int32) 16 cf_q2) ||| (F1 x7 x8 (1 : Int32) 16 cf_q2)))]))) ?_ (fun _ k => XT.lor X3.here hx rfl (hb hby at_210) rfl k)
    refine Ends.step (u' := (T3.setTop (mkF m 213 #[.val (.long z0), .second, .val (.long z2), .second, d4, d5, .val (.ref a_q2), .val (.int x7), .val (.int x8), .unset, .unset, .unset, .unset] [(.ref a_q2), (.long ((F1 x7 x8 (0 : Int32) 16 cf_q2) ||| (F1 x7 x8 (1 : Int32) 16 cf_q2)))]))) ?_ (fun _ k => XS.aload X3.here hx rfl (hb hby at_211) rfl rfl k)
    refine Ends.step (u' := (T3.setTop (mkF m 215 #[.val (.long z0), .second, .val (.long z2), .second, d4, d5, .val (.ref a_q2), .val (.int x7), .val (.int x8), .unset, .unset, .unset, .unset] [(.int x7), (.ref a_q2), (.long ((F1 x7 x8 (0 : Int32) 16 cf_q2) ||| (F1 x7 x8 (1 : Int32) 16 cf_q2)))]))) ?_ (fun _ k => XS.iload X3.here hx rfl (hb hby at_213) rfl k)
    refine Ends.step (u' := (T3.setTop (mkF m 217 #[.val (.long z0), .second, .val (.long z2), .second, d4, d5, .val (.ref a_q2), .val (.int x7), .val (.int x8), .unset, .unset, .unset, .unset] [(.int x8), (.int x7), (.ref a_q2), (.long ((F1 x7 x8 (0 : Int32) 16 cf_q2) ||| (F1 x7 x8 (1 : Int32) 16 cf_q2)))]))) ?_ (fun _ k => XS.iload X3.here hx rfl (hb hby at_215) rfl k)
    refine Ends.step (u' := (T3.setTop (mkF m 218 #[.val (.long z0), .second, .val (.long z2), .second, d4, d5, .val (.ref a_q2), .val (.int x7), .val (.int x8), .unset, .unset, .unset, .unset] [(.int (2 : Int32)), (.int x8), (.int x7), (.ref a_q2), (.long ((F1 x7 x8 (0 : Int32) 16 cf_q2) ||| (F1 x7 x8 (1 : Int32) 16 cf_q2)))]))) ?_ (fun _ k => XT.iconstV X3.here hx rfl (2 : Int32) (hb hby at_217) rfl k)
    refine Ends.callS X3 hx hZ hown (hw _ (List.mem_of_getElem? (i := 2) rfl)) (hw _ (List.mem_of_getElem? (i := 3) rfl)) (hw _ (List.mem_of_getElem? (i := 4) rfl)) (hw _ (List.mem_of_getElem? (i := 5) rfl)) (by decide) (rm1 l Z a0 hw x7 x8 (2 : Int32) 16 cf_q2 a_q2 h n0 Zs A_q2 o3) 2 (by decide) (by decide) e3  (g := (mkF m 218 #[.val (.long z0), .second, .val (.long z2), .second, d4, d5, .val (.ref a_q2), .val (.int x7), .val (.int x8), .unset, .unset, .unset, .unset] [(.int (2 : Int32)), (.int x8), (.int x7), (.ref a_q2), (.long ((F1 x7 x8 (0 : Int32) 16 cf_q2) ||| (F1 x7 x8 (1 : Int32) 16 cf_q2)))])) rfl (by rw [hml]; rfl)  [(.ref a_q2), (.int x7), (.int x8), (.int (2 : Int32))] [(.long ((F1 x7 x8 (0 : Int32) 16 cf_q2) ||| (F1 x7 x8 (1 : Int32) 16 cf_q2)))] (lenOf pd_0 rfl) rfl (by show 2 * 0 + _ ≤ _; exact Nat.le_of_eq rfl) (hb hby at_218) rfl (by decide) (by decide) (fun v4 T4 L4 X4 hQ4 => ?_)
    obtain ⟨rfl, Nq4, e4⟩ := hQ4
    have N4 := Fr.app N3 Nq4
    show Ends p e below s _ _ _ (T4.setTop (mkF m 221 #[.val (.long z0), .second, .val (.long z2), .second, d4, d5, .val (.ref a_q2), .val (.int x7), .val (.int x8), .unset, .unset, .unset, .unset] [(.long (F1 x7 x8 (2 : Int32) 16 cf_q2)), (.long ((F1 x7 x8 (0 : Int32) 16 cf_q2) ||| (F1 x7 x8 (1 : Int32) 16 cf_q2)))]))
    refine Ends.step (u' := (T4.setTop (mkF m 222 #[.val (.long z0), .second, .val (.long z2), .second, d4, d5, .val (.ref a_q2), .val (.int x7), .val (.int x8), .unset, .unset, .unset, .unset] [(.long (((F1 x7 x8 (0 : Int32) 16 cf_q2) ||| (F1 x7 x8 (1 : Int32) 16 cf_q2)) ||| (F1 x7 x8 (2 : Int32) 16 cf_q2)))]))) ?_ (fun _ k => XT.lor X4.here hx rfl (hb hby at_221) rfl k)
    refine Ends.step (u' := (T4.setTop (mkF m 224 #[.val (.long z0), .second, .val (.long z2), .second, d4, d5, .val (.ref a_q2), .val (.int x7), .val (.int x8), .unset, .unset, .unset, .unset] [(.ref a_q2), (.long (((F1 x7 x8 (0 : Int32) 16 cf_q2) ||| (F1 x7 x8 (1 : Int32) 16 cf_q2)) ||| (F1 x7 x8 (2 : Int32) 16 cf_q2)))]))) ?_ (fun _ k => XS.aload X4.here hx rfl (hb hby at_222) rfl rfl k)
    refine Ends.step (u' := (T4.setTop (mkF m 226 #[.val (.long z0), .second, .val (.long z2), .second, d4, d5, .val (.ref a_q2), .val (.int x7), .val (.int x8), .unset, .unset, .unset, .unset] [(.int x7), (.ref a_q2), (.long (((F1 x7 x8 (0 : Int32) 16 cf_q2) ||| (F1 x7 x8 (1 : Int32) 16 cf_q2)) ||| (F1 x7 x8 (2 : Int32) 16 cf_q2)))]))) ?_ (fun _ k => XS.iload X4.here hx rfl (hb hby at_224) rfl k)
    refine Ends.step (u' := (T4.setTop (mkF m 228 #[.val (.long z0), .second, .val (.long z2), .second, d4, d5, .val (.ref a_q2), .val (.int x7), .val (.int x8), .unset, .unset, .unset, .unset] [(.int x8), (.int x7), (.ref a_q2), (.long (((F1 x7 x8 (0 : Int32) 16 cf_q2) ||| (F1 x7 x8 (1 : Int32) 16 cf_q2)) ||| (F1 x7 x8 (2 : Int32) 16 cf_q2)))]))) ?_ (fun _ k => XS.iload X4.here hx rfl (hb hby at_226) rfl k)
    refine Ends.step (u' := (T4.setTop (mkF m 229 #[.val (.long z0), .second, .val (.long z2), .second, d4, d5, .val (.ref a_q2), .val (.int x7), .val (.int x8), .unset, .unset, .unset, .unset] [(.int (3 : Int32)), (.int x8), (.int x7), (.ref a_q2), (.long (((F1 x7 x8 (0 : Int32) 16 cf_q2) ||| (F1 x7 x8 (1 : Int32) 16 cf_q2)) ||| (F1 x7 x8 (2 : Int32) 16 cf_q2)))]))) ?_ (fun _ k => XT.iconstV X4.here hx rfl (3 : Int32) (hb hby at_228) rfl k)
    refine Ends.callS X4 hx hZ hown (hw _ (List.mem_of_getElem? (i := 2) rfl)) (hw _ (List.mem_of_getElem? (i := 3) rfl)) (hw _ (List.mem_of_getElem? (i := 4) rfl)) (hw _ (List.mem_of_getElem? (i := 5) rfl)) (by decide) (rm1 l Z a0 hw x7 x8 (3 : Int32) 16 cf_q2 a_q2 h n0 Zs A_q2 o4) 2 (by decide) (by decide) e4  (g := (mkF m 229 #[.val (.long z0), .second, .val (.long z2), .second, d4, d5, .val (.ref a_q2), .val (.int x7), .val (.int x8), .unset, .unset, .unset, .unset] [(.int (3 : Int32)), (.int x8), (.int x7), (.ref a_q2), (.long (((F1 x7 x8 (0 : Int32) 16 cf_q2) ||| (F1 x7 x8 (1 : Int32) 16 cf_q2)) ||| (F1 x7 x8 (2 : Int32) 16 cf_q2)))])) rfl (by rw [hml]; rfl)  [(.ref a_q2), (.int x7), (.int x8), (.int (3 : Int32))] [(.long (((F1 x7 x8 (0 : Int32) 16 cf_q2) ||| (F1 x7 x8 (1 : Int32) 16 cf_q2)) ||| (F1 x7 x8 (2 : Int32) 16 cf_q2)))] (lenOf pd_0 rfl) rfl (by show 2 * 0 + _ ≤ _; exact Nat.le_of_eq rfl) (hb hby at_229) rfl (by decide) (by decide) (fun v5 T5 L5 X5 hQ5 => ?_)
    obtain ⟨rfl, Nq5, e5⟩ := hQ5
    have N5 := Fr.app N4 Nq5
    show Ends p e below s _ _ _ (T5.setTop (mkF m 232 #[.val (.long z0), .second, .val (.long z2), .second, d4, d5, .val (.ref a_q2), .val (.int x7), .val (.int x8), .unset, .unset, .unset, .unset] [(.long (F1 x7 x8 (3 : Int32) 16 cf_q2)), (.long (((F1 x7 x8 (0 : Int32) 16 cf_q2) ||| (F1 x7 x8 (1 : Int32) 16 cf_q2)) ||| (F1 x7 x8 (2 : Int32) 16 cf_q2)))]))
    refine Ends.step (u' := (T5.setTop (mkF m 233 #[.val (.long z0), .second, .val (.long z2), .second, d4, d5, .val (.ref a_q2), .val (.int x7), .val (.int x8), .unset, .unset, .unset, .unset] [(.long ((((F1 x7 x8 (0 : Int32) 16 cf_q2) ||| (F1 x7 x8 (1 : Int32) 16 cf_q2)) ||| (F1 x7 x8 (2 : Int32) 16 cf_q2)) ||| (F1 x7 x8 (3 : Int32) 16 cf_q2)))]))) ?_ (fun _ k => XT.lor X5.here hx rfl (hb hby at_232) rfl k)
    refine Ends.step (u' := (T5.setTop (mkF m 235 #[.val (.long z0), .second, .val (.long z2), .second, d4, d5, .val (.ref a_q2), .val (.int x7), .val (.int x8), .unset, .unset, .unset, .unset] [(.ref a_q2), (.long ((((F1 x7 x8 (0 : Int32) 16 cf_q2) ||| (F1 x7 x8 (1 : Int32) 16 cf_q2)) ||| (F1 x7 x8 (2 : Int32) 16 cf_q2)) ||| (F1 x7 x8 (3 : Int32) 16 cf_q2)))]))) ?_ (fun _ k => XS.aload X5.here hx rfl (hb hby at_233) rfl rfl k)
    refine Ends.step (u' := (T5.setTop (mkF m 237 #[.val (.long z0), .second, .val (.long z2), .second, d4, d5, .val (.ref a_q2), .val (.int x7), .val (.int x8), .unset, .unset, .unset, .unset] [(.int x7), (.ref a_q2), (.long ((((F1 x7 x8 (0 : Int32) 16 cf_q2) ||| (F1 x7 x8 (1 : Int32) 16 cf_q2)) ||| (F1 x7 x8 (2 : Int32) 16 cf_q2)) ||| (F1 x7 x8 (3 : Int32) 16 cf_q2)))]))) ?_ (fun _ k => XS.iload X5.here hx rfl (hb hby at_235) rfl k)
    refine Ends.step (u' := (T5.setTop (mkF m 239 #[.val (.long z0), .second, .val (.long z2), .second, d4, d5, .val (.ref a_q2), .val (.int x7), .val (.int x8), .unset, .unset, .unset, .unset] [(.int x8), (.int x7), (.ref a_q2), (.long ((((F1 x7 x8 (0 : Int32) 16 cf_q2) ||| (F1 x7 x8 (1 : Int32) 16 cf_q2)) ||| (F1 x7 x8 (2 : Int32) 16 cf_q2)) ||| (F1 x7 x8 (3 : Int32) 16 cf_q2)))]))) ?_ (fun _ k => XS.iload X5.here hx rfl (hb hby at_237) rfl k)
    refine Ends.step (u' := (T5.setTop (mkF m 240 #[.val (.long z0), .second, .val (.long z2), .second, d4, d5, .val (.ref a_q2), .val (.int x7), .val (.int x8), .unset, .unset, .unset, .unset] [(.int (4 : Int32)), (.int x8), (.int x7), (.ref a_q2), (.long ((((F1 x7 x8 (0 : Int32) 16 cf_q2) ||| (F1 x7 x8 (1 : Int32) 16 cf_q2)) ||| (F1 x7 x8 (2 : Int32) 16 cf_q2)) ||| (F1 x7 x8 (3 : Int32) 16 cf_q2)))]))) ?_ (fun _ k => XT.iconstV X5.here hx rfl (4 : Int32) (hb hby at_239) rfl k)
    refine Ends.callS X5 hx hZ hown (hw _ (List.mem_of_getElem? (i := 2) rfl)) (hw _ (List.mem_of_getElem? (i := 3) rfl)) (hw _ (List.mem_of_getElem? (i := 4) rfl)) (hw _ (List.mem_of_getElem? (i := 5) rfl)) (by decide) (rm1 l Z a0 hw x7 x8 (4 : Int32) 16 cf_q2 a_q2 h n0 Zs A_q2 o5) 2 (by decide) (by decide) e5  (g := (mkF m 240 #[.val (.long z0), .second, .val (.long z2), .second, d4, d5, .val (.ref a_q2), .val (.int x7), .val (.int x8), .unset, .unset, .unset, .unset] [(.int (4 : Int32)), (.int x8), (.int x7), (.ref a_q2), (.long ((((F1 x7 x8 (0 : Int32) 16 cf_q2) ||| (F1 x7 x8 (1 : Int32) 16 cf_q2)) ||| (F1 x7 x8 (2 : Int32) 16 cf_q2)) ||| (F1 x7 x8 (3 : Int32) 16 cf_q2)))])) rfl (by rw [hml]; rfl)  [(.ref a_q2), (.int x7), (.int x8), (.int (4 : Int32))] [(.long ((((F1 x7 x8 (0 : Int32) 16 cf_q2) ||| (F1 x7 x8 (1 : Int32) 16 cf_q2)) ||| (F1 x7 x8 (2 : Int32) 16 cf_q2)) ||| (F1 x7 x8 (3 : Int32) 16 cf_q2)))] (lenOf pd_0 rfl) rfl (by show 2 * 0 + _ ≤ _; exact Nat.le_of_eq rfl) (hb hby at_240) rfl (by decide) (by decide) (fun v6 T6 L6 X6 hQ6 => ?_)
    obtain ⟨rfl, Nq6, e6⟩ := hQ6
    have N6 := Fr.app N5 Nq6
    show Ends p e below s _ _ _ (T6.setTop (mkF m 243 #[.val (.long z0), .second, .val (.long z2), .second, d4, d5, .val (.ref a_q2), .val (.int x7), .val (.int x8), .unset, .unset, .unset, .unset] [(.long (F1 x7 x8 (4 : Int32) 16 cf_q2)), (.long ((((F1 x7 x8 (0 : Int32) 16 cf_q2) ||| (F1 x7 x8 (1 : Int32) 16 cf_q2)) ||| (F1 x7 x8 (2 : Int32) 16 cf_q2)) ||| (F1 x7 x8 (3 : Int32) 16 cf_q2)))]))
    refine Ends.step (u' := (T6.setTop (mkF m 244 #[.val (.long z0), .second, .val (.long z2), .second, d4, d5, .val (.ref a_q2), .val (.int x7), .val (.int x8), .unset, .unset, .unset, .unset] [(.long (((((F1 x7 x8 (0 : Int32) 16 cf_q2) ||| (F1 x7 x8 (1 : Int32) 16 cf_q2)) ||| (F1 x7 x8 (2 : Int32) 16 cf_q2)) ||| (F1 x7 x8 (3 : Int32) 16 cf_q2)) ||| (F1 x7 x8 (4 : Int32) 16 cf_q2)))]))) ?_ (fun _ k => XT.lor X6.here hx rfl (hb hby at_243) rfl k)
    refine Ends.step (u' := (T6.setTop (mkF m 246 #[.val (.long z0), .second, .val (.long z2), .second, d4, d5, .val (.ref a_q2), .val (.int x7), .val (.int x8), .unset, .unset, .unset, .unset] [(.ref a_q2), (.long (((((F1 x7 x8 (0 : Int32) 16 cf_q2) ||| (F1 x7 x8 (1 : Int32) 16 cf_q2)) ||| (F1 x7 x8 (2 : Int32) 16 cf_q2)) ||| (F1 x7 x8 (3 : Int32) 16 cf_q2)) ||| (F1 x7 x8 (4 : Int32) 16 cf_q2)))]))) ?_ (fun _ k => XS.aload X6.here hx rfl (hb hby at_244) rfl rfl k)
    refine Ends.step (u' := (T6.setTop (mkF m 248 #[.val (.long z0), .second, .val (.long z2), .second, d4, d5, .val (.ref a_q2), .val (.int x7), .val (.int x8), .unset, .unset, .unset, .unset] [(.int x7), (.ref a_q2), (.long (((((F1 x7 x8 (0 : Int32) 16 cf_q2) ||| (F1 x7 x8 (1 : Int32) 16 cf_q2)) ||| (F1 x7 x8 (2 : Int32) 16 cf_q2)) ||| (F1 x7 x8 (3 : Int32) 16 cf_q2)) ||| (F1 x7 x8 (4 : Int32) 16 cf_q2)))]))) ?_ (fun _ k => XS.iload X6.here hx rfl (hb hby at_246) rfl k)
    refine Ends.step (u' := (T6.setTop (mkF m 250 #[.val (.long z0), .second, .val (.long z2), .second, d4, d5, .val (.ref a_q2), .val (.int x7), .val (.int x8), .unset, .unset, .unset, .unset] [(.int x8), (.int x7), (.ref a_q2), (.long (((((F1 x7 x8 (0 : Int32) 16 cf_q2) ||| (F1 x7 x8 (1 : Int32) 16 cf_q2)) ||| (F1 x7 x8 (2 : Int32) 16 cf_q2)) ||| (F1 x7 x8 (3 : Int32) 16 cf_q2)) ||| (F1 x7 x8 (4 : Int32) 16 cf_q2)))]))) ?_ (fun _ k => XS.iload X6.here hx rfl (hb hby at_248) rfl k)
    refine Ends.step (u' := (T6.setTop (mkF m 251 #[.val (.long z0), .second, .val (.long z2), .second, d4, d5, .val (.ref a_q2), .val (.int x7), .val (.int x8), .unset, .unset, .unset, .unset] [(.int (5 : Int32)), (.int x8), (.int x7), (.ref a_q2), (.long (((((F1 x7 x8 (0 : Int32) 16 cf_q2) ||| (F1 x7 x8 (1 : Int32) 16 cf_q2)) ||| (F1 x7 x8 (2 : Int32) 16 cf_q2)) ||| (F1 x7 x8 (3 : Int32) 16 cf_q2)) ||| (F1 x7 x8 (4 : Int32) 16 cf_q2)))]))) ?_ (fun _ k => XT.iconstV X6.here hx rfl (5 : Int32) (hb hby at_250) rfl k)
    refine Ends.callS X6 hx hZ hown (hw _ (List.mem_of_getElem? (i := 2) rfl)) (hw _ (List.mem_of_getElem? (i := 3) rfl)) (hw _ (List.mem_of_getElem? (i := 4) rfl)) (hw _ (List.mem_of_getElem? (i := 5) rfl)) (by decide) (rm1 l Z a0 hw x7 x8 (5 : Int32) 16 cf_q2 a_q2 h n0 Zs A_q2 o6) 2 (by decide) (by decide) e6  (g := (mkF m 251 #[.val (.long z0), .second, .val (.long z2), .second, d4, d5, .val (.ref a_q2), .val (.int x7), .val (.int x8), .unset, .unset, .unset, .unset] [(.int (5 : Int32)), (.int x8), (.int x7), (.ref a_q2), (.long (((((F1 x7 x8 (0 : Int32) 16 cf_q2) ||| (F1 x7 x8 (1 : Int32) 16 cf_q2)) ||| (F1 x7 x8 (2 : Int32) 16 cf_q2)) ||| (F1 x7 x8 (3 : Int32) 16 cf_q2)) ||| (F1 x7 x8 (4 : Int32) 16 cf_q2)))])) rfl (by rw [hml]; rfl)  [(.ref a_q2), (.int x7), (.int x8), (.int (5 : Int32))] [(.long (((((F1 x7 x8 (0 : Int32) 16 cf_q2) ||| (F1 x7 x8 (1 : Int32) 16 cf_q2)) ||| (F1 x7 x8 (2 : Int32) 16 cf_q2)) ||| (F1 x7 x8 (3 : Int32) 16 cf_q2)) ||| (F1 x7 x8 (4 : Int32) 16 cf_q2)))] (lenOf pd_0 rfl) rfl (by show 2 * 0 + _ ≤ _; exact Nat.le_of_eq rfl) (hb hby at_251) rfl (by decide) (by decide) (fun v7 T7 L7 X7 hQ7 => ?_)
    obtain ⟨rfl, Nq7, e7⟩ := hQ7
    have N7 := Fr.app N6 Nq7
    show Ends p e below s _ _ _ (T7.setTop (mkF m 254 #[.val (.long z0), .second, .val (.long z2), .second, d4, d5, .val (.ref a_q2), .val (.int x7), .val (.int x8), .unset, .unset, .unset, .unset] [(.long (F1 x7 x8 (5 : Int32) 16 cf_q2)), (.long (((((F1 x7 x8 (0 : Int32) 16 cf_q2) ||| (F1 x7 x8 (1 : Int32) 16 cf_q2)) ||| (F1 x7 x8 (2 : Int32) 16 cf_q2)) ||| (F1 x7 x8 (3 : Int32) 16 cf_q2)) ||| (F1 x7 x8 (4 : Int32) 16 cf_q2)))]))
    refine Ends.step (u' := (T7.setTop (mkF m 255 #[.val (.long z0), .second, .val (.long z2), .second, d4, d5, .val (.ref a_q2), .val (.int x7), .val (.int x8), .unset, .unset, .unset, .unset] [(.long ((((((F1 x7 x8 (0 : Int32) 16 cf_q2) ||| (F1 x7 x8 (1 : Int32) 16 cf_q2)) ||| (F1 x7 x8 (2 : Int32) 16 cf_q2)) ||| (F1 x7 x8 (3 : Int32) 16 cf_q2)) ||| (F1 x7 x8 (4 : Int32) 16 cf_q2)) ||| (F1 x7 x8 (5 : Int32) 16 cf_q2)))]))) ?_ (fun _ k => XT.lor X7.here hx rfl (hb hby at_254) rfl k)
    refine Ends.step (u' := (T7.setTop (mkF m 257 #[.val (.long z0), .second, .val (.long z2), .second, d4, d5, .val (.ref a_q2), .val (.int x7), .val (.int x8), .unset, .unset, .unset, .unset] [(.ref a_q2), (.long ((((((F1 x7 x8 (0 : Int32) 16 cf_q2) ||| (F1 x7 x8 (1 : Int32) 16 cf_q2)) ||| (F1 x7 x8 (2 : Int32) 16 cf_q2)) ||| (F1 x7 x8 (3 : Int32) 16 cf_q2)) ||| (F1 x7 x8 (4 : Int32) 16 cf_q2)) ||| (F1 x7 x8 (5 : Int32) 16 cf_q2)))]))) ?_ (fun _ k => XS.aload X7.here hx rfl (hb hby at_255) rfl rfl k)
    refine Ends.step (u' := (T7.setTop (mkF m 259 #[.val (.long z0), .second, .val (.long z2), .second, d4, d5, .val (.ref a_q2), .val (.int x7), .val (.int x8), .unset, .unset, .unset, .unset] [(.int x7), (.ref a_q2), (.long ((((((F1 x7 x8 (0 : Int32) 16 cf_q2) ||| (F1 x7 x8 (1 : Int32) 16 cf_q2)) ||| (F1 x7 x8 (2 : Int32) 16 cf_q2)) ||| (F1 x7 x8 (3 : Int32) 16 cf_q2)) ||| (F1 x7 x8 (4 : Int32) 16 cf_q2)) ||| (F1 x7 x8 (5 : Int32) 16 cf_q2)))]))) ?_ (fun _ k => XS.iload X7.here hx rfl (hb hby at_257) rfl k)
    refine Ends.step (u' := (T7.setTop (mkF m 261 #[.val (.long z0), .second, .val (.long z2), .second, d4, d5, .val (.ref a_q2), .val (.int x7), .val (.int x8), .unset, .unset, .unset, .unset] [(.int x8), (.int x7), (.ref a_q2), (.long ((((((F1 x7 x8 (0 : Int32) 16 cf_q2) ||| (F1 x7 x8 (1 : Int32) 16 cf_q2)) ||| (F1 x7 x8 (2 : Int32) 16 cf_q2)) ||| (F1 x7 x8 (3 : Int32) 16 cf_q2)) ||| (F1 x7 x8 (4 : Int32) 16 cf_q2)) ||| (F1 x7 x8 (5 : Int32) 16 cf_q2)))]))) ?_ (fun _ k => XS.iload X7.here hx rfl (hb hby at_259) rfl k)
    refine Ends.step (u' := (T7.setTop (mkF m 263 #[.val (.long z0), .second, .val (.long z2), .second, d4, d5, .val (.ref a_q2), .val (.int x7), .val (.int x8), .unset, .unset, .unset, .unset] [(.int (6 : Int32)), (.int x8), (.int x7), (.ref a_q2), (.long ((((((F1 x7 x8 (0 : Int32) 16 cf_q2) ||| (F1 x7 x8 (1 : Int32) 16 cf_q2)) ||| (F1 x7 x8 (2 : Int32) 16 cf_q2)) ||| (F1 x7 x8 (3 : Int32) 16 cf_q2)) ||| (F1 x7 x8 (4 : Int32) 16 cf_q2)) ||| (F1 x7 x8 (5 : Int32) 16 cf_q2)))]))) ?_ (fun _ k => XT.bipushV X7.here hx rfl (6 : Int32) (hb hby at_261) rfl k)
    refine Ends.callS X7 hx hZ hown (hw _ (List.mem_of_getElem? (i := 2) rfl)) (hw _ (List.mem_of_getElem? (i := 3) rfl)) (hw _ (List.mem_of_getElem? (i := 4) rfl)) (hw _ (List.mem_of_getElem? (i := 5) rfl)) (by decide) (rm1 l Z a0 hw x7 x8 (6 : Int32) 16 cf_q2 a_q2 h n0 Zs A_q2 o7) 2 (by decide) (by decide) e7  (g := (mkF m 263 #[.val (.long z0), .second, .val (.long z2), .second, d4, d5, .val (.ref a_q2), .val (.int x7), .val (.int x8), .unset, .unset, .unset, .unset] [(.int (6 : Int32)), (.int x8), (.int x7), (.ref a_q2), (.long ((((((F1 x7 x8 (0 : Int32) 16 cf_q2) ||| (F1 x7 x8 (1 : Int32) 16 cf_q2)) ||| (F1 x7 x8 (2 : Int32) 16 cf_q2)) ||| (F1 x7 x8 (3 : Int32) 16 cf_q2)) ||| (F1 x7 x8 (4 : Int32) 16 cf_q2)) ||| (F1 x7 x8 (5 : Int32) 16 cf_q2)))])) rfl (by rw [hml]; rfl)  [(.ref a_q2), (.int x7), (.int x8), (.int (6 : Int32))] [(.long ((((((F1 x7 x8 (0 : Int32) 16 cf_q2) ||| (F1 x7 x8 (1 : Int32) 16 cf_q2)) ||| (F1 x7 x8 (2 : Int32) 16 cf_q2)) ||| (F1 x7 x8 (3 : Int32) 16 cf_q2)) ||| (F1 x7 x8 (4 : Int32) 16 cf_q2)) ||| (F1 x7 x8 (5 : Int32) 16 cf_q2)))] (lenOf pd_0 rfl) rfl (by show 2 * 0 + _ ≤ _; exact Nat.le_of_eq rfl) (hb hby at_263) rfl (by decide) (by decide) (fun v8 T8 L8 X8 hQ8 => ?_)
    obtain ⟨rfl, Nq8, e8⟩ := hQ8
    have N8 := Fr.app N7 Nq8
    show Ends p e below s _ _ _ (T8.setTop (mkF m 266 #[.val (.long z0), .second, .val (.long z2), .second, d4, d5, .val (.ref a_q2), .val (.int x7), .val (.int x8), .unset, .unset, .unset, .unset] [(.long (F1 x7 x8 (6 : Int32) 16 cf_q2)), (.long ((((((F1 x7 x8 (0 : Int32) 16 cf_q2) ||| (F1 x7 x8 (1 : Int32) 16 cf_q2)) ||| (F1 x7 x8 (2 : Int32) 16 cf_q2)) ||| (F1 x7 x8 (3 : Int32) 16 cf_q2)) ||| (F1 x7 x8 (4 : Int32) 16 cf_q2)) ||| (F1 x7 x8 (5 : Int32) 16 cf_q2)))]))
    refine Ends.step (u' := (T8.setTop (mkF m 267 #[.val (.long z0), .second, .val (.long z2), .second, d4, d5, .val (.ref a_q2), .val (.int x7), .val (.int x8), .unset, .unset, .unset, .unset] [(.long (((((((F1 x7 x8 (0 : Int32) 16 cf_q2) ||| (F1 x7 x8 (1 : Int32) 16 cf_q2)) ||| (F1 x7 x8 (2 : Int32) 16 cf_q2)) ||| (F1 x7 x8 (3 : Int32) 16 cf_q2)) ||| (F1 x7 x8 (4 : Int32) 16 cf_q2)) ||| (F1 x7 x8 (5 : Int32) 16 cf_q2)) ||| (F1 x7 x8 (6 : Int32) 16 cf_q2)))]))) ?_ (fun _ k => XT.lor X8.here hx rfl (hb hby at_266) rfl k)
    refine Ends.step (u' := (T8.setTop (mkF m 269 #[.val (.long z0), .second, .val (.long z2), .second, d4, d5, .val (.ref a_q2), .val (.int x7), .val (.int x8), .unset, .unset, .unset, .unset] [(.ref a_q2), (.long (((((((F1 x7 x8 (0 : Int32) 16 cf_q2) ||| (F1 x7 x8 (1 : Int32) 16 cf_q2)) ||| (F1 x7 x8 (2 : Int32) 16 cf_q2)) ||| (F1 x7 x8 (3 : Int32) 16 cf_q2)) ||| (F1 x7 x8 (4 : Int32) 16 cf_q2)) ||| (F1 x7 x8 (5 : Int32) 16 cf_q2)) ||| (F1 x7 x8 (6 : Int32) 16 cf_q2)))]))) ?_ (fun _ k => XS.aload X8.here hx rfl (hb hby at_267) rfl rfl k)
    refine Ends.step (u' := (T8.setTop (mkF m 271 #[.val (.long z0), .second, .val (.long z2), .second, d4, d5, .val (.ref a_q2), .val (.int x7), .val (.int x8), .unset, .unset, .unset, .unset] [(.int x7), (.ref a_q2), (.long (((((((F1 x7 x8 (0 : Int32) 16 cf_q2) ||| (F1 x7 x8 (1 : Int32) 16 cf_q2)) ||| (F1 x7 x8 (2 : Int32) 16 cf_q2)) ||| (F1 x7 x8 (3 : Int32) 16 cf_q2)) ||| (F1 x7 x8 (4 : Int32) 16 cf_q2)) ||| (F1 x7 x8 (5 : Int32) 16 cf_q2)) ||| (F1 x7 x8 (6 : Int32) 16 cf_q2)))]))) ?_ (fun _ k => XS.iload X8.here hx rfl (hb hby at_269) rfl k)
    refine Ends.step (u' := (T8.setTop (mkF m 273 #[.val (.long z0), .second, .val (.long z2), .second, d4, d5, .val (.ref a_q2), .val (.int x7), .val (.int x8), .unset, .unset, .unset, .unset] [(.int x8), (.int x7), (.ref a_q2), (.long (((((((F1 x7 x8 (0 : Int32) 16 cf_q2) ||| (F1 x7 x8 (1 : Int32) 16 cf_q2)) ||| (F1 x7 x8 (2 : Int32) 16 cf_q2)) ||| (F1 x7 x8 (3 : Int32) 16 cf_q2)) ||| (F1 x7 x8 (4 : Int32) 16 cf_q2)) ||| (F1 x7 x8 (5 : Int32) 16 cf_q2)) ||| (F1 x7 x8 (6 : Int32) 16 cf_q2)))]))) ?_ (fun _ k => XS.iload X8.here hx rfl (hb hby at_271) rfl k)
    refine Ends.step (u' := (T8.setTop (mkF m 275 #[.val (.long z0), .second, .val (.long z2), .second, d4, d5, .val (.ref a_q2), .val (.int x7), .val (.int x8), .unset, .unset, .unset, .unset] [(.int (7 : Int32)), (.int x8), (.int x7), (.ref a_q2), (.long (((((((F1 x7 x8 (0 : Int32) 16 cf_q2) ||| (F1 x7 x8 (1 : Int32) 16 cf_q2)) ||| (F1 x7 x8 (2 : Int32) 16 cf_q2)) ||| (F1 x7 x8 (3 : Int32) 16 cf_q2)) ||| (F1 x7 x8 (4 : Int32) 16 cf_q2)) ||| (F1 x7 x8 (5 : Int32) 16 cf_q2)) ||| (F1 x7 x8 (6 : Int32) 16 cf_q2)))]))) ?_ (fun _ k => XT.bipushV X8.here hx rfl (7 : Int32) (hb hby at_273) rfl k)
    refine Ends.callS X8 hx hZ hown (hw _ (List.mem_of_getElem? (i := 2) rfl)) (hw _ (List.mem_of_getElem? (i := 3) rfl)) (hw _ (List.mem_of_getElem? (i := 4) rfl)) (hw _ (List.mem_of_getElem? (i := 5) rfl)) (by decide) (rm1 l Z a0 hw x7 x8 (7 : Int32) 16 cf_q2 a_q2 h n0 Zs A_q2 o8) 2 (by decide) (by decide) e8  (g := (mkF m 275 #[.val (.long z0), .second, .val (.long z2), .second, d4, d5, .val (.ref a_q2), .val (.int x7), .val (.int x8), .unset, .unset, .unset, .unset] [(.int (7 : Int32)), (.int x8), (.int x7), (.ref a_q2), (.long (((((((F1 x7 x8 (0 : Int32) 16 cf_q2) ||| (F1 x7 x8 (1 : Int32) 16 cf_q2)) ||| (F1 x7 x8 (2 : Int32) 16 cf_q2)) ||| (F1 x7 x8 (3 : Int32) 16 cf_q2)) ||| (F1 x7 x8 (4 : Int32) 16 cf_q2)) ||| (F1 x7 x8 (5 : Int32) 16 cf_q2)) ||| (F1 x7 x8 (6 : Int32) 16 cf_q2)))])) rfl (by rw [hml]; rfl)  [(.ref a_q2), (.int x7), (.int x8), (.int (7 : Int32))] [(.long (((((((F1 x7 x8 (0 : Int32) 16 cf_q2) ||| (F1 x7 x8 (1 : Int32) 16 cf_q2)) ||| (F1 x7 x8 (2 : Int32) 16 cf_q2)) ||| (F1 x7 x8 (3 : Int32) 16 cf_q2)) ||| (F1 x7 x8 (4 : Int32) 16 cf_q2)) ||| (F1 x7 x8 (5 : Int32) 16 cf_q2)) ||| (F1 x7 x8 (6 : Int32) 16 cf_q2)))] (lenOf pd_0 rfl) rfl (by show 2 * 0 + _ ≤ _; exact Nat.le_of_eq rfl) (hb hby at_275) rfl (by decide) (by decide) (fun v9 T9 L9 X9 hQ9 => ?_)
    obtain ⟨rfl, Nq9, e9⟩ := hQ9
    have N9 := Fr.app N8 Nq9
    show Ends p e below s _ _ _ (T9.setTop (mkF m 278 #[.val (.long z0), .second, .val (.long z2), .second, d4, d5, .val (.ref a_q2), .val (.int x7), .val (.int x8), .unset, .unset, .unset, .unset] [(.long (F1 x7 x8 (7 : Int32) 16 cf_q2)), (.long (((((((F1 x7 x8 (0 : Int32) 16 cf_q2) ||| (F1 x7 x8 (1 : Int32) 16 cf_q2)) ||| (F1 x7 x8 (2 : Int32) 16 cf_q2)) ||| (F1 x7 x8 (3 : Int32) 16 cf_q2)) ||| (F1 x7 x8 (4 : Int32) 16 cf_q2)) ||| (F1 x7 x8 (5 : Int32) 16 cf_q2)) ||| (F1 x7 x8 (6 : Int32) 16 cf_q2)))]))
    refine Ends.step (u' := (T9.setTop (mkF m 279 #[.val (.long z0), .second, .val (.long z2), .second, d4, d5, .val (.ref a_q2), .val (.int x7), .val (.int x8), .unset, .unset, .unset, .unset] [(.long ((((((((F1 x7 x8 (0 : Int32) 16 cf_q2) ||| (F1 x7 x8 (1 : Int32) 16 cf_q2)) ||| (F1 x7 x8 (2 : Int32) 16 cf_q2)) ||| (F1 x7 x8 (3 : Int32) 16 cf_q2)) ||| (F1 x7 x8 (4 : Int32) 16 cf_q2)) ||| (F1 x7 x8 (5 : Int32) 16 cf_q2)) ||| (F1 x7 x8 (6 : Int32) 16 cf_q2)) ||| (F1 x7 x8 (7 : Int32) 16 cf_q2)))]))) ?_ (fun _ k => XT.lor X9.here hx rfl (hb hby at_278) rfl k)
    refine Ends.step (u' := (T9.setTop (mkF m 281 #[.val (.long z0), .second, .val (.long z2), .second, d4, d5, .val (.ref a_q2), .val (.int x7), .val (.int x8), .val (.long ((((((((F1 x7 x8 (0 : Int32) 16 cf_q2) ||| (F1 x7 x8 (1 : Int32) 16 cf_q2)) ||| (F1 x7 x8 (2 : Int32) 16 cf_q2)) ||| (F1 x7 x8 (3 : Int32) 16 cf_q2)) ||| (F1 x7 x8 (4 : Int32) 16 cf_q2)) ||| (F1 x7 x8 (5 : Int32) 16 cf_q2)) ||| (F1 x7 x8 (6 : Int32) 16 cf_q2)) ||| (F1 x7 x8 (7 : Int32) 16 cf_q2))), .second, .unset, .unset] []))) ?_ (fun _ k => XT.lstore X9.here hx rfl (hb hby at_279) rfl (l' := #[.val (.long z0), .second, .val (.long z2), .second, d4, d5, .val (.ref a_q2), .val (.int x7), .val (.int x8), .val (.long ((((((((F1 x7 x8 (0 : Int32) 16 cf_q2) ||| (F1 x7 x8 (1 : Int32) 16 cf_q2)) ||| (F1 x7 x8 (2 : Int32) 16 cf_q2)) ||| (F1 x7 x8 (3 : Int32) 16 cf_q2)) ||| (F1 x7 x8 (4 : Int32) 16 cf_q2)) ||| (F1 x7 x8 (5 : Int32) 16 cf_q2)) ||| (F1 x7 x8 (6 : Int32) 16 cf_q2)) ||| (F1 x7 x8 (7 : Int32) 16 cf_q2))), .second, .unset, .unset]) rfl k)
    exact b281 T9 _ _ X9 e9 N9 Zs cf_q2 x7 x8 ((((((((F1 x7 x8 (0 : Int32) 16 cf_q2) ||| (F1 x7 x8 (1 : Int32) 16 cf_q2)) ||| (F1 x7 x8 (2 : Int32) 16 cf_q2)) ||| (F1 x7 x8 (3 : Int32) 16 cf_q2)) ||| (F1 x7 x8 (4 : Int32) 16 cf_q2)) ||| (F1 x7 x8 (5 : Int32) 16 cf_q2)) ||| (F1 x7 x8 (6 : Int32) 16 cf_q2)) ||| (F1 x7 x8 (7 : Int32) 16 cf_q2)) z0 z2 (d4) od4 (d5) od5 a_q2 g_q2 A_q2 ok
  have b180 : ∀ (T : State) (L : List Loc) (h : Heap) (X : Stand p l e room_1 s m #[(.long p0), (.long p1), (.int p2), (.int p3)] below meth c T L 1 16) (eT : T.heap = h) (N : Fr n0 L) (Zs : n0 ≤ h.size) (cf_q2 : Nat → Int32) (x5 : Int32) (x7 : Int32) (z0 : Int64) (z2 : Int64) (d4 : Slot) (od4 : OneS d4) (a_q2 : Addr) (g_q2 : n0 ≤ a_q2) (A_q2 : Ar Z h a_q2 .byte 16 cf_q2) (ok : (O0_180 K cf_q2 x5 x7)), Ends p e below s 1 16 (Q0 Z  h0 n0 (F0_180 K cf_q2 x5 x7)) (T.setTop (mkF m 180 #[.val (.long z0), .second, .val (.long z2), .second, d4, .val (.int x5), .val (.ref a_q2), .val (.int x7), .unset, .unset, .unset, .unset, .unset] [])) := by
    intro T L h X eT N Zs cf_q2 x5 x7 z0 z2 d4 od4 a_q2 g_q2 A_q2 ok
    refine Ends.step (u' := (T.setTop (mkF m 182 #[.val (.long z0), .second, .val (.long z2), .second, d4, .val (.int x5), .val (.ref a_q2), .val (.int x7), .unset, .unset, .unset, .unset, .unset] [(.int x5)]))) ?_ (fun _ k => XS.iload X.here hx rfl (hb hby at_180) rfl k)
    refine Ends.step (u' := (T.setTop (mkF m 184 #[.val (.long z0), .second, .val (.long z2), .second, d4, .val (.int x5), .val (.ref a_q2), .val (.int x7), .unset, .unset, .unset, .unset, .unset] [(.int (2147483647 : Int32)), (.int x5)]))) ?_ (fun _ k => X.ldcI hx hown (mvT hZ (hw _ (List.mem_of_getElem? (i := 1) rfl))) rfl (hb hby at_182) k)
    refine Ends.step (u' := (T.setTop (mkF m 185 #[.val (.long z0), .second, .val (.long z2), .second, d4, .val (.int x5), .val (.ref a_q2), .val (.int x7), .unset, .unset, .unset, .unset, .unset] [(.int (x5 &&& (2147483647 : Int32)))]))) ?_ (fun _ k => XS.iand X.here hx rfl (hb hby at_184) rfl k)
    refine Ends.step (u' := (T.setTop (mkF m 187 #[.val (.long z0), .second, .val (.long z2), .second, d4, .val (.int x5), .val (.ref a_q2), .val (.int x7), .unset, .unset, .unset, .unset, .unset] [(.int (9 : Int32)), (.int (x5 &&& (2147483647 : Int32)))]))) ?_ (fun _ k => XT.bipushV X.here hx rfl (9 : Int32) (hb hby at_185) rfl k)
    refine Ends.step (u' := (T.setTop (mkF m 188 #[.val (.long z0), .second, .val (.long z2), .second, d4, .val (.int x5), .val (.ref a_q2), .val (.int x7), .unset, .unset, .unset, .unset, .unset] [(.int ((x5 &&& (2147483647 : Int32)) % (9 : Int32)))]))) ?_ (fun _ k => iremM X hx rfl (hb hby at_187) rfl (by decide) k)
    refine Ends.step (u' := (T.setTop (mkF m 190 #[.val (.long z0), .second, .val (.long z2), .second, d4, .val (.int x5), .val (.ref a_q2), .val (.int x7), .val (.int ((x5 &&& (2147483647 : Int32)) % (9 : Int32))), .unset, .unset, .unset, .unset] []))) ?_ (fun _ k => XS.istore X.here hx rfl (hb hby at_188) rfl (l' := #[.val (.long z0), .second, .val (.long z2), .second, d4, .val (.int x5), .val (.ref a_q2), .val (.int x7), .val (.int ((x5 &&& (2147483647 : Int32)) % (9 : Int32))), .unset, .unset, .unset, .unset]) rfl k)
    exact b190 T _ _ X eT N Zs cf_q2 x7 ((x5 &&& (2147483647 : Int32)) % (9 : Int32)) z0 z2 (d4) od4 (.val (.int x5)) (Or.inr ⟨_, rfl, rfl⟩) a_q2 g_q2 A_q2 ok
  refine Ends.step (u' := (s₁.setTop (mkF m 0 #[.val (.long p0), .second, .val (.long p1), .second, .val (.int p2), .val (.int p3), .unset, .unset, .unset, .unset, .unset, .unset, .unset] []))) ?_ (fun _ k => castTop (ef_0 m p0 p1 p2 p3) k)
  refine Ends.step (u' := (s₁.setTop (mkF m 2 #[.val (.long p0), .second, .val (.long p1), .second, .val (.int p2), .val (.int p3), .unset, .unset, .unset, .unset, .unset, .unset, .unset] [(.int (16 : Int32))]))) ?_ (fun _ k => XT.bipushV X0.here hx rfl (16 : Int32) (hb hby at_0) rfl k)
  refine Ends.newA X0 hx hZ (hw _ (List.mem_of_getElem? (i := 0) rfl)) e0 (g := (mkF m 2 #[.val (.long p0), .second, .val (.long p1), .second, .val (.int p2), .val (.int p3), .unset, .unset, .unset, .unset, .unset, .unset, .unset] [(.int (16 : Int32))])) rfl (hb hby at_2) rfl rfl (by decide) 16 (by decide) (by decide) (by decide) (by decide) (fun T10 h10 a10 X10 e10 E10 q10 A10 => ?_)
  have g11 : n0 ≤ a10 := q10 ▸ Z0
  have Z12 := Nat.le_trans Z0 E10.1
  show Ends p e below s _ _ _ (T10.setTop (mkF m 4 #[.val (.long p0), .second, .val (.long p1), .second, .val (.int p2), .val (.int p3), .unset, .unset, .unset, .unset, .unset, .unset, .unset] [(.ref a10)]))
  refine Ends.step (u' := (T10.setTop (mkF m 6 #[.val (.long p0), .second, .val (.long p1), .second, .val (.int p2), .val (.int p3), .val (.ref a10), .unset, .unset, .unset, .unset, .unset, .unset] []))) ?_ (fun _ k => XS.astore X10.here hx rfl (hb hby at_4) rfl rfl (l' := #[.val (.long p0), .second, .val (.long p1), .second, .val (.int p2), .val (.int p3), .val (.ref a10), .unset, .unset, .unset, .unset, .unset, .unset]) rfl k)
  refine Ends.step (u' := (T10.setTop (mkF m 8 #[.val (.long p0), .second, .val (.long p1), .second, .val (.int p2), .val (.int p3), .val (.ref a10), .unset, .unset, .unset, .unset, .unset, .unset] [(.ref a10)]))) ?_ (fun _ k => XS.aload X10.here hx rfl (hb hby at_6) rfl rfl k)
  refine Ends.step (u' := (T10.setTop (mkF m 9 #[.val (.long p0), .second, .val (.long p1), .second, .val (.int p2), .val (.int p3), .val (.ref a10), .unset, .unset, .unset, .unset, .unset, .unset] [(.int (0 : Int32)), (.ref a10)]))) ?_ (fun _ k => XT.iconstV X10.here hx rfl (0 : Int32) (hb hby at_8) rfl k)
  refine Ends.step (u' := (T10.setTop (mkF m 10 #[.val (.long p0), .second, .val (.long p1), .second, .val (.int p2), .val (.int p3), .val (.ref a10), .unset, .unset, .unset, .unset, .unset, .unset] [(.long p0), (.int (0 : Int32)), (.ref a10)]))) ?_ (fun _ k => XT.lloadN X10.here hx rfl (hb hby at_9) rfl k)
  refine Ends.step (u' := (T10.setTop (mkF m 11 #[.val (.long p0), .second, .val (.long p1), .second, .val (.int p2), .val (.int p3), .val (.ref a10), .unset, .unset, .unset, .unset, .unset, .unset] [(.int ((p0).toInt32)), (.int (0 : Int32)), (.ref a10)]))) ?_ (fun _ k => XT.l2i X10.here hx rfl (hb hby at_10) rfl k)
  refine Ends.step (u' := (T10.setTop (mkF m 12 #[.val (.long p0), .second, .val (.long p1), .second, .val (.int p2), .val (.int p3), .val (.ref a10), .unset, .unset, .unset, .unset, .unset, .unset] [(.int ((((p0).toInt32)).toInt8.toInt32)), (.int (0 : Int32)), (.ref a10)]))) ?_ (fun _ k => XT.i2b X10.here hx rfl (hb hby at_11) rfl k)
  refine Ends.bastore X10 hx hZ e10 A10 (by unfold inb; decide) N0 g11 (g := (mkF m 12 #[.val (.long p0), .second, .val (.long p1), .second, .val (.int p2), .val (.int p3), .val (.ref a10), .unset, .unset, .unset, .unset, .unset, .unset] [(.int ((((p0).toInt32)).toInt8.toInt32)), (.int (0 : Int32)), (.ref a10)])) rfl rfl (hb hby at_12) (fun T13 h13 sl13 X13 e13 N13 W13 A13 => ?_)
  show Ends p e below s _ _ _ (T13.setTop (mkF m 13 #[.val (.long p0), .second, .val (.long p1), .second, .val (.int p2), .val (.int p3), .val (.ref a10), .unset, .unset, .unset, .unset, .unset, .unset] []))
  have Z14 : n0 ≤ h13.size := W13.size.symm ▸ Z12
  refine Ends.step (u' := (T13.setTop (mkF m 15 #[.val (.long p0), .second, .val (.long p1), .second, .val (.int p2), .val (.int p3), .val (.ref a10), .unset, .unset, .unset, .unset, .unset, .unset] [(.ref a10)]))) ?_ (fun _ k => XS.aload X13.here hx rfl (hb hby at_13) rfl rfl k)
  refine Ends.step (u' := (T13.setTop (mkF m 16 #[.val (.long p0), .second, .val (.long p1), .second, .val (.int p2), .val (.int p3), .val (.ref a10), .unset, .unset, .unset, .unset, .unset, .unset] [(.int (1 : Int32)), (.ref a10)]))) ?_ (fun _ k => XT.iconstV X13.here hx rfl (1 : Int32) (hb hby at_15) rfl k)
  refine Ends.step (u' := (T13.setTop (mkF m 17 #[.val (.long p0), .second, .val (.long p1), .second, .val (.int p2), .val (.int p3), .val (.ref a10), .unset, .unset, .unset, .unset, .unset, .unset] [(.long p0), (.int (1 : Int32)), (.ref a10)]))) ?_ (fun _ k => XT.lloadN X13.here hx rfl (hb hby at_16) rfl k)
  refine Ends.step (u' := (T13.setTop (mkF m 19 #[.val (.long p0), .second, .val (.long p1), .second, .val (.int p2), .val (.int p3), .val (.ref a10), .unset, .unset, .unset, .unset, .unset, .unset] [(.int (8 : Int32)), (.long p0), (.int (1 : Int32)), (.ref a10)]))) ?_ (fun _ k => XT.bipushV X13.here hx rfl (8 : Int32) (hb hby at_17) rfl k)
  refine Ends.step (u' := (T13.setTop (mkF m 20 #[.val (.long p0), .second, .val (.long p1), .second, .val (.int p2), .val (.int p3), .val (.ref a10), .unset, .unset, .unset, .unset, .unset, .unset] [(.long (XT.ushrL p0 (8 : Int32))), (.int (1 : Int32)), (.ref a10)]))) ?_ (fun _ k => XT.lushr X13.here hx rfl (hb hby at_19) rfl k)
  refine Ends.step (u' := (T13.setTop (mkF m 21 #[.val (.long p0), .second, .val (.long p1), .second, .val (.int p2), .val (.int p3), .val (.ref a10), .unset, .unset, .unset, .unset, .unset, .unset] [(.int (((XT.ushrL p0 (8 : Int32))).toInt32)), (.int (1 : Int32)), (.ref a10)]))) ?_ (fun _ k => XT.l2i X13.here hx rfl (hb hby at_20) rfl k)
  refine Ends.step (u' := (T13.setTop (mkF m 22 #[.val (.long p0), .second, .val (.long p1), .second, .val (.int p2), .val (.int p3), .val (.ref a10), .unset, .unset, .unset, .unset, .unset, .unset] [(.int (((((XT.ushrL p0 (8 : Int32))).toInt32)).toInt8.toInt32)), (.int (1 : Int32)), (.ref a10)]))) ?_ (fun _ k => XT.i2b X13.here hx rfl (hb hby at_21) rfl k)
  refine Ends.bastore X13 hx hZ e13 A13 (by unfold inb; decide) N13 g11 (g := (mkF m 22 #[.val (.long p0), .second, .val (.long p1), .second, .val (.int p2), .val (.int p3), .val (.ref a10), .unset, .unset, .unset, .unset, .unset, .unset] [(.int (((((XT.ushrL p0 (8 : Int32))).toInt32)).toInt8.toInt32)), (.int (1 : Int32)), (.ref a10)])) rfl rfl (hb hby at_22) (fun T15 h15 sl15 X15 e15 N15 W15 A15 => ?_)
  show Ends p e below s _ _ _ (T15.setTop (mkF m 23 #[.val (.long p0), .second, .val (.long p1), .second, .val (.int p2), .val (.int p3), .val (.ref a10), .unset, .unset, .unset, .unset, .unset, .unset] []))
  have Z16 : n0 ≤ h15.size := W15.size.symm ▸ Z14
  refine Ends.step (u' := (T15.setTop (mkF m 25 #[.val (.long p0), .second, .val (.long p1), .second, .val (.int p2), .val (.int p3), .val (.ref a10), .unset, .unset, .unset, .unset, .unset, .unset] [(.ref a10)]))) ?_ (fun _ k => XS.aload X15.here hx rfl (hb hby at_23) rfl rfl k)
  refine Ends.step (u' := (T15.setTop (mkF m 26 #[.val (.long p0), .second, .val (.long p1), .second, .val (.int p2), .val (.int p3), .val (.ref a10), .unset, .unset, .unset, .unset, .unset, .unset] [(.int (2 : Int32)), (.ref a10)]))) ?_ (fun _ k => XT.iconstV X15.here hx rfl (2 : Int32) (hb hby at_25) rfl k)
  refine Ends.step (u' := (T15.setTop (mkF m 27 #[.val (.long p0), .second, .val (.long p1), .second, .val (.int p2), .val (.int p3), .val (.ref a10), .unset, .unset, .unset, .unset, .unset, .unset] [(.long p0), (.int (2 : Int32)), (.ref a10)]))) ?_ (fun _ k => XT.lloadN X15.here hx rfl (hb hby at_26) rfl k)
  refine Ends.step (u' := (T15.setTop (mkF m 29 #[.val (.long p0), .second, .val (.long p1), .second, .val (.int p2), .val (.int p3), .val (.ref a10), .unset, .unset, .unset, .unset, .unset, .unset] [(.int (16 : Int32)), (.long p0), (.int (2 : Int32)), (.ref a10)]))) ?_ (fun _ k => XT.bipushV X15.here hx rfl (16 : Int32) (hb hby at_27) rfl k)
  refine Ends.step (u' := (T15.setTop (mkF m 30 #[.val (.long p0), .second, .val (.long p1), .second, .val (.int p2), .val (.int p3), .val (.ref a10), .unset, .unset, .unset, .unset, .unset, .unset] [(.long (XT.ushrL p0 (16 : Int32))), (.int (2 : Int32)), (.ref a10)]))) ?_ (fun _ k => XT.lushr X15.here hx rfl (hb hby at_29) rfl k)
  refine Ends.step (u' := (T15.setTop (mkF m 31 #[.val (.long p0), .second, .val (.long p1), .second, .val (.int p2), .val (.int p3), .val (.ref a10), .unset, .unset, .unset, .unset, .unset, .unset] [(.int (((XT.ushrL p0 (16 : Int32))).toInt32)), (.int (2 : Int32)), (.ref a10)]))) ?_ (fun _ k => XT.l2i X15.here hx rfl (hb hby at_30) rfl k)
  refine Ends.step (u' := (T15.setTop (mkF m 32 #[.val (.long p0), .second, .val (.long p1), .second, .val (.int p2), .val (.int p3), .val (.ref a10), .unset, .unset, .unset, .unset, .unset, .unset] [(.int (((((XT.ushrL p0 (16 : Int32))).toInt32)).toInt8.toInt32)), (.int (2 : Int32)), (.ref a10)]))) ?_ (fun _ k => XT.i2b X15.here hx rfl (hb hby at_31) rfl k)
  refine Ends.bastore X15 hx hZ e15 A15 (by unfold inb; decide) N15 g11 (g := (mkF m 32 #[.val (.long p0), .second, .val (.long p1), .second, .val (.int p2), .val (.int p3), .val (.ref a10), .unset, .unset, .unset, .unset, .unset, .unset] [(.int (((((XT.ushrL p0 (16 : Int32))).toInt32)).toInt8.toInt32)), (.int (2 : Int32)), (.ref a10)])) rfl rfl (hb hby at_32) (fun T17 h17 sl17 X17 e17 N17 W17 A17 => ?_)
  show Ends p e below s _ _ _ (T17.setTop (mkF m 33 #[.val (.long p0), .second, .val (.long p1), .second, .val (.int p2), .val (.int p3), .val (.ref a10), .unset, .unset, .unset, .unset, .unset, .unset] []))
  have Z18 : n0 ≤ h17.size := W17.size.symm ▸ Z16
  refine Ends.step (u' := (T17.setTop (mkF m 35 #[.val (.long p0), .second, .val (.long p1), .second, .val (.int p2), .val (.int p3), .val (.ref a10), .unset, .unset, .unset, .unset, .unset, .unset] [(.ref a10)]))) ?_ (fun _ k => XS.aload X17.here hx rfl (hb hby at_33) rfl rfl k)
  refine Ends.step (u' := (T17.setTop (mkF m 36 #[.val (.long p0), .second, .val (.long p1), .second, .val (.int p2), .val (.int p3), .val (.ref a10), .unset, .unset, .unset, .unset, .unset, .unset] [(.int (3 : Int32)), (.ref a10)]))) ?_ (fun _ k => XT.iconstV X17.here hx rfl (3 : Int32) (hb hby at_35) rfl k)
  refine Ends.step (u' := (T17.setTop (mkF m 37 #[.val (.long p0), .second, .val (.long p1), .second, .val (.int p2), .val (.int p3), .val (.ref a10), .unset, .unset, .unset, .unset, .unset, .unset] [(.long p0), (.int (3 : Int32)), (.ref a10)]))) ?_ (fun _ k => XT.lloadN X17.here hx rfl (hb hby at_36) rfl k)
  refine Ends.step (u' := (T17.setTop (mkF m 39 #[.val (.long p0), .second, .val (.long p1), .second, .val (.int p2), .val (.int p3), .val (.ref a10), .unset, .unset, .unset, .unset, .unset, .unset] [(.int (24 : Int32)), (.long p0), (.int (3 : Int32)), (.ref a10)]))) ?_ (fun _ k => XT.bipushV X17.here hx rfl (24 : Int32) (hb hby at_37) rfl k)
  refine Ends.step (u' := (T17.setTop (mkF m 40 #[.val (.long p0), .second, .val (.long p1), .second, .val (.int p2), .val (.int p3), .val (.ref a10), .unset, .unset, .unset, .unset, .unset, .unset] [(.long (XT.ushrL p0 (24 : Int32))), (.int (3 : Int32)), (.ref a10)]))) ?_ (fun _ k => XT.lushr X17.here hx rfl (hb hby at_39) rfl k)
  refine Ends.step (u' := (T17.setTop (mkF m 41 #[.val (.long p0), .second, .val (.long p1), .second, .val (.int p2), .val (.int p3), .val (.ref a10), .unset, .unset, .unset, .unset, .unset, .unset] [(.int (((XT.ushrL p0 (24 : Int32))).toInt32)), (.int (3 : Int32)), (.ref a10)]))) ?_ (fun _ k => XT.l2i X17.here hx rfl (hb hby at_40) rfl k)
  refine Ends.step (u' := (T17.setTop (mkF m 42 #[.val (.long p0), .second, .val (.long p1), .second, .val (.int p2), .val (.int p3), .val (.ref a10), .unset, .unset, .unset, .unset, .unset, .unset] [(.int (((((XT.ushrL p0 (24 : Int32))).toInt32)).toInt8.toInt32)), (.int (3 : Int32)), (.ref a10)]))) ?_ (fun _ k => XT.i2b X17.here hx rfl (hb hby at_41) rfl k)
  refine Ends.bastore X17 hx hZ e17 A17 (by unfold inb; decide) N17 g11 (g := (mkF m 42 #[.val (.long p0), .second, .val (.long p1), .second, .val (.int p2), .val (.int p3), .val (.ref a10), .unset, .unset, .unset, .unset, .unset, .unset] [(.int (((((XT.ushrL p0 (24 : Int32))).toInt32)).toInt8.toInt32)), (.int (3 : Int32)), (.ref a10)])) rfl rfl (hb hby at_42) (fun T19 h19 sl19 X19 e19 N19 W19 A19 => ?_)
  show Ends p e below s _ _ _ (T19.setTop (mkF m 43 #[.val (.long p0), .second, .val (.long p1), .second, .val (.int p2), .val (.int p3), .val (.ref a10), .unset, .unset, .unset, .unset, .unset, .unset] []))
  have Z20 : n0 ≤ h19.size := W19.size.symm ▸ Z18
  refine Ends.step (u' := (T19.setTop (mkF m 45 #[.val (.long p0), .second, .val (.long p1), .second, .val (.int p2), .val (.int p3), .val (.ref a10), .unset, .unset, .unset, .unset, .unset, .unset] [(.ref a10)]))) ?_ (fun _ k => XS.aload X19.here hx rfl (hb hby at_43) rfl rfl k)
  refine Ends.step (u' := (T19.setTop (mkF m 46 #[.val (.long p0), .second, .val (.long p1), .second, .val (.int p2), .val (.int p3), .val (.ref a10), .unset, .unset, .unset, .unset, .unset, .unset] [(.int (4 : Int32)), (.ref a10)]))) ?_ (fun _ k => XT.iconstV X19.here hx rfl (4 : Int32) (hb hby at_45) rfl k)
  refine Ends.step (u' := (T19.setTop (mkF m 47 #[.val (.long p0), .second, .val (.long p1), .second, .val (.int p2), .val (.int p3), .val (.ref a10), .unset, .unset, .unset, .unset, .unset, .unset] [(.long p0), (.int (4 : Int32)), (.ref a10)]))) ?_ (fun _ k => XT.lloadN X19.here hx rfl (hb hby at_46) rfl k)
  refine Ends.step (u' := (T19.setTop (mkF m 49 #[.val (.long p0), .second, .val (.long p1), .second, .val (.int p2), .val (.int p3), .val (.ref a10), .unset, .unset, .unset, .unset, .unset, .unset] [(.int (32 : Int32)), (.long p0), (.int (4 : Int32)), (.ref a10)]))) ?_ (fun _ k => XT.bipushV X19.here hx rfl (32 : Int32) (hb hby at_47) rfl k)
  refine Ends.step (u' := (T19.setTop (mkF m 50 #[.val (.long p0), .second, .val (.long p1), .second, .val (.int p2), .val (.int p3), .val (.ref a10), .unset, .unset, .unset, .unset, .unset, .unset] [(.long (XT.ushrL p0 (32 : Int32))), (.int (4 : Int32)), (.ref a10)]))) ?_ (fun _ k => XT.lushr X19.here hx rfl (hb hby at_49) rfl k)
  refine Ends.step (u' := (T19.setTop (mkF m 51 #[.val (.long p0), .second, .val (.long p1), .second, .val (.int p2), .val (.int p3), .val (.ref a10), .unset, .unset, .unset, .unset, .unset, .unset] [(.int (((XT.ushrL p0 (32 : Int32))).toInt32)), (.int (4 : Int32)), (.ref a10)]))) ?_ (fun _ k => XT.l2i X19.here hx rfl (hb hby at_50) rfl k)
  refine Ends.step (u' := (T19.setTop (mkF m 52 #[.val (.long p0), .second, .val (.long p1), .second, .val (.int p2), .val (.int p3), .val (.ref a10), .unset, .unset, .unset, .unset, .unset, .unset] [(.int (((((XT.ushrL p0 (32 : Int32))).toInt32)).toInt8.toInt32)), (.int (4 : Int32)), (.ref a10)]))) ?_ (fun _ k => XT.i2b X19.here hx rfl (hb hby at_51) rfl k)
  refine Ends.bastore X19 hx hZ e19 A19 (by unfold inb; decide) N19 g11 (g := (mkF m 52 #[.val (.long p0), .second, .val (.long p1), .second, .val (.int p2), .val (.int p3), .val (.ref a10), .unset, .unset, .unset, .unset, .unset, .unset] [(.int (((((XT.ushrL p0 (32 : Int32))).toInt32)).toInt8.toInt32)), (.int (4 : Int32)), (.ref a10)])) rfl rfl (hb hby at_52) (fun T21 h21 sl21 X21 e21 N21 W21 A21 => ?_)
  show Ends p e below s _ _ _ (T21.setTop (mkF m 53 #[.val (.long p0), .second, .val (.long p1), .second, .val (.int p2), .val (.int p3), .val (.ref a10), .unset, .unset, .unset, .unset, .unset, .unset] []))
  have Z22 : n0 ≤ h21.size := W21.size.symm ▸ Z20
  refine Ends.step (u' := (T21.setTop (mkF m 55 #[.val (.long p0), .second, .val (.long p1), .second, .val (.int p2), .val (.int p3), .val (.ref a10), .unset, .unset, .unset, .unset, .unset, .unset] [(.ref a10)]))) ?_ (fun _ k => XS.aload X21.here hx rfl (hb hby at_53) rfl rfl k)
  refine Ends.step (u' := (T21.setTop (mkF m 56 #[.val (.long p0), .second, .val (.long p1), .second, .val (.int p2), .val (.int p3), .val (.ref a10), .unset, .unset, .unset, .unset, .unset, .unset] [(.int (5 : Int32)), (.ref a10)]))) ?_ (fun _ k => XT.iconstV X21.here hx rfl (5 : Int32) (hb hby at_55) rfl k)
  refine Ends.step (u' := (T21.setTop (mkF m 57 #[.val (.long p0), .second, .val (.long p1), .second, .val (.int p2), .val (.int p3), .val (.ref a10), .unset, .unset, .unset, .unset, .unset, .unset] [(.long p0), (.int (5 : Int32)), (.ref a10)]))) ?_ (fun _ k => XT.lloadN X21.here hx rfl (hb hby at_56) rfl k)
  refine Ends.step (u' := (T21.setTop (mkF m 59 #[.val (.long p0), .second, .val (.long p1), .second, .val (.int p2), .val (.int p3), .val (.ref a10), .unset, .unset, .unset, .unset, .unset, .unset] [(.int (40 : Int32)), (.long p0), (.int (5 : Int32)), (.ref a10)]))) ?_ (fun _ k => XT.bipushV X21.here hx rfl (40 : Int32) (hb hby at_57) rfl k)
  refine Ends.step (u' := (T21.setTop (mkF m 60 #[.val (.long p0), .second, .val (.long p1), .second, .val (.int p2), .val (.int p3), .val (.ref a10), .unset, .unset, .unset, .unset, .unset, .unset] [(.long (XT.ushrL p0 (40 : Int32))), (.int (5 : Int32)), (.ref a10)]))) ?_ (fun _ k => XT.lushr X21.here hx rfl (hb hby at_59) rfl k)
  refine Ends.step (u' := (T21.setTop (mkF m 61 #[.val (.long p0), .second, .val (.long p1), .second, .val (.int p2), .val (.int p3), .val (.ref a10), .unset, .unset, .unset, .unset, .unset, .unset] [(.int (((XT.ushrL p0 (40 : Int32))).toInt32)), (.int (5 : Int32)), (.ref a10)]))) ?_ (fun _ k => XT.l2i X21.here hx rfl (hb hby at_60) rfl k)
  refine Ends.step (u' := (T21.setTop (mkF m 62 #[.val (.long p0), .second, .val (.long p1), .second, .val (.int p2), .val (.int p3), .val (.ref a10), .unset, .unset, .unset, .unset, .unset, .unset] [(.int (((((XT.ushrL p0 (40 : Int32))).toInt32)).toInt8.toInt32)), (.int (5 : Int32)), (.ref a10)]))) ?_ (fun _ k => XT.i2b X21.here hx rfl (hb hby at_61) rfl k)
  refine Ends.bastore X21 hx hZ e21 A21 (by unfold inb; decide) N21 g11 (g := (mkF m 62 #[.val (.long p0), .second, .val (.long p1), .second, .val (.int p2), .val (.int p3), .val (.ref a10), .unset, .unset, .unset, .unset, .unset, .unset] [(.int (((((XT.ushrL p0 (40 : Int32))).toInt32)).toInt8.toInt32)), (.int (5 : Int32)), (.ref a10)])) rfl rfl (hb hby at_62) (fun T23 h23 sl23 X23 e23 N23 W23 A23 => ?_)
  show Ends p e below s _ _ _ (T23.setTop (mkF m 63 #[.val (.long p0), .second, .val (.long p1), .second, .val (.int p2), .val (.int p3), .val (.ref a10), .unset, .unset, .unset, .unset, .unset, .unset] []))
  have Z24 : n0 ≤ h23.size := W23.size.symm ▸ Z22
  refine Ends.step (u' := (T23.setTop (mkF m 65 #[.val (.long p0), .second, .val (.long p1), .second, .val (.int p2), .val (.int p3), .val (.ref a10), .unset, .unset, .unset, .unset, .unset, .unset] [(.ref a10)]))) ?_ (fun _ k => XS.aload X23.here hx rfl (hb hby at_63) rfl rfl k)
  refine Ends.step (u' := (T23.setTop (mkF m 67 #[.val (.long p0), .second, .val (.long p1), .second, .val (.int p2), .val (.int p3), .val (.ref a10), .unset, .unset, .unset, .unset, .unset, .unset] [(.int (6 : Int32)), (.ref a10)]))) ?_ (fun _ k => XT.bipushV X23.here hx rfl (6 : Int32) (hb hby at_65) rfl k)
  refine Ends.step (u' := (T23.setTop (mkF m 68 #[.val (.long p0), .second, .val (.long p1), .second, .val (.int p2), .val (.int p3), .val (.ref a10), .unset, .unset, .unset, .unset, .unset, .unset] [(.long p0), (.int (6 : Int32)), (.ref a10)]))) ?_ (fun _ k => XT.lloadN X23.here hx rfl (hb hby at_67) rfl k)
  refine Ends.step (u' := (T23.setTop (mkF m 70 #[.val (.long p0), .second, .val (.long p1), .second, .val (.int p2), .val (.int p3), .val (.ref a10), .unset, .unset, .unset, .unset, .unset, .unset] [(.int (48 : Int32)), (.long p0), (.int (6 : Int32)), (.ref a10)]))) ?_ (fun _ k => XT.bipushV X23.here hx rfl (48 : Int32) (hb hby at_68) rfl k)
  refine Ends.step (u' := (T23.setTop (mkF m 71 #[.val (.long p0), .second, .val (.long p1), .second, .val (.int p2), .val (.int p3), .val (.ref a10), .unset, .unset, .unset, .unset, .unset, .unset] [(.long (XT.ushrL p0 (48 : Int32))), (.int (6 : Int32)), (.ref a10)]))) ?_ (fun _ k => XT.lushr X23.here hx rfl (hb hby at_70) rfl k)
  refine Ends.step (u' := (T23.setTop (mkF m 72 #[.val (.long p0), .second, .val (.long p1), .second, .val (.int p2), .val (.int p3), .val (.ref a10), .unset, .unset, .unset, .unset, .unset, .unset] [(.int (((XT.ushrL p0 (48 : Int32))).toInt32)), (.int (6 : Int32)), (.ref a10)]))) ?_ (fun _ k => XT.l2i X23.here hx rfl (hb hby at_71) rfl k)
  refine Ends.step (u' := (T23.setTop (mkF m 73 #[.val (.long p0), .second, .val (.long p1), .second, .val (.int p2), .val (.int p3), .val (.ref a10), .unset, .unset, .unset, .unset, .unset, .unset] [(.int (((((XT.ushrL p0 (48 : Int32))).toInt32)).toInt8.toInt32)), (.int (6 : Int32)), (.ref a10)]))) ?_ (fun _ k => XT.i2b X23.here hx rfl (hb hby at_72) rfl k)
  refine Ends.bastore X23 hx hZ e23 A23 (by unfold inb; decide) N23 g11 (g := (mkF m 73 #[.val (.long p0), .second, .val (.long p1), .second, .val (.int p2), .val (.int p3), .val (.ref a10), .unset, .unset, .unset, .unset, .unset, .unset] [(.int (((((XT.ushrL p0 (48 : Int32))).toInt32)).toInt8.toInt32)), (.int (6 : Int32)), (.ref a10)])) rfl rfl (hb hby at_73) (fun T25 h25 sl25 X25 e25 N25 W25 A25 => ?_)
  show Ends p e below s _ _ _ (T25.setTop (mkF m 74 #[.val (.long p0), .second, .val (.long p1), .second, .val (.int p2), .val (.int p3), .val (.ref a10), .unset, .unset, .unset, .unset, .unset, .unset] []))
  have Z26 : n0 ≤ h25.size := W25.size.symm ▸ Z24
  refine Ends.step (u' := (T25.setTop (mkF m 76 #[.val (.long p0), .second, .val (.long p1), .second, .val (.int p2), .val (.int p3), .val (.ref a10), .unset, .unset, .unset, .unset, .unset, .unset] [(.ref a10)]))) ?_ (fun _ k => XS.aload X25.here hx rfl (hb hby at_74) rfl rfl k)
  refine Ends.step (u' := (T25.setTop (mkF m 78 #[.val (.long p0), .second, .val (.long p1), .second, .val (.int p2), .val (.int p3), .val (.ref a10), .unset, .unset, .unset, .unset, .unset, .unset] [(.int (7 : Int32)), (.ref a10)]))) ?_ (fun _ k => XT.bipushV X25.here hx rfl (7 : Int32) (hb hby at_76) rfl k)
  refine Ends.step (u' := (T25.setTop (mkF m 79 #[.val (.long p0), .second, .val (.long p1), .second, .val (.int p2), .val (.int p3), .val (.ref a10), .unset, .unset, .unset, .unset, .unset, .unset] [(.long p0), (.int (7 : Int32)), (.ref a10)]))) ?_ (fun _ k => XT.lloadN X25.here hx rfl (hb hby at_78) rfl k)
  refine Ends.step (u' := (T25.setTop (mkF m 81 #[.val (.long p0), .second, .val (.long p1), .second, .val (.int p2), .val (.int p3), .val (.ref a10), .unset, .unset, .unset, .unset, .unset, .unset] [(.int (56 : Int32)), (.long p0), (.int (7 : Int32)), (.ref a10)]))) ?_ (fun _ k => XT.bipushV X25.here hx rfl (56 : Int32) (hb hby at_79) rfl k)
  refine Ends.step (u' := (T25.setTop (mkF m 82 #[.val (.long p0), .second, .val (.long p1), .second, .val (.int p2), .val (.int p3), .val (.ref a10), .unset, .unset, .unset, .unset, .unset, .unset] [(.long (XT.ushrL p0 (56 : Int32))), (.int (7 : Int32)), (.ref a10)]))) ?_ (fun _ k => XT.lushr X25.here hx rfl (hb hby at_81) rfl k)
  refine Ends.step (u' := (T25.setTop (mkF m 83 #[.val (.long p0), .second, .val (.long p1), .second, .val (.int p2), .val (.int p3), .val (.ref a10), .unset, .unset, .unset, .unset, .unset, .unset] [(.int (((XT.ushrL p0 (56 : Int32))).toInt32)), (.int (7 : Int32)), (.ref a10)]))) ?_ (fun _ k => XT.l2i X25.here hx rfl (hb hby at_82) rfl k)
  refine Ends.step (u' := (T25.setTop (mkF m 84 #[.val (.long p0), .second, .val (.long p1), .second, .val (.int p2), .val (.int p3), .val (.ref a10), .unset, .unset, .unset, .unset, .unset, .unset] [(.int (((((XT.ushrL p0 (56 : Int32))).toInt32)).toInt8.toInt32)), (.int (7 : Int32)), (.ref a10)]))) ?_ (fun _ k => XT.i2b X25.here hx rfl (hb hby at_83) rfl k)
  refine Ends.bastore X25 hx hZ e25 A25 (by unfold inb; decide) N25 g11 (g := (mkF m 84 #[.val (.long p0), .second, .val (.long p1), .second, .val (.int p2), .val (.int p3), .val (.ref a10), .unset, .unset, .unset, .unset, .unset, .unset] [(.int (((((XT.ushrL p0 (56 : Int32))).toInt32)).toInt8.toInt32)), (.int (7 : Int32)), (.ref a10)])) rfl rfl (hb hby at_84) (fun T27 h27 sl27 X27 e27 N27 W27 A27 => ?_)
  show Ends p e below s _ _ _ (T27.setTop (mkF m 85 #[.val (.long p0), .second, .val (.long p1), .second, .val (.int p2), .val (.int p3), .val (.ref a10), .unset, .unset, .unset, .unset, .unset, .unset] []))
  have Z28 : n0 ≤ h27.size := W27.size.symm ▸ Z26
  refine Ends.step (u' := (T27.setTop (mkF m 87 #[.val (.long p0), .second, .val (.long p1), .second, .val (.int p2), .val (.int p3), .val (.ref a10), .unset, .unset, .unset, .unset, .unset, .unset] [(.ref a10)]))) ?_ (fun _ k => XS.aload X27.here hx rfl (hb hby at_85) rfl rfl k)
  refine Ends.step (u' := (T27.setTop (mkF m 89 #[.val (.long p0), .second, .val (.long p1), .second, .val (.int p2), .val (.int p3), .val (.ref a10), .unset, .unset, .unset, .unset, .unset, .unset] [(.int (8 : Int32)), (.ref a10)]))) ?_ (fun _ k => XT.bipushV X27.here hx rfl (8 : Int32) (hb hby at_87) rfl k)
  refine Ends.step (u' := (T27.setTop (mkF m 90 #[.val (.long p0), .second, .val (.long p1), .second, .val (.int p2), .val (.int p3), .val (.ref a10), .unset, .unset, .unset, .unset, .unset, .unset] [(.long p1), (.int (8 : Int32)), (.ref a10)]))) ?_ (fun _ k => XT.lloadN X27.here hx rfl (hb hby at_89) rfl k)
  refine Ends.step (u' := (T27.setTop (mkF m 91 #[.val (.long p0), .second, .val (.long p1), .second, .val (.int p2), .val (.int p3), .val (.ref a10), .unset, .unset, .unset, .unset, .unset, .unset] [(.int ((p1).toInt32)), (.int (8 : Int32)), (.ref a10)]))) ?_ (fun _ k => XT.l2i X27.here hx rfl (hb hby at_90) rfl k)
  refine Ends.step (u' := (T27.setTop (mkF m 92 #[.val (.long p0), .second, .val (.long p1), .second, .val (.int p2), .val (.int p3), .val (.ref a10), .unset, .unset, .unset, .unset, .unset, .unset] [(.int ((((p1).toInt32)).toInt8.toInt32)), (.int (8 : Int32)), (.ref a10)]))) ?_ (fun _ k => XT.i2b X27.here hx rfl (hb hby at_91) rfl k)
  refine Ends.bastore X27 hx hZ e27 A27 (by unfold inb; decide) N27 g11 (g := (mkF m 92 #[.val (.long p0), .second, .val (.long p1), .second, .val (.int p2), .val (.int p3), .val (.ref a10), .unset, .unset, .unset, .unset, .unset, .unset] [(.int ((((p1).toInt32)).toInt8.toInt32)), (.int (8 : Int32)), (.ref a10)])) rfl rfl (hb hby at_92) (fun T29 h29 sl29 X29 e29 N29 W29 A29 => ?_)
  show Ends p e below s _ _ _ (T29.setTop (mkF m 93 #[.val (.long p0), .second, .val (.long p1), .second, .val (.int p2), .val (.int p3), .val (.ref a10), .unset, .unset, .unset, .unset, .unset, .unset] []))
  have Z30 : n0 ≤ h29.size := W29.size.symm ▸ Z28
  refine Ends.step (u' := (T29.setTop (mkF m 95 #[.val (.long p0), .second, .val (.long p1), .second, .val (.int p2), .val (.int p3), .val (.ref a10), .unset, .unset, .unset, .unset, .unset, .unset] [(.ref a10)]))) ?_ (fun _ k => XS.aload X29.here hx rfl (hb hby at_93) rfl rfl k)
  refine Ends.step (u' := (T29.setTop (mkF m 97 #[.val (.long p0), .second, .val (.long p1), .second, .val (.int p2), .val (.int p3), .val (.ref a10), .unset, .unset, .unset, .unset, .unset, .unset] [(.int (9 : Int32)), (.ref a10)]))) ?_ (fun _ k => XT.bipushV X29.here hx rfl (9 : Int32) (hb hby at_95) rfl k)
  refine Ends.step (u' := (T29.setTop (mkF m 98 #[.val (.long p0), .second, .val (.long p1), .second, .val (.int p2), .val (.int p3), .val (.ref a10), .unset, .unset, .unset, .unset, .unset, .unset] [(.long p1), (.int (9 : Int32)), (.ref a10)]))) ?_ (fun _ k => XT.lloadN X29.here hx rfl (hb hby at_97) rfl k)
  refine Ends.step (u' := (T29.setTop (mkF m 100 #[.val (.long p0), .second, .val (.long p1), .second, .val (.int p2), .val (.int p3), .val (.ref a10), .unset, .unset, .unset, .unset, .unset, .unset] [(.int (8 : Int32)), (.long p1), (.int (9 : Int32)), (.ref a10)]))) ?_ (fun _ k => XT.bipushV X29.here hx rfl (8 : Int32) (hb hby at_98) rfl k)
  refine Ends.step (u' := (T29.setTop (mkF m 101 #[.val (.long p0), .second, .val (.long p1), .second, .val (.int p2), .val (.int p3), .val (.ref a10), .unset, .unset, .unset, .unset, .unset, .unset] [(.long (XT.ushrL p1 (8 : Int32))), (.int (9 : Int32)), (.ref a10)]))) ?_ (fun _ k => XT.lushr X29.here hx rfl (hb hby at_100) rfl k)
  refine Ends.step (u' := (T29.setTop (mkF m 102 #[.val (.long p0), .second, .val (.long p1), .second, .val (.int p2), .val (.int p3), .val (.ref a10), .unset, .unset, .unset, .unset, .unset, .unset] [(.int (((XT.ushrL p1 (8 : Int32))).toInt32)), (.int (9 : Int32)), (.ref a10)]))) ?_ (fun _ k => XT.l2i X29.here hx rfl (hb hby at_101) rfl k)
  refine Ends.step (u' := (T29.setTop (mkF m 103 #[.val (.long p0), .second, .val (.long p1), .second, .val (.int p2), .val (.int p3), .val (.ref a10), .unset, .unset, .unset, .unset, .unset, .unset] [(.int (((((XT.ushrL p1 (8 : Int32))).toInt32)).toInt8.toInt32)), (.int (9 : Int32)), (.ref a10)]))) ?_ (fun _ k => XT.i2b X29.here hx rfl (hb hby at_102) rfl k)
  refine Ends.bastore X29 hx hZ e29 A29 (by unfold inb; decide) N29 g11 (g := (mkF m 103 #[.val (.long p0), .second, .val (.long p1), .second, .val (.int p2), .val (.int p3), .val (.ref a10), .unset, .unset, .unset, .unset, .unset, .unset] [(.int (((((XT.ushrL p1 (8 : Int32))).toInt32)).toInt8.toInt32)), (.int (9 : Int32)), (.ref a10)])) rfl rfl (hb hby at_103) (fun T31 h31 sl31 X31 e31 N31 W31 A31 => ?_)
  show Ends p e below s _ _ _ (T31.setTop (mkF m 104 #[.val (.long p0), .second, .val (.long p1), .second, .val (.int p2), .val (.int p3), .val (.ref a10), .unset, .unset, .unset, .unset, .unset, .unset] []))
  have Z32 : n0 ≤ h31.size := W31.size.symm ▸ Z30
  refine Ends.step (u' := (T31.setTop (mkF m 106 #[.val (.long p0), .second, .val (.long p1), .second, .val (.int p2), .val (.int p3), .val (.ref a10), .unset, .unset, .unset, .unset, .unset, .unset] [(.ref a10)]))) ?_ (fun _ k => XS.aload X31.here hx rfl (hb hby at_104) rfl rfl k)
  refine Ends.step (u' := (T31.setTop (mkF m 108 #[.val (.long p0), .second, .val (.long p1), .second, .val (.int p2), .val (.int p3), .val (.ref a10), .unset, .unset, .unset, .unset, .unset, .unset] [(.int (10 : Int32)), (.ref a10)]))) ?_ (fun _ k => XT.bipushV X31.here hx rfl (10 : Int32) (hb hby at_106) rfl k)
  refine Ends.step (u' := (T31.setTop (mkF m 109 #[.val (.long p0), .second, .val (.long p1), .second, .val (.int p2), .val (.int p3), .val (.ref a10), .unset, .unset, .unset, .unset, .unset, .unset] [(.long p1), (.int (10 : Int32)), (.ref a10)]))) ?_ (fun _ k => XT.lloadN X31.here hx rfl (hb hby at_108) rfl k)
  refine Ends.step (u' := (T31.setTop (mkF m 111 #[.val (.long p0), .second, .val (.long p1), .second, .val (.int p2), .val (.int p3), .val (.ref a10), .unset, .unset, .unset, .unset, .unset, .unset] [(.int (16 : Int32)), (.long p1), (.int (10 : Int32)), (.ref a10)]))) ?_ (fun _ k => XT.bipushV X31.here hx rfl (16 : Int32) (hb hby at_109) rfl k)
  refine Ends.step (u' := (T31.setTop (mkF m 112 #[.val (.long p0), .second, .val (.long p1), .second, .val (.int p2), .val (.int p3), .val (.ref a10), .unset, .unset, .unset, .unset, .unset, .unset] [(.long (XT.ushrL p1 (16 : Int32))), (.int (10 : Int32)), (.ref a10)]))) ?_ (fun _ k => XT.lushr X31.here hx rfl (hb hby at_111) rfl k)
  refine Ends.step (u' := (T31.setTop (mkF m 113 #[.val (.long p0), .second, .val (.long p1), .second, .val (.int p2), .val (.int p3), .val (.ref a10), .unset, .unset, .unset, .unset, .unset, .unset] [(.int (((XT.ushrL p1 (16 : Int32))).toInt32)), (.int (10 : Int32)), (.ref a10)]))) ?_ (fun _ k => XT.l2i X31.here hx rfl (hb hby at_112) rfl k)
  refine Ends.step (u' := (T31.setTop (mkF m 114 #[.val (.long p0), .second, .val (.long p1), .second, .val (.int p2), .val (.int p3), .val (.ref a10), .unset, .unset, .unset, .unset, .unset, .unset] [(.int (((((XT.ushrL p1 (16 : Int32))).toInt32)).toInt8.toInt32)), (.int (10 : Int32)), (.ref a10)]))) ?_ (fun _ k => XT.i2b X31.here hx rfl (hb hby at_113) rfl k)
  refine Ends.bastore X31 hx hZ e31 A31 (by unfold inb; decide) N31 g11 (g := (mkF m 114 #[.val (.long p0), .second, .val (.long p1), .second, .val (.int p2), .val (.int p3), .val (.ref a10), .unset, .unset, .unset, .unset, .unset, .unset] [(.int (((((XT.ushrL p1 (16 : Int32))).toInt32)).toInt8.toInt32)), (.int (10 : Int32)), (.ref a10)])) rfl rfl (hb hby at_114) (fun T33 h33 sl33 X33 e33 N33 W33 A33 => ?_)
  show Ends p e below s _ _ _ (T33.setTop (mkF m 115 #[.val (.long p0), .second, .val (.long p1), .second, .val (.int p2), .val (.int p3), .val (.ref a10), .unset, .unset, .unset, .unset, .unset, .unset] []))
  have Z34 : n0 ≤ h33.size := W33.size.symm ▸ Z32
  refine Ends.step (u' := (T33.setTop (mkF m 117 #[.val (.long p0), .second, .val (.long p1), .second, .val (.int p2), .val (.int p3), .val (.ref a10), .unset, .unset, .unset, .unset, .unset, .unset] [(.ref a10)]))) ?_ (fun _ k => XS.aload X33.here hx rfl (hb hby at_115) rfl rfl k)
  refine Ends.step (u' := (T33.setTop (mkF m 119 #[.val (.long p0), .second, .val (.long p1), .second, .val (.int p2), .val (.int p3), .val (.ref a10), .unset, .unset, .unset, .unset, .unset, .unset] [(.int (11 : Int32)), (.ref a10)]))) ?_ (fun _ k => XT.bipushV X33.here hx rfl (11 : Int32) (hb hby at_117) rfl k)
  refine Ends.step (u' := (T33.setTop (mkF m 120 #[.val (.long p0), .second, .val (.long p1), .second, .val (.int p2), .val (.int p3), .val (.ref a10), .unset, .unset, .unset, .unset, .unset, .unset] [(.long p1), (.int (11 : Int32)), (.ref a10)]))) ?_ (fun _ k => XT.lloadN X33.here hx rfl (hb hby at_119) rfl k)
  refine Ends.step (u' := (T33.setTop (mkF m 122 #[.val (.long p0), .second, .val (.long p1), .second, .val (.int p2), .val (.int p3), .val (.ref a10), .unset, .unset, .unset, .unset, .unset, .unset] [(.int (24 : Int32)), (.long p1), (.int (11 : Int32)), (.ref a10)]))) ?_ (fun _ k => XT.bipushV X33.here hx rfl (24 : Int32) (hb hby at_120) rfl k)
  refine Ends.step (u' := (T33.setTop (mkF m 123 #[.val (.long p0), .second, .val (.long p1), .second, .val (.int p2), .val (.int p3), .val (.ref a10), .unset, .unset, .unset, .unset, .unset, .unset] [(.long (XT.ushrL p1 (24 : Int32))), (.int (11 : Int32)), (.ref a10)]))) ?_ (fun _ k => XT.lushr X33.here hx rfl (hb hby at_122) rfl k)
  refine Ends.step (u' := (T33.setTop (mkF m 124 #[.val (.long p0), .second, .val (.long p1), .second, .val (.int p2), .val (.int p3), .val (.ref a10), .unset, .unset, .unset, .unset, .unset, .unset] [(.int (((XT.ushrL p1 (24 : Int32))).toInt32)), (.int (11 : Int32)), (.ref a10)]))) ?_ (fun _ k => XT.l2i X33.here hx rfl (hb hby at_123) rfl k)
  refine Ends.step (u' := (T33.setTop (mkF m 125 #[.val (.long p0), .second, .val (.long p1), .second, .val (.int p2), .val (.int p3), .val (.ref a10), .unset, .unset, .unset, .unset, .unset, .unset] [(.int (((((XT.ushrL p1 (24 : Int32))).toInt32)).toInt8.toInt32)), (.int (11 : Int32)), (.ref a10)]))) ?_ (fun _ k => XT.i2b X33.here hx rfl (hb hby at_124) rfl k)
  refine Ends.bastore X33 hx hZ e33 A33 (by unfold inb; decide) N33 g11 (g := (mkF m 125 #[.val (.long p0), .second, .val (.long p1), .second, .val (.int p2), .val (.int p3), .val (.ref a10), .unset, .unset, .unset, .unset, .unset, .unset] [(.int (((((XT.ushrL p1 (24 : Int32))).toInt32)).toInt8.toInt32)), (.int (11 : Int32)), (.ref a10)])) rfl rfl (hb hby at_125) (fun T35 h35 sl35 X35 e35 N35 W35 A35 => ?_)
  show Ends p e below s _ _ _ (T35.setTop (mkF m 126 #[.val (.long p0), .second, .val (.long p1), .second, .val (.int p2), .val (.int p3), .val (.ref a10), .unset, .unset, .unset, .unset, .unset, .unset] []))
  have Z36 : n0 ≤ h35.size := W35.size.symm ▸ Z34
  refine Ends.step (u' := (T35.setTop (mkF m 128 #[.val (.long p0), .second, .val (.long p1), .second, .val (.int p2), .val (.int p3), .val (.ref a10), .unset, .unset, .unset, .unset, .unset, .unset] [(.ref a10)]))) ?_ (fun _ k => XS.aload X35.here hx rfl (hb hby at_126) rfl rfl k)
  refine Ends.step (u' := (T35.setTop (mkF m 130 #[.val (.long p0), .second, .val (.long p1), .second, .val (.int p2), .val (.int p3), .val (.ref a10), .unset, .unset, .unset, .unset, .unset, .unset] [(.int (12 : Int32)), (.ref a10)]))) ?_ (fun _ k => XT.bipushV X35.here hx rfl (12 : Int32) (hb hby at_128) rfl k)
  refine Ends.step (u' := (T35.setTop (mkF m 131 #[.val (.long p0), .second, .val (.long p1), .second, .val (.int p2), .val (.int p3), .val (.ref a10), .unset, .unset, .unset, .unset, .unset, .unset] [(.long p1), (.int (12 : Int32)), (.ref a10)]))) ?_ (fun _ k => XT.lloadN X35.here hx rfl (hb hby at_130) rfl k)
  refine Ends.step (u' := (T35.setTop (mkF m 133 #[.val (.long p0), .second, .val (.long p1), .second, .val (.int p2), .val (.int p3), .val (.ref a10), .unset, .unset, .unset, .unset, .unset, .unset] [(.int (32 : Int32)), (.long p1), (.int (12 : Int32)), (.ref a10)]))) ?_ (fun _ k => XT.bipushV X35.here hx rfl (32 : Int32) (hb hby at_131) rfl k)
  refine Ends.step (u' := (T35.setTop (mkF m 134 #[.val (.long p0), .second, .val (.long p1), .second, .val (.int p2), .val (.int p3), .val (.ref a10), .unset, .unset, .unset, .unset, .unset, .unset] [(.long (XT.ushrL p1 (32 : Int32))), (.int (12 : Int32)), (.ref a10)]))) ?_ (fun _ k => XT.lushr X35.here hx rfl (hb hby at_133) rfl k)
  refine Ends.step (u' := (T35.setTop (mkF m 135 #[.val (.long p0), .second, .val (.long p1), .second, .val (.int p2), .val (.int p3), .val (.ref a10), .unset, .unset, .unset, .unset, .unset, .unset] [(.int (((XT.ushrL p1 (32 : Int32))).toInt32)), (.int (12 : Int32)), (.ref a10)]))) ?_ (fun _ k => XT.l2i X35.here hx rfl (hb hby at_134) rfl k)
  refine Ends.step (u' := (T35.setTop (mkF m 136 #[.val (.long p0), .second, .val (.long p1), .second, .val (.int p2), .val (.int p3), .val (.ref a10), .unset, .unset, .unset, .unset, .unset, .unset] [(.int (((((XT.ushrL p1 (32 : Int32))).toInt32)).toInt8.toInt32)), (.int (12 : Int32)), (.ref a10)]))) ?_ (fun _ k => XT.i2b X35.here hx rfl (hb hby at_135) rfl k)
  refine Ends.bastore X35 hx hZ e35 A35 (by unfold inb; decide) N35 g11 (g := (mkF m 136 #[.val (.long p0), .second, .val (.long p1), .second, .val (.int p2), .val (.int p3), .val (.ref a10), .unset, .unset, .unset, .unset, .unset, .unset] [(.int (((((XT.ushrL p1 (32 : Int32))).toInt32)).toInt8.toInt32)), (.int (12 : Int32)), (.ref a10)])) rfl rfl (hb hby at_136) (fun T37 h37 sl37 X37 e37 N37 W37 A37 => ?_)
  show Ends p e below s _ _ _ (T37.setTop (mkF m 137 #[.val (.long p0), .second, .val (.long p1), .second, .val (.int p2), .val (.int p3), .val (.ref a10), .unset, .unset, .unset, .unset, .unset, .unset] []))
  have Z38 : n0 ≤ h37.size := W37.size.symm ▸ Z36
  refine Ends.step (u' := (T37.setTop (mkF m 139 #[.val (.long p0), .second, .val (.long p1), .second, .val (.int p2), .val (.int p3), .val (.ref a10), .unset, .unset, .unset, .unset, .unset, .unset] [(.ref a10)]))) ?_ (fun _ k => XS.aload X37.here hx rfl (hb hby at_137) rfl rfl k)
  refine Ends.step (u' := (T37.setTop (mkF m 141 #[.val (.long p0), .second, .val (.long p1), .second, .val (.int p2), .val (.int p3), .val (.ref a10), .unset, .unset, .unset, .unset, .unset, .unset] [(.int (13 : Int32)), (.ref a10)]))) ?_ (fun _ k => XT.bipushV X37.here hx rfl (13 : Int32) (hb hby at_139) rfl k)
  refine Ends.step (u' := (T37.setTop (mkF m 142 #[.val (.long p0), .second, .val (.long p1), .second, .val (.int p2), .val (.int p3), .val (.ref a10), .unset, .unset, .unset, .unset, .unset, .unset] [(.long p1), (.int (13 : Int32)), (.ref a10)]))) ?_ (fun _ k => XT.lloadN X37.here hx rfl (hb hby at_141) rfl k)
  refine Ends.step (u' := (T37.setTop (mkF m 144 #[.val (.long p0), .second, .val (.long p1), .second, .val (.int p2), .val (.int p3), .val (.ref a10), .unset, .unset, .unset, .unset, .unset, .unset] [(.int (40 : Int32)), (.long p1), (.int (13 : Int32)), (.ref a10)]))) ?_ (fun _ k => XT.bipushV X37.here hx rfl (40 : Int32) (hb hby at_142) rfl k)
  refine Ends.step (u' := (T37.setTop (mkF m 145 #[.val (.long p0), .second, .val (.long p1), .second, .val (.int p2), .val (.int p3), .val (.ref a10), .unset, .unset, .unset, .unset, .unset, .unset] [(.long (XT.ushrL p1 (40 : Int32))), (.int (13 : Int32)), (.ref a10)]))) ?_ (fun _ k => XT.lushr X37.here hx rfl (hb hby at_144) rfl k)
  refine Ends.step (u' := (T37.setTop (mkF m 146 #[.val (.long p0), .second, .val (.long p1), .second, .val (.int p2), .val (.int p3), .val (.ref a10), .unset, .unset, .unset, .unset, .unset, .unset] [(.int (((XT.ushrL p1 (40 : Int32))).toInt32)), (.int (13 : Int32)), (.ref a10)]))) ?_ (fun _ k => XT.l2i X37.here hx rfl (hb hby at_145) rfl k)
  refine Ends.step (u' := (T37.setTop (mkF m 147 #[.val (.long p0), .second, .val (.long p1), .second, .val (.int p2), .val (.int p3), .val (.ref a10), .unset, .unset, .unset, .unset, .unset, .unset] [(.int (((((XT.ushrL p1 (40 : Int32))).toInt32)).toInt8.toInt32)), (.int (13 : Int32)), (.ref a10)]))) ?_ (fun _ k => XT.i2b X37.here hx rfl (hb hby at_146) rfl k)
  refine Ends.bastore X37 hx hZ e37 A37 (by unfold inb; decide) N37 g11 (g := (mkF m 147 #[.val (.long p0), .second, .val (.long p1), .second, .val (.int p2), .val (.int p3), .val (.ref a10), .unset, .unset, .unset, .unset, .unset, .unset] [(.int (((((XT.ushrL p1 (40 : Int32))).toInt32)).toInt8.toInt32)), (.int (13 : Int32)), (.ref a10)])) rfl rfl (hb hby at_147) (fun T39 h39 sl39 X39 e39 N39 W39 A39 => ?_)
  show Ends p e below s _ _ _ (T39.setTop (mkF m 148 #[.val (.long p0), .second, .val (.long p1), .second, .val (.int p2), .val (.int p3), .val (.ref a10), .unset, .unset, .unset, .unset, .unset, .unset] []))
  have Z40 : n0 ≤ h39.size := W39.size.symm ▸ Z38
  refine Ends.step (u' := (T39.setTop (mkF m 150 #[.val (.long p0), .second, .val (.long p1), .second, .val (.int p2), .val (.int p3), .val (.ref a10), .unset, .unset, .unset, .unset, .unset, .unset] [(.ref a10)]))) ?_ (fun _ k => XS.aload X39.here hx rfl (hb hby at_148) rfl rfl k)
  refine Ends.step (u' := (T39.setTop (mkF m 152 #[.val (.long p0), .second, .val (.long p1), .second, .val (.int p2), .val (.int p3), .val (.ref a10), .unset, .unset, .unset, .unset, .unset, .unset] [(.int (14 : Int32)), (.ref a10)]))) ?_ (fun _ k => XT.bipushV X39.here hx rfl (14 : Int32) (hb hby at_150) rfl k)
  refine Ends.step (u' := (T39.setTop (mkF m 153 #[.val (.long p0), .second, .val (.long p1), .second, .val (.int p2), .val (.int p3), .val (.ref a10), .unset, .unset, .unset, .unset, .unset, .unset] [(.long p1), (.int (14 : Int32)), (.ref a10)]))) ?_ (fun _ k => XT.lloadN X39.here hx rfl (hb hby at_152) rfl k)
  refine Ends.step (u' := (T39.setTop (mkF m 155 #[.val (.long p0), .second, .val (.long p1), .second, .val (.int p2), .val (.int p3), .val (.ref a10), .unset, .unset, .unset, .unset, .unset, .unset] [(.int (48 : Int32)), (.long p1), (.int (14 : Int32)), (.ref a10)]))) ?_ (fun _ k => XT.bipushV X39.here hx rfl (48 : Int32) (hb hby at_153) rfl k)
  refine Ends.step (u' := (T39.setTop (mkF m 156 #[.val (.long p0), .second, .val (.long p1), .second, .val (.int p2), .val (.int p3), .val (.ref a10), .unset, .unset, .unset, .unset, .unset, .unset] [(.long (XT.ushrL p1 (48 : Int32))), (.int (14 : Int32)), (.ref a10)]))) ?_ (fun _ k => XT.lushr X39.here hx rfl (hb hby at_155) rfl k)
  refine Ends.step (u' := (T39.setTop (mkF m 157 #[.val (.long p0), .second, .val (.long p1), .second, .val (.int p2), .val (.int p3), .val (.ref a10), .unset, .unset, .unset, .unset, .unset, .unset] [(.int (((XT.ushrL p1 (48 : Int32))).toInt32)), (.int (14 : Int32)), (.ref a10)]))) ?_ (fun _ k => XT.l2i X39.here hx rfl (hb hby at_156) rfl k)
  refine Ends.step (u' := (T39.setTop (mkF m 158 #[.val (.long p0), .second, .val (.long p1), .second, .val (.int p2), .val (.int p3), .val (.ref a10), .unset, .unset, .unset, .unset, .unset, .unset] [(.int (((((XT.ushrL p1 (48 : Int32))).toInt32)).toInt8.toInt32)), (.int (14 : Int32)), (.ref a10)]))) ?_ (fun _ k => XT.i2b X39.here hx rfl (hb hby at_157) rfl k)
  refine Ends.bastore X39 hx hZ e39 A39 (by unfold inb; decide) N39 g11 (g := (mkF m 158 #[.val (.long p0), .second, .val (.long p1), .second, .val (.int p2), .val (.int p3), .val (.ref a10), .unset, .unset, .unset, .unset, .unset, .unset] [(.int (((((XT.ushrL p1 (48 : Int32))).toInt32)).toInt8.toInt32)), (.int (14 : Int32)), (.ref a10)])) rfl rfl (hb hby at_158) (fun T41 h41 sl41 X41 e41 N41 W41 A41 => ?_)
  show Ends p e below s _ _ _ (T41.setTop (mkF m 159 #[.val (.long p0), .second, .val (.long p1), .second, .val (.int p2), .val (.int p3), .val (.ref a10), .unset, .unset, .unset, .unset, .unset, .unset] []))
  have Z42 : n0 ≤ h41.size := W41.size.symm ▸ Z40
  refine Ends.step (u' := (T41.setTop (mkF m 161 #[.val (.long p0), .second, .val (.long p1), .second, .val (.int p2), .val (.int p3), .val (.ref a10), .unset, .unset, .unset, .unset, .unset, .unset] [(.ref a10)]))) ?_ (fun _ k => XS.aload X41.here hx rfl (hb hby at_159) rfl rfl k)
  refine Ends.step (u' := (T41.setTop (mkF m 163 #[.val (.long p0), .second, .val (.long p1), .second, .val (.int p2), .val (.int p3), .val (.ref a10), .unset, .unset, .unset, .unset, .unset, .unset] [(.int (15 : Int32)), (.ref a10)]))) ?_ (fun _ k => XT.bipushV X41.here hx rfl (15 : Int32) (hb hby at_161) rfl k)
  refine Ends.step (u' := (T41.setTop (mkF m 164 #[.val (.long p0), .second, .val (.long p1), .second, .val (.int p2), .val (.int p3), .val (.ref a10), .unset, .unset, .unset, .unset, .unset, .unset] [(.long p1), (.int (15 : Int32)), (.ref a10)]))) ?_ (fun _ k => XT.lloadN X41.here hx rfl (hb hby at_163) rfl k)
  refine Ends.step (u' := (T41.setTop (mkF m 166 #[.val (.long p0), .second, .val (.long p1), .second, .val (.int p2), .val (.int p3), .val (.ref a10), .unset, .unset, .unset, .unset, .unset, .unset] [(.int (56 : Int32)), (.long p1), (.int (15 : Int32)), (.ref a10)]))) ?_ (fun _ k => XT.bipushV X41.here hx rfl (56 : Int32) (hb hby at_164) rfl k)
  refine Ends.step (u' := (T41.setTop (mkF m 167 #[.val (.long p0), .second, .val (.long p1), .second, .val (.int p2), .val (.int p3), .val (.ref a10), .unset, .unset, .unset, .unset, .unset, .unset] [(.long (XT.ushrL p1 (56 : Int32))), (.int (15 : Int32)), (.ref a10)]))) ?_ (fun _ k => XT.lushr X41.here hx rfl (hb hby at_166) rfl k)
  refine Ends.step (u' := (T41.setTop (mkF m 168 #[.val (.long p0), .second, .val (.long p1), .second, .val (.int p2), .val (.int p3), .val (.ref a10), .unset, .unset, .unset, .unset, .unset, .unset] [(.int (((XT.ushrL p1 (56 : Int32))).toInt32)), (.int (15 : Int32)), (.ref a10)]))) ?_ (fun _ k => XT.l2i X41.here hx rfl (hb hby at_167) rfl k)
  refine Ends.step (u' := (T41.setTop (mkF m 169 #[.val (.long p0), .second, .val (.long p1), .second, .val (.int p2), .val (.int p3), .val (.ref a10), .unset, .unset, .unset, .unset, .unset, .unset] [(.int (((((XT.ushrL p1 (56 : Int32))).toInt32)).toInt8.toInt32)), (.int (15 : Int32)), (.ref a10)]))) ?_ (fun _ k => XT.i2b X41.here hx rfl (hb hby at_168) rfl k)
  refine Ends.bastore X41 hx hZ e41 A41 (by unfold inb; decide) N41 g11 (g := (mkF m 169 #[.val (.long p0), .second, .val (.long p1), .second, .val (.int p2), .val (.int p3), .val (.ref a10), .unset, .unset, .unset, .unset, .unset, .unset] [(.int (((((XT.ushrL p1 (56 : Int32))).toInt32)).toInt8.toInt32)), (.int (15 : Int32)), (.ref a10)])) rfl rfl (hb hby at_169) (fun T43 h43 sl43 X43 e43 N43 W43 A43 => ?_)
  show Ends p e below s _ _ _ (T43.setTop (mkF m 170 #[.val (.long p0), .second, .val (.long p1), .second, .val (.int p2), .val (.int p3), .val (.ref a10), .unset, .unset, .unset, .unset, .unset, .unset] []))
  have Z44 : n0 ≤ h43.size := W43.size.symm ▸ Z42
  refine Ends.step (u' := (T43.setTop (mkF m 172 #[.val (.long p0), .second, .val (.long p1), .second, .val (.int p2), .val (.int p3), .val (.ref a10), .unset, .unset, .unset, .unset, .unset, .unset] [(.int p2)]))) ?_ (fun _ k => XS.iload X43.here hx rfl (hb hby at_170) rfl k)
  refine Ends.step (u' := (T43.setTop (mkF m 174 #[.val (.long p0), .second, .val (.long p1), .second, .val (.int p2), .val (.int p3), .val (.ref a10), .unset, .unset, .unset, .unset, .unset, .unset] [(.int (2147483647 : Int32)), (.int p2)]))) ?_ (fun _ k => X43.ldcI hx hown (mvT hZ (hw _ (List.mem_of_getElem? (i := 1) rfl))) rfl (hb hby at_172) k)
  refine Ends.step (u' := (T43.setTop (mkF m 175 #[.val (.long p0), .second, .val (.long p1), .second, .val (.int p2), .val (.int p3), .val (.ref a10), .unset, .unset, .unset, .unset, .unset, .unset] [(.int (p2 &&& (2147483647 : Int32)))]))) ?_ (fun _ k => XS.iand X43.here hx rfl (hb hby at_174) rfl k)
  refine Ends.step (u' := (T43.setTop (mkF m 177 #[.val (.long p0), .second, .val (.long p1), .second, .val (.int p2), .val (.int p3), .val (.ref a10), .unset, .unset, .unset, .unset, .unset, .unset] [(.int (9 : Int32)), (.int (p2 &&& (2147483647 : Int32)))]))) ?_ (fun _ k => XT.bipushV X43.here hx rfl (9 : Int32) (hb hby at_175) rfl k)
  refine Ends.step (u' := (T43.setTop (mkF m 178 #[.val (.long p0), .second, .val (.long p1), .second, .val (.int p2), .val (.int p3), .val (.ref a10), .unset, .unset, .unset, .unset, .unset, .unset] [(.int ((p2 &&& (2147483647 : Int32)) % (9 : Int32)))]))) ?_ (fun _ k => iremM X43 hx rfl (hb hby at_177) rfl (by decide) k)
  refine Ends.step (u' := (T43.setTop (mkF m 180 #[.val (.long p0), .second, .val (.long p1), .second, .val (.int p2), .val (.int p3), .val (.ref a10), .val (.int ((p2 &&& (2147483647 : Int32)) % (9 : Int32))), .unset, .unset, .unset, .unset, .unset] []))) ?_ (fun _ k => XS.istore X43.here hx rfl (hb hby at_178) rfl (l' := #[.val (.long p0), .second, .val (.long p1), .second, .val (.int p2), .val (.int p3), .val (.ref a10), .val (.int ((p2 &&& (2147483647 : Int32)) % (9 : Int32))), .unset, .unset, .unset, .unset, .unset]) rfl k)
  exact b180 T43 _ _ X43 e43 N43 Z44 (upd (upd (upd (upd (upd (upd (upd (upd (upd (upd (upd (upd (upd (upd (upd (upd (fun _ => 0) 0 (nar .byte ((((p0).toInt32)).toInt8.toInt32))) 1 (nar .byte (((((XT.ushrL p0 (8 : Int32))).toInt32)).toInt8.toInt32))) 2 (nar .byte (((((XT.ushrL p0 (16 : Int32))).toInt32)).toInt8.toInt32))) 3 (nar .byte (((((XT.ushrL p0 (24 : Int32))).toInt32)).toInt8.toInt32))) 4 (nar .byte (((((XT.ushrL p0 (32 : Int32))).toInt32)).toInt8.toInt32))) 5 (nar .byte (((((XT.ushrL p0 (40 : Int32))).toInt32)).toInt8.toInt32))) 6 (nar .byte (((((XT.ushrL p0 (48 : Int32))).toInt32)).toInt8.toInt32))) 7 (nar .byte (((((XT.ushrL p0 (56 : Int32))).toInt32)).toInt8.toInt32))) 8 (nar .byte ((((p1).toInt32)).toInt8.toInt32))) 9 (nar .byte (((((XT.ushrL p1 (8 : Int32))).toInt32)).toInt8.toInt32))) 10 (nar .byte (((((XT.ushrL p1 (16 : Int32))).toInt32)).toInt8.toInt32))) 11 (nar .byte (((((XT.ushrL p1 (24 : Int32))).toInt32)).toInt8.toInt32))) 12 (nar .byte (((((XT.ushrL p1 (32 : Int32))).toInt32)).toInt8.toInt32))) 13 (nar .byte (((((XT.ushrL p1 (40 : Int32))).toInt32)).toInt8.toInt32))) 14 (nar .byte (((((XT.ushrL p1 (48 : Int32))).toInt32)).toInt8.toInt32))) 15 (nar .byte (((((XT.ushrL p1 (56 : Int32))).toInt32)).toInt8.toInt32))) p3 ((p2 &&& (2147483647 : Int32)) % (9 : Int32)) p0 p1 (.val (.int p2)) (Or.inr ⟨_, rfl, rfl⟩) a10 g11 A43 ok
theorem own_toInt (x : Int32) (h : x.toBitVec.toNat < 2 ^ 31) : x.toInt = x.toBitVec.toNat := by
  show x.toBitVec.toInt = _
  rw [BitVec.toInt_eq_toNat_cond, if_pos (by omega)]
theorem own_nonneg (x : Int32) (h : 0 ≤ x.toInt) : x.toBitVec.toNat < 2 ^ 31 := by
  have h' : 0 ≤ x.toBitVec.toInt := h
  rw [BitVec.toInt_eq_toNat_cond] at h'
  split at h' <;> omega
theorem own_band (x c : Int32) (hc : 0 ≤ c.toInt) : 0 ≤ (x &&& c).toInt ∧ (x &&& c).toInt ≤ c.toInt := by
  have hb := own_nonneg c hc
  have e : (x &&& c).toBitVec.toNat = x.toBitVec.toNat &&& c.toBitVec.toNat := by rw [Int32.toBitVec_and, BitVec.toNat_and]
  have l : x.toBitVec.toNat &&& c.toBitVec.toNat ≤ c.toBitVec.toNat := Nat.and_le_right
  rw [own_toInt (x &&& c) (by omega), own_toInt c hb, e]
  omega
theorem own_inb (j : Int32) (n : Nat) (h0 : 0 ≤ j.toInt) (h1 : j.toInt < n) : inb j n := by
  intro h
  rcases h with h | h
  · rw [Int32.lt_iff_toInt_lt] at h
    have : (0 : Int32).toInt = 0 := rfl
    omega
  · simp only [Int32.toNatClampNeg] at h
    omega
theorem own_n_toInt (i : Nat) (h : i < 2 ^ 31) : (Int32.ofNat i).toInt = i := Int32.toInt_ofNat_of_lt h
theorem own_n_lt (i j : Nat) (hi : i < 2 ^ 31) (hj : j < 2 ^ 31) : Int32.ofNat i < Int32.ofNat j ↔ i < j := by
  rw [Int32.lt_iff_toInt_lt, own_n_toInt i hi, own_n_toInt j hj]; omega
theorem own_n_add (i j : Nat) : Int32.ofNat i + Int32.ofNat j = Int32.ofNat (i + j) := (Int32.ofNat_add i j).symm
theorem own_n_ix (i : Nat) (h : i < 2 ^ 31) : (Int32.ofNat i).toNatClampNeg = i := by
  simp only [Int32.toNatClampNeg, own_n_toInt i h]; omega
theorem own_n_inb (i n : Nat) (h : i < n) (hn : n < 2 ^ 31) : inb (Int32.ofNat i) n :=
  own_inb _ _ (by rw [own_n_toInt i (by omega)]; omega) (by rw [own_n_toInt i (by omega)]; omega)
theorem own_n_ex (x : Int32) (h : 0 ≤ x.toInt) : ∃ n : Nat, n < 2 ^ 31 ∧ x = Int32.ofNat n ∧ x.toInt = n := by
  have := Int32.toInt_lt x
  refine ⟨x.toInt.toNat, by omega, ?_, by omega⟩
  apply Int32.toInt_inj.mp
  rw [own_n_toInt _ (by omega)]
  omega
theorem own_pos_mod (x c : Int32) (hc : 0 < c.toInt) : 0 ≤ ((x &&& (2147483647 : Int32)) % c).toInt ∧ ((x &&& (2147483647 : Int32)) % c).toInt < c.toInt := by
  have h := own_band x 2147483647 (by decide)
  rw [Int32.toInt_mod, Int.tmod_eq_emod_of_nonneg h.1]
  exact ⟨Int.emod_nonneg _ (by omega), Int.emod_lt_of_pos _ hc⟩
def own_b (f : Nat → Int32) (i : Nat) : Int64 := ((f i) &&& (255 : Int32)).toInt64
def own_acc (f : Nat → Int32) (o : Nat) (acc : Int64) : Nat → Int64
  | 0 => acc
  | m + 1 => own_acc f o ((acc <<< ((8 : Int32).toInt64 &&& 63)) ||| own_b f (o + m)) m
theorem own_loop (K n : Nat) (f : Nat → Int32) (hn : n < 1000) (o : Nat) : ∀ (m j : Nat) (acc : Int64), m < j → o + m ≤ n →
    O2_7 K j n f (Int32.ofNat o) acc (Int32.ofNat m - 1) ∧ F2_7 K j n f (Int32.ofNat o) acc (Int32.ofNat m - 1) = own_acc f o acc m
  | m, 0, _, q, _ => absurd q (Nat.not_lt_zero m)
  | 0, j + 1, acc, _, _ => by
    have c : Int32.ofNat 0 - 1 < 0 := by decide
    exact ⟨⟨fun _ => trivial, fun q => absurd c q⟩, if_pos c⟩
  | m + 1, j + 1, acc, q, r => by
    have e0 : Int32.ofNat (m + 1) - 1 = Int32.ofNat m := by
      rw [← own_n_add m 1]; exact Int32.add_sub_cancel _ _
    rw [e0]
    have c : ¬ Int32.ofNat m < 0 := fun z => absurd ((own_n_lt m 0 (by omega) (by decide)).mp z) (Nat.not_lt_zero m)
    have e1 : Int32.ofNat m + (-1 : Int32) = Int32.ofNat m - 1 := by rw [Int32.sub_eq_add_neg]
    have e2 : (Int32.ofNat o + Int32.ofNat m).toNatClampNeg = o + m := by rw [own_n_add]; exact own_n_ix _ (by omega)
    have hb : inb (Int32.ofNat o + Int32.ofNat m) n := by rw [own_n_add]; exact own_n_inb _ _ (by omega) (by omega)
    have ih := own_loop K n f hn o m j ((acc <<< ((8 : Int32).toInt64 &&& 63)) ||| own_b f (o + m)) (by omega) (by omega)
    refine ⟨⟨fun z => absurd z c, fun _ => ⟨hb, ?_⟩⟩, (if_neg c).trans ?_⟩
    · simp only [O2_29, e1, e2]; exact ih.1
    · simp only [F2_12, F2_29, e1, e2]; exact ih.2
def own_p (f : Nat → Int32) (o : Nat) : Nat → BitVec 64
  | 0 => 0#64
  | m + 1 => own_p f o m ||| (own_b f (o + m)).toBitVec <<< (8 * m)
theorem own_acc_eq (f : Nat → Int32) (o : Nat) : ∀ (m : Nat) (acc : Int64), (own_acc f o acc m).toBitVec = acc.toBitVec <<< (8 * m) ||| own_p f o m
  | 0, acc => by simp [own_acc, own_p]
  | m + 1, acc => by
    have e : (acc <<< ((8 : Int32).toInt64 &&& 63)).toBitVec = acc.toBitVec <<< 8 := by rw [Int64.toBitVec_shiftLeft]; rfl
    show (own_acc f o _ m).toBitVec = _
    rw [own_acc_eq f o m, Int64.toBitVec_or, e, BitVec.shiftLeft_or_distrib, ← BitVec.shiftLeft_add, own_p, BitVec.or_assoc]
    congr 1
    · congr 1; omega
    · exact BitVec.or_comm _ _
theorem own_part (f : Nat → Int32) (o c k : Nat) (hk : k < 8) (ho : o ≤ 8) (hc : c ≤ 8) : O1 (Int32.ofNat o) (Int32.ofNat c) (Int32.ofNat k) 16 f ∧ (F1 (Int32.ofNat o) (Int32.ofNat c) (Int32.ofNat k) 16 f).toBitVec = if k < c then (own_b f (o + k)).toBitVec <<< (8 * k) else 0#64 := by
  by_cases q : Int32.ofNat k < Int32.ofNat c
  · have q' : k < c := (own_n_lt k c (by omega) (by omega)).mp q
    have e2 : (Int32.ofNat o + Int32.ofNat k).toNatClampNeg = o + k := by rw [own_n_add]; exact own_n_ix _ (by omega)
    have hb : inb (Int32.ofNat o + Int32.ofNat k) 16 := by rw [own_n_add]; exact own_n_inb _ _ (by omega) (by omega)
    have e3 : ∀ k : Fin 8, ((8 : Int32) * Int32.ofNat k.val).toInt64.toBitVec &&& 63 = BitVec.ofNat 64 (8 * k.val) := by decide +kernel
    have e4 : ∀ k : Fin 8, (((8 : Int32) * Int32.ofNat k.val).toInt64 &&& 63).toBitVec.smod 64 = BitVec.ofNat 64 (8 * k.val) := by decide +kernel
    refine ⟨⟨fun _ => ⟨hb, trivial⟩, fun z => absurd q z⟩, ?_⟩
    have e : F1 (Int32.ofNat o) (Int32.ofNat c) (Int32.ofNat k) 16 f = F1_7 16 f (Int32.ofNat o) (Int32.ofNat k) := if_pos q
    rw [e, if_pos q']
    simp only [F1_7, e2]
    show (own_b f (o + k) <<< _).toBitVec = _
    rw [Int64.toBitVec_shiftLeft, e4 ⟨k, hk⟩, BitVec.shiftLeft_eq']
    congr 1
    simp; omega
  · have q' : ¬ k < c := fun z => q ((own_n_lt k c (by omega) (by omega)).mpr z)
    refine ⟨⟨fun z => absurd z q, fun _ => trivial⟩, ?_⟩
    have e : F1 (Int32.ofNat o) (Int32.ofNat c) (Int32.ofNat k) 16 f = 0 := if_neg q
    rw [e, if_neg q']
    rfl
theorem own_190 (f : Nat → Int32) (o c : Nat) (ho : o ≤ 8) (hc : c ≤ 8) : O0_190 10 f (Int32.ofNat o) (Int32.ofNat c) ∧ F0_190 10 f (Int32.ofNat o) (Int32.ofNat c) = 1 := by
  have p := fun k hk => own_part f o c k hk ho hc
  have l := own_loop 10 16 f (by decide) o c 10 0 (by omega) (by omega)
  have a := own_acc_eq f o c 0
  have a0 : (0 : Int64).toBitVec <<< (8 * c) = 0#64 := by
    show 0#64 <<< (8 * c) = 0#64
    exact BitVec.zero_shiftLeft _
  rw [a0, BitVec.zero_or] at a
  have p0 := p 0 (by decide)
  have p1 := p 1 (by decide)
  have p2 := p 2 (by decide)
  have p3 := p 3 (by decide)
  have p4 := p 4 (by decide)
  have p5 := p 5 (by decide)
  have p6 := p 6 (by decide)
  have p7 := p 7 (by decide)
  refine ⟨⟨p0.1, p1.1, p2.1, p3.1, p4.1, p5.1, p6.1, p7.1, l.1, trivial⟩, ?_⟩
  have e : F2 10 (Int32.ofNat o) (Int32.ofNat c) 16 f = own_acc f o 0 c := l.2
  simp only [F0_190, F0_281, e, F0_292]
  rw [if_pos]
  · rfl
  · apply Int64.toBitVec_inj.mp
    rw [a]
    have q0 : (F1 (Int32.ofNat o) (Int32.ofNat c) 0 16 f).toBitVec = _ := p0.2
    have q1 : (F1 (Int32.ofNat o) (Int32.ofNat c) 1 16 f).toBitVec = _ := p1.2
    have q2 : (F1 (Int32.ofNat o) (Int32.ofNat c) 2 16 f).toBitVec = _ := p2.2
    have q3 : (F1 (Int32.ofNat o) (Int32.ofNat c) 3 16 f).toBitVec = _ := p3.2
    have q4 : (F1 (Int32.ofNat o) (Int32.ofNat c) 4 16 f).toBitVec = _ := p4.2
    have q5 : (F1 (Int32.ofNat o) (Int32.ofNat c) 5 16 f).toBitVec = _ := p5.2
    have q6 : (F1 (Int32.ofNat o) (Int32.ofNat c) 6 16 f).toBitVec = _ := p6.2
    have q7 : (F1 (Int32.ofNat o) (Int32.ofNat c) 7 16 f).toBitVec = _ := p7.2
    simp only [Int64.toBitVec_or, q0, q1, q2, q3, q4, q5, q6, q7]
    clear p p0 p1 p2 p3 p4 p5 p6 p7 q0 q1 q2 q3 q4 q5 q6 q7 e l a a0
    match c, hc with
    | 0, _ => simp [own_p]
    | 1, _ => simp [own_p]
    | 2, _ => simp [own_p]
    | 3, _ => simp [own_p]
    | 4, _ => simp [own_p]
    | 5, _ => simp [own_p]
    | 6, _ => simp [own_p]
    | 7, _ => simp [own_p]
    | 8, _ => simp [own_p]
theorem own_law (i0 : Int64) (i1 : Int64) (i2 : Int32) (i3 : Int32) : ∃ K, O0 K i0 i1 i2 i3 ∧ F0 K i0 i1 i2 i3 = 1 := by
  refine ⟨10, ?_⟩
  have key : ∀ f : Nat → Int32, O0_180 10 f i3 ((i2 &&& (2147483647 : Int32)) % (9 : Int32)) ∧ F0_180 10 f i3 ((i2 &&& (2147483647 : Int32)) % (9 : Int32)) = 1 := by
    intro f
    have e9 : (9 : Int32).toInt = 9 := rfl
    have ho := own_pos_mod i2 9 (by decide)
    have hc := own_pos_mod i3 9 (by decide)
    obtain ⟨o, o1, eo, o2⟩ := own_n_ex _ ho.1
    obtain ⟨c, c1, ec, c2⟩ := own_n_ex _ hc.1
    simp only [O0_180, F0_180, eo, ec]
    exact own_190 f o c (by omega) (by omega)
  exact key _
set_option maxRecDepth 65536 in
set_option maxHeartbeats 40000000 in
theorem comes_1 {Post : Tables → Env → Array Value → State → Outcome → State → Prop} (hpost : ∀ tb e args s v u, (limb_1_1.after args s (.returned v) u = true ∧ limb_1_2.after args s (.returned v) u = true ∧ True) → FrameEnd s (.returned v) u (Jvm.fieldLocs frame_1_writes args s ++ Jvm.arrayLocs frame_1_arrays args s ++ Jvm.staticLocs frame_1_statics s) 16 128 → Post tb e args s (.returned v) u) :
    ArmFor flags0 classFile x code maxLocals ret World_1 tables_1 room_1 Calls_1 rest_1 Pre_1 Post := by
  intro l hfl _ _ p e ha hc hk s m args below hf hA hF happ hP
  obtain ⟨hcalls, hrest, hpre⟩ := hP
  obtain ⟨-, -, -, hnamed, -, -, -, hat⟩ := (Spec.applies_iff hf).mp happ
  obtain ⟨hg, hn⟩ := and_e (Cond.before_iff.mp (show (Jvm.Cond.and given_1 narrow_1).before args s = true from hpre))
  obtain ⟨h1, r0⟩ := and_e hg
  obtain ⟨k0, r1⟩ := and_e r0
  obtain ⟨k1, r2⟩ := and_e r1
  obtain ⟨k2, r3⟩ := and_e r2
  obtain ⟨w0, w1, w2, w3, rfl⟩ : ∃ w0 w1 w2 w3 : Value, args = #[w0, w1, w2, w3] := by
    have hs : args.size = 4 := by simpa [Cond.value, given_1] using h1
    obtain ⟨L⟩ := args
    match L, hs with
    | [w0, w1, w2, w3], _ => exact ⟨w0, w1, w2, w3, rfl⟩
  have hw := fun d (hd : d ∈ tables_1) => atoms_spec (ws := Jvm.Cond.code x code maxLocals ret :: tables_1) hat d (List.mem_cons_of_mem _ hd)
  obtain ⟨i0, e0⟩ := isL_v k0
  obtain rfl : w0 = (.long i0) := Option.some.inj e0
  obtain ⟨i1, e1⟩ := isL_v k1
  obtain rfl : w1 = (.long i1) := Option.some.inj e1
  obtain ⟨i2, e2⟩ := is_v k2
  obtain rfl : w2 = (.int i2) := Option.some.inj e2
  obtain ⟨i3, e3⟩ := is_v r3
  obtain rfl : w3 = (.int i3) := Option.some.inj e3
  obtain ⟨K, ok, val⟩ := own_law i0 i1 i2 i3
  obtain ⟨n, o, h1, h2, h3, _, L, rfl, ⟨rfl, N⟩, hq⟩ := rm0 l s _ hw K i0 i1 i2 i3 s.heap s.heap.size (Nat.le_refl _) ok p e ha hc hk s m _ below hf ((Spec.applies_iff_loose hf).mp happ).1 ⟨rfl, State.Warmed39.refl s, rfl⟩ trivial
  refine ⟨n, _, h1, h2, h3, hpost _ _ _ _ _ _ ⟨Cond.after_iff.mpr rfl, Cond.after_iff.mpr (eq_i res_at (Term.int_eval (1)) (by rw [val])), trivial⟩ ⟨hq.1, hq.2.1, (hq.2.2.sift fun y hy => Or.inr (N y hy)).mono (by decide) (by decide)⟩⟩
theorem main_1_1 : Claimed_1_1 := comes_1 fun _ _ _ _ _ _ h hF => ⟨h.1, hF⟩
theorem main_1_2 : Claimed_1_2 := comes_1 fun _ _ _ _ _ _ h hF => ⟨h.2.1, hF⟩
end Jvm.Pilot.@@N@@
namespace Jvm.Pilot.@@N@@
open Jvm Jvm.ClassFile Sem Op Lib Jvm.Free Jvm.Stand Jvm.Pilot.@@N@@.Jvm.D
/-! MADE BY PROGRAM (witnessworld.py) out of the Statement's table words and the real class files: 9 classes; the members and pool entries that the words name. The judged class is class 1, her method 1. -/
namespace start1
open Jvm.ClassFile
def u (s : String) : CpInfo := .utf8 (stringToUtf16 s)
/-- a pool by its gaps: so many unusable entries, then the entry; so many at the end -/
def gap : Nat → List CpInfo → List CpInfo
  | 0, r => r
  | n + 1, r => .unusable :: gap n r
def poolList (es : List (Nat × CpInfo)) (last : Nat) : List CpInfo := es.foldr (fun e r => gap e.1 (e.2 :: r)) (gap last [])
def pool (es : List (Nat × CpInfo)) (last : Nat) : Array CpInfo := ⟨poolList es last⟩
def fileOf (pool : Array CpInfo) (this : Nat) (attrs : Array Attribute := #[]) (ms : Array MethodInfo := #[]) (fl : Nat := 33) (sup : Nat := 0) (ifs : Array Nat := #[]) (fds : Array FieldInfo := #[]) : ClassFile where
  minorVersion := 0
  majorVersion := 65
  constantPool := pool
  accessFlags := fl
  thisClass := this
  superClass := sup
  interfaces := ifs
  fields := fds
  methods := ms
  attributes := attrs
def plain (name : String) (sup : Option ClassId) : Class where
  name := name
  kind := .ordinary
  loader := none
  accessFlags := 33
  super := sup
  interfaces := #[]
  cf := none
  fields := #[]
  methods := #[]
  instanceTypes := #[]
  staticTypes := #[]
  resolved := #[]
  callSites := []
  init := .initialized
  statics := none
  mirror := none

def pool0 : Array CpInfo := pool [(5, u "<init>"), (0, u "()V"), (1, .class_ 10), (1, u "java/lang/Object")] 113

def k0m0 : Method := { name := "<init>", desc := "()V", sig := { parameters := [], returnType := none }, accessFlags := 1, code := none }
/-- java/lang/Object -/
def k0 : Class := { plain "java/lang/Object" none with
  accessFlags := 33
  interfaces := #[]
  cf := some (fileOf pool0 8 #[] #[{ accessFlags := 1, nameIndex := 5, descriptorIndex := 6, attributes := #[] }] 33 0 #[] #[])
  fields := #[]
  methods := #[k0m0]
  instanceTypes := #[]
  staticTypes := #[]
  resolved := Array.replicate 124 none
  statics := none }

def pool1 : Array CpInfo := pool [(2, .class_ 4), (1, u "java/lang/Object"), (0, u "<init>"), (0, u "()V"), (0, .integer 2147483647), (0, .methodref 9 10), (0, .class_ 11), (0, .nameAndType 12 13), (0, u "com/example/ananke/ananke/hash/LittleEndianPartialLongAtPinLaw"), (0, u "part"), (0, u "([BIII)J"), (0, .methodref 15 16), (0, .class_ 17), (0, .nameAndType 18 19), (0, u "com/example/ananke/ananke/hash/LittleEndian"), (0, u "partialLongAt"), (0, u "([BII)J"), (2, u "law"), (0, u "(JJII)Z")] 5

def k1m0 : Method := { name := "<init>", desc := "()V", sig := { parameters := [], returnType := none }, accessFlags := 1, code := none }
def k1c1 : Code := { maxStack := 6, maxLocals := 13, code := code, exceptionTable := #[], attributes := #[] }
def k1m1 : Method := { name := "law", desc := "(JJII)Z", sig := { parameters := [.long, .long, .int, .int], returnType := some .boolean }, accessFlags := 9, code := some k1c1 }
def k1c2 : Code := { maxStack := 4, maxLocals := 4, code := method_3_code, exceptionTable := #[], attributes := #[] }
def k1m2 : Method := { name := "part", desc := "([BIII)J", sig := { parameters := [(.array .byte), .int, .int, .int], returnType := some .long }, accessFlags := 10, code := some k1c2 }
/-- com/example/ananke/ananke/hash/LittleEndianPartialLongAtPinLaw -/
def k1 : Class := { plain "com/example/ananke/ananke/hash/LittleEndianPartialLongAtPinLaw" (some 0) with
  accessFlags := 49
  interfaces := #[]
  cf := some (fileOf pool1 9 #[] #[{ accessFlags := 1, nameIndex := 5, descriptorIndex := 6, attributes := #[] }, { accessFlags := 9, nameIndex := 22, descriptorIndex := 23, attributes := #[] }, { accessFlags := 10, nameIndex := 12, descriptorIndex := 13, attributes := #[] }] 49 2 #[] #[])
  fields := #[]
  methods := #[k1m0, k1m1, k1m2]
  instanceTypes := #[]
  staticTypes := #[]
  resolved := Array.replicate 29 none
  statics := none }

def pool2 : Array CpInfo := pool [(2, .class_ 4), (1, u "java/lang/Object"), (0, u "<init>"), (0, u "()V"), (1, .class_ 10), (1, u "com/example/ananke/ananke/hash/LittleEndian"), (0, u "INTS"), (0, u "Ljava/lang/invoke/VarHandle;"), (8, u "LONGS"), (27, u "partialLongAt"), (0, u "([BII)J")] 5

def k2m0 : Method := { name := "<init>", desc := "()V", sig := { parameters := [], returnType := none }, accessFlags := 2, code := none }
def k2c1 : Code := { maxStack := 5, maxLocals := 6, code := prog_14_method_4_code, exceptionTable := #[], attributes := #[] }
def k2m1 : Method := { name := "partialLongAt", desc := "([BII)J", sig := { parameters := [(.array .byte), .int, .int], returnType := some .long }, accessFlags := 8, code := some k2c1 }
/-- com/example/ananke/ananke/hash/LittleEndian -/
def k2 : Class := { plain "com/example/ananke/ananke/hash/LittleEndian" (some 0) with
  accessFlags := 48
  interfaces := #[]
  cf := some (fileOf pool2 8 #[] #[{ accessFlags := 2, nameIndex := 5, descriptorIndex := 6, attributes := #[] }, { accessFlags := 8, nameIndex := 49, descriptorIndex := 50, attributes := #[] }] 48 2 #[] #[{ accessFlags := 26, nameIndex := 11, descriptorIndex := 12, attributes := #[] }, { accessFlags := 26, nameIndex := 21, descriptorIndex := 12, attributes := #[] }])
  fields := #[{ name := "INTS", type := (.object "java/lang/invoke/VarHandle"), accessFlags := 26, slot := 0, constantValue := 0 }, { name := "LONGS", type := (.object "java/lang/invoke/VarHandle"), accessFlags := 26, slot := 1, constantValue := 0 }]
  methods := #[k2m0, k2m1]
  instanceTypes := #[]
  staticTypes := #[(.object "java/lang/invoke/VarHandle"), (.object "java/lang/invoke/VarHandle")]
  resolved := Array.replicate 56 none
  statics := none }

def pool3 : Array CpInfo := pool [(1, u "java/lang/Cloneable"), (0, .class_ 1), (0, u "java/lang/Object"), (0, .class_ 3)] 3

/-- java/lang/Cloneable -/
def k3 : Class := { plain "java/lang/Cloneable" (some 0) with
  accessFlags := 1537
  interfaces := #[]
  cf := some (fileOf pool3 2 #[] #[] 1537 4 #[] #[])
  fields := #[]
  methods := #[]
  instanceTypes := #[]
  staticTypes := #[]
  resolved := Array.replicate 8 none
  statics := none }

def pool4 : Array CpInfo := pool [(1, u "java/io/Serializable"), (0, .class_ 1), (0, u "java/lang/Object"), (0, .class_ 3)] 3

/-- java/io/Serializable -/
def k4 : Class := { plain "java/io/Serializable" (some 0) with
  accessFlags := 1537
  interfaces := #[]
  cf := some (fileOf pool4 2 #[] #[] 1537 4 #[] #[])
  fields := #[]
  methods := #[]
  instanceTypes := #[]
  staticTypes := #[]
  resolved := Array.replicate 8 none
  statics := none }

/-- the primitive byte -/
def k5 : Class := { plain "byte" none with kind := .primitive 'B', accessFlags := 0x411 }
/-- [B -/
def k6 : Class := { plain "[B" (some 0) with kind := .array 5 .byte, interfaces := #[3, 4], accessFlags := 1041 }

/-- the primitive int -/
def k7 : Class := { plain "int" none with kind := .primitive 'I', accessFlags := 0x411 }
/-- [I -/
def k8 : Class := { plain "[I" (some 0) with kind := .array 7 .int, interfaces := #[3, 4], accessFlags := 1041 }

def heap : Heap := #[]
def classes : Array Class := #[k0, k1, k2, k3, k4, k5, k6, k7, k8]
def interned : List (Array UInt16 × Addr) := []
def slotsUsed : Nat := 0
def theMethod : MethodId := ⟨1, 1⟩
def args0 : Array Value := #[.long 5, .long 7, .int 3, .int 2]
def aboutOver (below : List Frame) : State where
  vm := { classes := classes, interned := interned.toArray }
  heap := heap
  slotsUsed := slotsUsed
  threads := #[{ frames := .invoking theMethod args0 :: below }]
def below0 : List Frame := [.native { method := ⟨0, 0⟩, args := #[] }]
def about1 : State := aboutOver below0
def p0 : Program := .bare "" "" ""
def e0 : Env := launch0.env 0 0 0
theorem w_frames : about1.frames = Frame.invoking theMethod args0 :: below0 := rfl
set_option maxRecDepth 65536 in
theorem w_args : argsFit about1.vm theMethod args0 = true := by decide +kernel
set_option maxRecDepth 65536 in
theorem w_heap : heapFits about1 = true := by decide +kernel
set_option maxRecDepth 65536 in
theorem w_runnable : about1.curStatus? = some .runnable := by decide +kernel
set_option maxRecDepth 65536 in
theorem w_alone : about1.alone = true := by decide +kernel
set_option maxRecDepth 65536 in
theorem w_named : about1.methodNamed? x = some theMethod := by decide +kernel
set_option maxRecDepth 65536 in
theorem w_hears : about1.hears theMethod below0 = true := by decide +kernel
set_option maxRecDepth 65536 in
theorem w_ripe : about1.ripe theMethod args0 below0 = true := by decide +kernel
theorem w_running : about1.status = .running := rfl
set_option maxRecDepth 65536 in
theorem w_room : about1.hasRoom e0.platform room_1 = true :=
  launch0.hasRoom_least _ room_1 (by decide +kernel) (by decide +kernel) (by decide +kernel) (by decide +kernel) (by decide +kernel) (by decide +kernel)
theorem allAtoms_all (ts : List Jvm.Cond) (a : Array Jvm.Value) (st : Jvm.State) : (allAtoms ts).before a st = ts.all (fun c => c.before a st) := by
  induction ts with
  | nil => rfl
  | cons c t ih =>
    show (Jvm.Cond.and c (allAtoms t)).before a st = _
    rw [Jvm.Cond.before_and, ih, List.all_cons]
def words1 : List Jvm.Cond := Jvm.Cond.code x code maxLocals ret :: tables_1
/-- a 'code' word, met by the world's own term for the bytes: nothing is compared byte by byte -/
theorem code_word {y : MethodName} {bytes : ByteArray} {mx : Nat} {rt : Option FieldType} {a : Array Value} {s : State} {m : MethodId} {meth : Method} {c : Code} (h1 : s.methodNamed? y = some m) (h2 : s.vm.method? m = some meth) (h3 : meth.code = some c) (h4 : c.code = bytes)
    (h5 : (c.maxLocals == mx && c.exceptionTable.isEmpty && decide (c.maxStack ≤ mostOperands) && decide (meth.sig.returnType = rt) && !meth.locks && decide (parseMethodDescriptor y.desc = some meth.sig)) = true) : (Jvm.Cond.code y bytes mx rt).before a s = true := by
  simp only [Bool.and_eq_true, beq_iff_eq, Bool.not_eq_true', decide_eq_true_eq] at h5
  obtain ⟨⟨⟨⟨⟨g1, g2⟩, g3⟩, g4⟩, g5⟩, g6⟩ := h5
  simp [Cond.before, Cond.holds, Cond.value, h1, h2, h3, h4, g1, g2, g3, g4, g5, g6]
def isCode : Jvm.Cond → Bool
  | .code _ _ _ _ => true
  | _ => false
theorem all_split {L : List Jvm.Cond} {P : Jvm.Cond → Bool} (h1 : L.all (fun c => isCode c || P c) = true) (h2 : ∀ c ∈ L.filter isCode, P c = true) : L.all P = true := by
  refine List.all_eq_true.mpr fun c hc => ?_
  have h := List.all_eq_true.mp h1 c hc
  rcases Bool.eq_false_or_eq_true (isCode c) with hi | hi
  · exact h2 c (List.mem_filter.mpr ⟨hc, hi⟩)
  · simpa [hi] using h
set_option maxRecDepth 65536 in
theorem w_c0 : (Jvm.Cond.code x code maxLocals ret).before args0 about1 = true := code_word (m := ⟨1, 1⟩) (meth := k1m1) (c := k1c1) (by decide +kernel) rfl rfl rfl (by decide +kernel)
set_option maxRecDepth 65536 in
theorem w_c1 : (Jvm.Cond.code ({ cls := "com/example/ananke/ananke/hash/LittleEndianPartialLongAtPinLaw", name := "part", desc := "([BIII)J" } : Jvm.MethodName) method_3_code (4 : Nat) (Option.some Jvm.ClassFile.FieldType.long)).before args0 about1 = true := code_word (m := ⟨1, 2⟩) (meth := k1m2) (c := k1c2) (by decide +kernel) rfl rfl rfl (by decide +kernel)
set_option maxRecDepth 65536 in
theorem w_c2 : (Jvm.Cond.code ({ cls := "com/example/ananke/ananke/hash/LittleEndian", name := "partialLongAt", desc := "([BII)J" } : Jvm.MethodName) prog_14_method_4_code (6 : Nat) (Option.some Jvm.ClassFile.FieldType.long)).before args0 about1 = true := code_word (m := ⟨2, 1⟩) (meth := k2m1) (c := k2c1) (by decide +kernel) rfl rfl rfl (by decide +kernel)
def codes1 : List Jvm.Cond := [Jvm.Cond.code x code maxLocals ret, Jvm.Cond.code ({ cls := "com/example/ananke/ananke/hash/LittleEndianPartialLongAtPinLaw", name := "part", desc := "([BIII)J" } : Jvm.MethodName) method_3_code (4 : Nat) (Option.some Jvm.ClassFile.FieldType.long), Jvm.Cond.code ({ cls := "com/example/ananke/ananke/hash/LittleEndian", name := "partialLongAt", desc := "([BII)J" } : Jvm.MethodName) prog_14_method_4_code (6 : Nat) (Option.some Jvm.ClassFile.FieldType.long)]
set_option maxRecDepth 65536 in
theorem codes_eq : words1.filter isCode = codes1 := rfl
theorem w_codes : ∀ c ∈ words1.filter isCode, c.before args0 about1 = true := by
  rw [codes_eq]
  intro c hc
  simp only [codes1, List.mem_cons, List.not_mem_nil, or_false] at hc
  rcases hc with rfl | rfl | rfl
  · exact w_c0
  · exact w_c1
  · exact w_c2
set_option maxRecDepth 65536 in
theorem w_t1 : words1.all (fun c => isCode c || c.before args0 about1) = true := by decide +kernel
theorem w_tables : (allAtoms (Jvm.Cond.code x code maxLocals ret :: tables_1)).before args0 about1 = true := by
  rw [allAtoms_all]
  show words1.all (fun c => c.before args0 about1) = true
  refine all_split ?_ w_codes
  rw [w_t1]
set_option maxRecDepth 65536 in
theorem w_case : (Jvm.Cond.and given_1 narrow_1).before args0 about1 = true := by decide +kernel
theorem w_applies : (headSpec (Jvm.Cond.code x code maxLocals ret :: tables_1) room_1).applies x e0.platform about1 = true :=
  (Spec.applies_iff w_frames).mpr ⟨w_running, w_runnable, w_alone, w_named, w_hears, w_ripe, w_room, w_tables⟩
theorem atStart : AtStart classFile x code maxLocals ret World_1 tables_1 room_1 Calls_1 rest_1 Pre_1 launch0 p0 e0 about1 theMethod args0 below0 :=
  ⟨lists_1, trivial, launch0.admits_env _ _ _, launch0.least_env, fairChoices_fair.cas, fairChoices_fair.clock, w_frames, w_args, w_heap, w_applies, trivial, trivial, w_case⟩
end start1
theorem witness_1 : WitnessClaimed_1 := ⟨start1.p0, start1.e0, start1.about1, start1.theMethod, start1.args0, start1.below0, start1.atStart⟩
end Jvm.Pilot.@@N@@
