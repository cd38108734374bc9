import JvmDerived
import JvmDerived.Pilot.@@N@@Statement
import JvmDerived.Pilot.@@N@@Code
set_option linter.unusedVariables false
set_option linter.unusedSimpArgs false
namespace Jvm.RoadKit
open Sem ClassFile Op Lib Jvm.Stand Jvm.Free Jvm.LawKit
section New
variable {p : Program} {l : Launch} {e : Env} {R : Room} {s : State} {m : MethodId} {args : Array Value} {below : List Frame} {meth : Method} {c : Code} {T : State} {locs : List Loc} {cells slots : Nat}
theorem retI (X : Stand p l e R s m args below meth c T locs cells slots) (hx : p.tables.exec = Jvm.exec) {pc : Nat} {Ls : Array Slot} {z : Int32} {rest : List Value} (hret : meth.sig.returnType = some .int) (hd : decode c.code pc = .ok (.ireturn, 1)) {fs : List Frame}
    (hl : ∀ (f : JFrame) (acts : List Action), f.method = m → f.locked = none → f.entered = [] → (doReturn e (T.setTop f) acts (some (.int z))).1 = T.setFrames fs) : Steps p.tables e below (T.setTop (mkF m pc Ls (.int z :: rest))) (T.setFrames fs) := by
  have hm' : T.vm.method? m = some meth := X.method'
  have hn : narrow .int (.int z) = .int z := rfl
  show Steps p.tables e below (T.setTop { method := m, pc := pc, locals := Ls, stack := _ :: rest, locked := none }) _
  jvm_step X.here [X.here.top, hx, hd, hm', hret, hn]
  first | (intro acts; rw [hl _ acts rfl rfl rfl]) | rw [hl _ _ rfl rfl rfl]
  exact Steps.refl _
end New
end Jvm.RoadKit
namespace Jvm.Pilot.@@N@@
open Jvm Jvm.ClassFile Sem Op Lib Jvm.Free Jvm.Stand Jvm.LawKit Jvm.RoadKit Bundle Jvm.Pilot.@@N@@.Jvm.D
/-! ### the frame of this text: 'Ends': the run from u ends in a return that Q says -/
section OwnFrame
variable {p : Program} {l : Launch} {e : Env} {R : Room} {s : State} {m : MethodId} {args : Array Value} {below : List Frame} {meth : Method} {c : Code} {T : State} {locs : List Loc} {cells slots cs ss : Nat} {Z : State} {a0 : Array Value} {h h' : Heap} {Q : Option Value → Heap → List Loc → Prop} {u u' : State}
def Ends (p : Program) (e : Env) (below : List Frame) (s : State) (cs ss : Nat) (Q : Option Value → Heap → List Loc → Prop) (u : State) : Prop :=
  ∃ t v L, Steps p.tables e below u t ∧ t.status = .running ∧ Ended t below (.returned v) ∧ Q v t.heap L ∧ s.WarmedH t.vm ∧ s.sameButNew ({ t with vm := s.vm } : State) L cs ss
theorem Ends.step (h : Ends p e below s cs ss Q u') (k : ∀ t, Steps p.tables e below u' t → Steps p.tables e below u t) : Ends p e below s cs ss Q u := by
  obtain ⟨t, v, L, h1, r⟩ := h; exact ⟨t, v, L, k t h1, r⟩
theorem Ends.ret (X : Stand p l e R s m args below meth c T locs cells slots) {v : Option Value} (hv : meth.sig.returnType = none → v = none) (hlk : meth.locks = false)
    (k : ∀ fs, (∀ (f : JFrame) (acts : List Action), f.method = m → f.locked = none → f.entered = [] → (doReturn e (T.setTop f) acts v).1 = T.setFrames fs) → Steps p.tables e below u (T.setFrames fs))
    (hc : cells ≤ cs) (hs : slots ≤ ss) (hq : Q v T.heap locs) : Ends p e below s cs ss Q u := by
  obtain ⟨fs, hr, hrun, hended, hW, hsame⟩ := X.leave (v := v) hv hlk
  exact ⟨T.setFrames fs, v, locs, k fs hr, hrun, hended, hq, hW, hsame.mono hc hs⟩
/-- what a body promises -/
abbrev Meets (l : Launch) (Z : State) (y : MethodName) (bytes : ByteArray) (maxL : Nat) (ret : Option FieldType) (ws : List Jvm.Cond) (rm : Room) (as' : Array Value) (h : Heap) (Q : Option Value → Heap → List Loc → Prop) (cs ss : Nat) : Prop :=
  MetFree l y (head1 (Jvm.Cond.code y bytes maxL ret :: ws) rm) (fun a U => a = as' ∧ Z.Warmed39 U.vm ∧ U.heap = h) (fun _ _ _ _ _ => True) (fun _ U o U' => ∃ v L, o = .returned v ∧ Q v U'.heap L ∧ FrameEnd U o U' L cs ss)
theorem Meets.of {y : MethodName} {bytes : ByteArray} {maxL : Nat} {ret : Option FieldType} {ws : List Jvm.Cond} {rm : Room} {as' : Array Value} (pn : plainFor y = true)
    (k : ∀ (p : Program) (e : Env) (s : State) (m : MethodId) (below : List Frame) (meth : Method) (c : Code) (s₁ : State), p.tables.exec = Jvm.exec → c.code = bytes → c.maxLocals = maxL → Z.Warmed39 s.vm → s.vm.findClass y.cls = some m.cls → meth.name = y.name → meth.sig.returnType = ret → meth.locks = false →
      Stand p l e rm s m as' below meth c s₁ [] 0 0 → s₁.heap = h → Ends p e below s cs ss Q (s₁.setTop (entryFrame m as' maxL))) : Meets l Z y bytes maxL ret ws rm as' h Q cs ss := by
  refine MetFree.of_bodySF pn hisR ?_
  intro p e s m args below meth c s₁ Bd hml0 hP hK
  obtain ⟨rfl, hZ, hh⟩ := hP
  obtain ⟨t, v, L, h1, h2, h3, h4, h5, h6⟩ := k p e s m below meth c s₁ Bd.exec Bd.bytes hml0 hZ (findClass_of_methodNamed Bd.named) (name_of_methodNamed Bd.named Bd.method).1 Bd.returns (BodyLoose.notSynchronized Bd) (Stand.of_body Bd) (by rw [← hh, Bd.state]; rfl)
  exact ⟨t, .returned v, h1, h2, h3, v, L, rfl, h4, ⟨_, rfl⟩, h5, h6⟩
theorem Ends.callS (X : Stand p l e R s m args below meth c T locs cells slots) (hx : p.tables.exec = Jvm.exec) (hZ : Z.Warmed39 s.vm) {own : String} {index : Nat} {y : MethodName} {bytes : ByteArray} {maxL : Nat} {ret : Option FieldType}
    (hown : s.vm.findClass own = some m.cls) (w1 : (Jvm.Cond.methodLink own index y).before a0 Z = true) (w2 : (Jvm.Cond.static y).before a0 Z = true) (w3 : (Jvm.Cond.initialized y.cls).before a0 Z = true) (w4 : (Jvm.Cond.code y bytes maxL ret).before a0 Z = true)
    (hy : y.cls ≠ "java/lang/invoke/MethodHandle" ∧ y.cls ≠ "java/lang/invoke/VarHandle") {rm : Room} {as' : Array Value} {Q' : Option Value → Heap → List Loc → Prop} (hM : Meets l Z y bytes maxL ret [] rm as' h Q' rm.cells rm.slots)
    (W : Nat) (hf : rm.frames + 1 ≤ R.frames) (hl : W + (maxL + 11) + rm.locals ≤ R.locals) (eT : T.heap = h) {g : JFrame} (hg : g.method = m) (hsize : g.locals.size = c.maxLocals) (argsL rest : List Value)
    (hlen : ∀ sig, parseMethodDescriptor y.desc = some sig → argsL.length = sig.parameters.length) (hstack : g.stack = argsL.reverse ++ rest) (hW : 2 * g.monitorRoom + (rest.map fun v => v.category).sum ≤ W) (hdg : decode c.code g.pc = .ok (.invokestatic index, 3))
    (ha : argsL.toArray = as') (hc : cells + rm.cells ≤ R.cells) (hs : slots + rm.slots ≤ R.slots)
    (k : ∀ v T' L, Stand p l e R s m args below meth c T' (locs ++ L) (cells + rm.cells) (slots + rm.slots) → Q' v T'.heap L → Ends p e below s cs ss Q (T'.setTop { g with pc := g.pc + 3, stack := v.toList ++ rest })) : Ends p e below s cs ss Q (T.setTop g) := by
  obtain ⟨v, _, ⟨T', L', k', n'⟩, -, X', ⟨Lc, hQ, rfl, rfl, rfl⟩, st⟩ := Jvm.LawKit.callS X hx (y := y) hown (mvT hZ w1) (mvT hZ w2) (mvT hZ w3) (mvT hZ w4) hy (backOf (W := W) hM hZ w4 w3 hf hl) hg hsize (argsL := argsL) (rest := rest) hlen hstack hW hdg (fun _ _ => ⟨ha, eT, hc, hs⟩)
  exact (k v T' Lc X' hQ).step st
theorem Ends.callC (X : Stand p l e R s m args below meth c T locs cells slots) (hx : p.tables.exec = Jvm.exec) (hZ : Z.Warmed39 s.vm) {own : String} {index : Nat} {y : MethodName} {bytes : ByteArray} {maxL : Nat} (hy1 : y.name = "<init>")
    (hown : s.vm.findClass own = some m.cls) (w1 : (Jvm.Cond.methodLink own index y).before a0 Z = true) (w2 : (Jvm.Cond.instanceMethod y).before a0 Z = true) (w3 : (Jvm.Cond.initialized y.cls).before a0 Z = true) (w4 : (Jvm.Cond.code y bytes maxL none).before a0 Z = true)
    (hy : y.cls ≠ "java/lang/invoke/MethodHandle" ∧ y.cls ≠ "java/lang/invoke/VarHandle") {rm : Room} {as' : Array Value} {Q' : Option Value → Heap → List Loc → Prop} (hM : Meets l Z y bytes maxL none [] rm as' h Q' rm.cells rm.slots)
    (W : Nat) (hf : rm.frames + 1 ≤ R.frames) (hl : W + (maxL + 11) + rm.locals ≤ R.locals) (eT : T.heap = h) {g : JFrame} (hg : g.method = m) (hsize : g.locals.size = c.maxLocals) (a : Addr) (argsL rest : List Value)
    (hlen : ∀ sig, parseMethodDescriptor y.desc = some sig → argsL.length = sig.parameters.length) (hstack : g.stack = argsL.reverse ++ .ref a :: rest) (hW : 2 * g.monitorRoom + (rest.map fun v => v.category).sum ≤ W) (hdg : decode c.code g.pc = .ok (.invokespecial index, 3))
    (ha : (.ref a :: argsL).toArray = as') (hc : cells + rm.cells ≤ R.cells) (hs : slots + rm.slots ≤ R.slots)
    (k : ∀ v T' L, Stand p l e R s m args below meth c T' (locs ++ L) (cells + rm.cells) (slots + rm.slots) → Q' v T'.heap L → Ends p e below s cs ss Q (T'.setTop { g with pc := g.pc + 3, stack := v.toList ++ rest })) : Ends p e below s cs ss Q (T.setTop g) := by
  obtain ⟨v, _, ⟨T', L', k', n'⟩, -, X', ⟨Lc, hQ, rfl, rfl, rfl⟩, st⟩ := X.specialBack hx (y := y) hy1 hown (mvT hZ w1) (mvT hZ w2) (mvT hZ w4) hy (backOf (W := W) hM hZ w4 w3 hf hl) hg hsize (Steps.refl _) (a := a) (argsL := argsL) (rest := rest) hlen hstack hW hdg (fun _ _ => ⟨ha, eT, hc, hs⟩)
  exact (k v T' Lc X' hQ).step (fun _ q => st.trans q)
theorem Ends.callV (X : Stand p l e R s m args below meth c T locs cells slots) (hx : p.tables.exec = Jvm.exec) (hZ : Z.Warmed39 s.vm) {own C : String} {index : Nat} {y : MethodName} {bytes : ByteArray} {maxL : Nat} {ret : Option FieldType}
    (hown : s.vm.findClass own = some m.cls) (w1 : (Jvm.Cond.methodLink own index y).before a0 Z = true) (wd : (Jvm.Cond.declares y).before a0 Z = true) (wsel : (Jvm.Cond.selects C y y).before a0 Z = true) (w2 : (Jvm.Cond.instanceMethod y).before a0 Z = true) (w3 : (Jvm.Cond.initialized y.cls).before a0 Z = true) (w4 : (Jvm.Cond.code y bytes maxL ret).before a0 Z = true)
    (hy : y.cls ≠ "java/lang/invoke/MethodHandle" ∧ y.cls ≠ "java/lang/invoke/VarHandle") {rm : Room} {as' : Array Value} {Q' : Option Value → Heap → List Loc → Prop} (hM : Meets l Z y bytes maxL ret [] rm as' h Q' rm.cells rm.slots)
    (W : Nat) (hf : rm.frames + 1 ≤ R.frames) (hl : W + (maxL + 11) + rm.locals ≤ R.locals) (eT : T.heap = h) (a : Addr) (E : Exa Z h a C) {g : JFrame} (hg : g.method = m) (hsize : g.locals.size = c.maxLocals) (argsL rest : List Value)
    (hlen : ∀ sig, parseMethodDescriptor y.desc = some sig → argsL.length = sig.parameters.length) (hstack : g.stack = argsL.reverse ++ .ref a :: rest) (hW : 2 * g.monitorRoom + (rest.map fun v => v.category).sum ≤ W) (hdg : decode c.code g.pc = .ok (.invokevirtual index, 3))
    (ha : (.ref a :: argsL).toArray = as') (hc : cells + rm.cells ≤ R.cells) (hs : slots + rm.slots ≤ R.slots)
    (k : ∀ v T' L, Stand p l e R s m args below meth c T' (locs ++ L) (cells + rm.cells) (slots + rm.slots) → Q' v T'.heap L → Ends p e below s cs ss Q (T'.setTop { g with pc := g.pc + 3, stack := v.toList ++ rest })) : Ends p e below s cs ss Q (T.setTop g) := by
  obtain ⟨cq, kq, q1, q2, q3⟩ := isOf (T := T) hZ eT E
  obtain ⟨v, _, ⟨T', L', k', n'⟩, -, X', ⟨Lc, hQ, rfl, rfl, rfl⟩, st⟩ := X.virtualBack hx (y := y) (z := y) hown (mvT hZ w1) (mvT hZ wd) (notFace_of_selects (args := #[]) (mvT hZ wsel)) (mvT hZ wsel) (mvT hZ w2) hy (backOf (W := W) hM hZ w4 w3 hf hl) q1 q3 hg hsize (Steps.refl _) (argsL := argsL) (rest := rest) hlen hstack hW hdg (fun _ _ => ⟨ha, eT, hc, hs⟩)
  exact (k v T' Lc X' hQ).step (fun _ q => st.trans q)
/-! ### arrays of small numbers: what each place holds, as a function -/
def Ar (Z : State) (h : Heap) (a : Addr) (ty : FieldType) (n : Nat) (f : Nat → Int32) : Prop := ∃ cl : Cell, Arr Z h a cl ty ∧ cl.slots.size = n ∧ n < 2 ^ 31 ∧ ∀ i, i < n → cl.slots[i]? = some (.int (f i))
def upd (f : Nat → Int32) (j : Nat) (v : Int32) : Nat → Int32 := fun i => if i = j then v else f i
def inb (j : Int32) (n : Nat) : Prop := ¬ (j < 0 ∨ n ≤ j.toNatClampNeg)
variable {a b : Addr} {ty : FieldType} {n sl : Nat} {f : Nat → Int32} {v : Value} {wsA : List Addr}
theorem Ar.lt (A : Ar Z h a ty n f) : a < h.size := by obtain ⟨cl, A1, -⟩ := A; exact A1.lt
theorem Ar.ext (A : Ar Z h a ty n f) (E : Ext h h') : Ar Z h' a ty n f := by obtain ⟨cl, A1, r⟩ := A; exact ⟨cl, A1.ext E, r⟩
theorem Ar.other (A : Ar Z h b ty n f) (W : Wr h h' a sl v) (q : b ≠ a) : Ar Z h' b ty n f := by obtain ⟨cl, A1, r⟩ := A; exact ⟨cl, A1.other W q, r⟩
theorem Ar.keep (A : Ar Z h a ty n f) (K : Keep h h' wsA) (q : a ∉ wsA) : Ar Z h' a ty n f := by obtain ⟨cl, A1, r⟩ := A; exact ⟨cl, ⟨K.2.1 a cl A1.1 q, A1.2⟩, r⟩
theorem Ar.small (A : Ar Z h a ty n f) : n < 2 ^ 31 := by obtain ⟨cl, A1, -, r, -⟩ := A; exact r
theorem Ar.set {j : Int32} {x : Int32} (A : Ar Z h a ty n f) (W : Wr h h' a j.toNatClampNeg (.int x)) : Ar Z h' a ty n (upd f j.toNatClampNeg x) := by
  obtain ⟨cl, A1, r1, r2, r3⟩ := A
  refine ⟨_, A1.same W, by rw [sz_set]; exact r1, r2, fun i hi => ?_⟩
  by_cases q : i = j.toNatClampNeg
  · subst q; simp [Cell.setSlot, upd, r1, hi]
  · simp only [Cell.setSlot, upd, if_neg q]; rw [Array.getElem?_setIfInBounds_ne (fun z => q z.symm)]; exact r3 i hi
theorem Ar.new {cA : ClassId} {k : Int32} (A : Arr Z h a (newA cA ty k) ty) (q : ¬ k < 0) (hd : defaultValue ty = .int 0) : Ar Z h a ty k.toNatClampNeg (fun _ => 0) :=
  ⟨_, A, sz_new _ _ _, (back32 q).2, fun i hi => by simp [newA, hi, hd]⟩
theorem Ends.newA (X : Stand p l e R s m args below meth c T locs cells slots) (hx : p.tables.exec = Jvm.exec) (hZ : Z.Warmed39 s.vm) {aty : ArrayType} (w : (Jvm.Cond.arrayClass (newarray.typeOf aty)).before a0 Z = true) (eT : T.heap = h) {g : JFrame} (hg : g.method = m) (hd : decode c.code g.pc = .ok (.newarray aty, 2)) {k : Int32} {rest : List Value} (hs : g.stack = .int k :: rest)
    (hdf : defaultValue (newarray.typeOf aty) = .int 0) (hn : ¬ k < 0) (cap : Nat) (hcap : k.toNatClampNeg ≤ cap) (hb : cap * 8 ≤ 536870912) (hc : cells + 1 ≤ R.cells) (hl : slots + cap ≤ R.slots)
    (kk : ∀ T' h' a, Stand p l e R s m args below meth c T' locs (cells + 1) (slots + cap) → T'.heap = h' → Ext h h' → h.size = a → Ar Z h' a (newarray.typeOf aty) k.toNatClampNeg (fun _ => 0) → Ends p e below s cs ss Q (T'.setTop { g with pc := g.pc + 2, stack := .ref a :: rest })) : Ends p e below s cs ss Q (T.setTop g) := by
  obtain ⟨T', h', cA, X', e', E, A, st⟩ := newP X hx hZ w eT hg hd hs hn hcap hb hc hl
  exact (kk T' h' h.size X' e' E rfl (Ar.new A hn hdf)).step st
theorem Ends.iaload (X : Stand p l e R s m args below meth c T locs cells slots) (hx : p.tables.exec = Jvm.exec) (hZ : Z.Warmed39 s.vm) (eT : T.heap = h) (A : Ar Z h a .int n f) {j : Int32} (hj : inb j n) {g : JFrame} (hg : g.method = m) {rest : List Value} (hs : g.stack = .int j :: .ref a :: rest) (hd : decode c.code g.pc = .ok (.iaload, 1))
    (k : Ends p e below s cs ss Q (T.setTop { g with pc := g.pc + 1, stack := .int (f j.toNatClampNeg) :: rest })) : Ends p e below s cs ss Q (T.setTop g) := by
  obtain ⟨cl, A1, r1, -, r3⟩ := A
  subst r1
  exact k.step (X.iaload hx (by rw [eT]; exact A1.1) (State.isArrayOf_alike hZ.alike A1.2.1) A1.2.2 hj (r3 _ (Nat.lt_of_not_le fun q => hj (Or.inr q))) hg hs hd)
theorem Ends.baload (X : Stand p l e R s m args below meth c T locs cells slots) (hx : p.tables.exec = Jvm.exec) (hZ : Z.Warmed39 s.vm) (eT : T.heap = h) (A : Ar Z h a .byte n f) {j : Int32} (hj : inb j n) {g : JFrame} (hg : g.method = m) {rest : List Value} (hs : g.stack = .int j :: .ref a :: rest) (hd : decode c.code g.pc = .ok (.baload, 1))
    (k : Ends p e below s cs ss Q (T.setTop { g with pc := g.pc + 1, stack := .int (f j.toNatClampNeg) :: rest })) : Ends p e below s cs ss Q (T.setTop g) := by
  obtain ⟨cl, A1, r1, -, r3⟩ := A
  subst r1
  exact k.step (X.baloadBytes hx (by rw [eT]; exact A1.1) (State.isArrayOf_alike hZ.alike A1.2.1) A1.2.2 hj (r3 _ (Nat.lt_of_not_le fun q => hj (Or.inr q))) hg hs hd)
theorem Ends.arrlen (X : Stand p l e R s m args below meth c T locs cells slots) (hx : p.tables.exec = Jvm.exec) (hZ : Z.Warmed39 s.vm) (eT : T.heap = h) (A : Ar Z h a ty n f) {g : JFrame} (hg : g.method = m) {rest : List Value} (hs : g.stack = .ref a :: rest) (hd : decode c.code g.pc = .ok (.arraylength, 1))
    (k : Ends p e below s cs ss Q (T.setTop { g with pc := g.pc + 1, stack := .int (Nat.toInt32 n) :: rest })) : Ends p e below s cs ss Q (T.setTop g) := by
  obtain ⟨cl, A1, r1, -, r3⟩ := A
  subst r1
  exact k.step (X.arraylength hx (by rw [eT]; exact A1.1) (State.isArrayOf_alike hZ.alike A1.2.1) hg hs hd)
theorem Ends.iastore (X : Stand p l e R s m args below meth c T locs cells slots) (hx : p.tables.exec = Jvm.exec) (hZ : Z.Warmed39 s.vm) (eT : T.heap = h) (A : Ar Z h a .int n f) {j x : Int32} (hj : inb j n) {n0 : Nat} (N : Fr n0 locs) (ge : n0 ≤ a) {g : JFrame} (hg : g.method = m) {rest : List Value} (hs : g.stack = .int x :: .int j :: .ref a :: rest) (hd : decode c.code g.pc = .ok (.iastore, 1))
    (k : ∀ T' h' sl, Stand p l e R s m args below meth c T' (locs ++ [⟨a, sl⟩]) cells slots → T'.heap = h' → Fr n0 (locs ++ [⟨a, sl⟩]) → Wr h h' a sl (.int x) → Ar Z h' a .int n (upd f j.toNatClampNeg x) → Ends p e below s cs ss Q (T'.setTop { g with pc := g.pc + 1, stack := rest })) : Ends p e below s cs ss Q (T.setTop g) := by
  obtain ⟨cl, A1, r1, r2, r3⟩ := A
  obtain ⟨T', h', X', e', W, st⟩ := stI X hx hZ eT A1 (by rw [r1]; exact hj) hg hs hd
  exact (k T' h' _ X' e' (Fr.snoc X' N ge) W (Ar.set ⟨cl, A1, r1, r2, r3⟩ W)).step st
theorem Ends.bastore (X : Stand p l e R s m args below meth c T locs cells slots) (hx : p.tables.exec = Jvm.exec) (hZ : Z.Warmed39 s.vm) (eT : T.heap = h) (A : Ar Z h a .byte n f) {j x : Int32} (hj : inb j n) {n0 : Nat} (N : Fr n0 locs) (ge : n0 ≤ a) {g : JFrame} (hg : g.method = m) {rest : List Value} (hs : g.stack = .int x :: .int j :: .ref a :: rest) (hd : decode c.code g.pc = .ok (.bastore, 1))
    (k : ∀ T' h' sl, Stand p l e R s m args below meth c T' (locs ++ [⟨a, sl⟩]) cells slots → T'.heap = h' → Fr n0 (locs ++ [⟨a, sl⟩]) → Wr h h' a sl (.int (nar .byte x)) → Ar Z h' a .byte n (upd f j.toNatClampNeg (nar .byte x)) → Ends p e below s cs ss Q (T'.setTop { g with pc := g.pc + 1, stack := rest })) : Ends p e below s cs ss Q (T.setTop g) := by
  obtain ⟨cl, A1, r1, r2, r3⟩ := A
  obtain ⟨T', h', X', e', W, st⟩ := stB X hx hZ eT A1 (by rw [r1]; exact hj) hg hs hd
  exact (k T' h' _ X' e' (Fr.snoc X' N ge) W (Ar.set ⟨cl, A1, r1, r2, r3⟩ W)).step st
theorem Ends.getF (X : Stand p l e R s m args below meth c T locs cells slots) (hx : p.tables.exec = Jvm.exec) (hZ : Z.Warmed39 s.vm) {own O fn d : String} {index : Nat} (hown : s.vm.findClass own = some m.cls) (w : (Jvm.Cond.fieldLink own index O fn d).before a0 Z = true) (eT : T.heap = h) (F : Fld Z h a O fn d v) {g : JFrame} (hg : g.method = m) {rest : List Value} (hs : g.stack = .ref a :: rest) (hd : decode c.code g.pc = .ok (.getfield index, 3))
    (k : ∀ T', Stand p l e R s m args below meth c T' locs cells slots → T'.heap = h → Ends p e below s cs ss Q (T'.setTop { g with pc := g.pc + 3, stack := v :: rest })) : Ends p e below s cs ss Q (T.setTop g) := by
  obtain ⟨T', X', e', st⟩ := Jvm.RoadKit.getF X hx hZ hown (host := "") (Or.inl w) Via.refl eT F hg hs hd
  exact (k T' X' e').step st
theorem Ends.putF (X : Stand p l e R s m args below meth c T locs cells slots) (hx : p.tables.exec = Jvm.exec) (hZ : Z.Warmed39 s.vm) {own O fn d : String} {index kk : Nat} {tf : FieldType} {old : Value} (hown : s.vm.findClass own = some m.cls) (w : (Jvm.Cond.fieldLink own index O fn d).before a0 Z = true) (eT : T.heap = h) (F : Fld Z h a O fn d old) (E : Exa Z h a O) (L : (Jvm.Cond.lays O O fn d).before a0 Z = true ∨ ((Jvm.Cond.laysFinal O O fn d).before a0 Z = true ∧ own = O ∧ meth.name = "<init>")) (wi : (Jvm.Cond.instantiable O kk).before a0 Z = true)
    (hty : parseFieldDescriptor d = some tf) (hn : narrow tf v = v) (hf : fits tf v = true) {n0 : Nat} (N : Fr n0 locs) (ge : n0 ≤ a) {g : JFrame} (hg : g.method = m) {rest : List Value} (hs : g.stack = v :: .ref a :: rest) (hd : decode c.code g.pc = .ok (.putfield index, 3))
    (k : ∀ T' h', Stand p l e R s m args below meth c T' (locs ++ [⟨a, Jvm.RoadKit.slotOf Z O fn d⟩]) cells slots → T'.heap = h' → Fr n0 (locs ++ [⟨a, Jvm.RoadKit.slotOf Z O fn d⟩]) → Wr h h' a (Jvm.RoadKit.slotOf Z O fn d) v → Ends p e below s cs ss Q (T'.setTop { g with pc := g.pc + 3, stack := rest })) : Ends p e below s cs ss Q (T.setTop g) := by
  obtain ⟨T', h', X', e', W, st⟩ := Jvm.RoadKit.putF X hx hZ hown (host := "") (Or.inl w) Via.refl eT F E L wi hty hn hf hg hs hd
  exact (k T' h' X' e' (Fr.snoc X' N ge) W).step st
theorem Ends.newO (X : Stand p l e R s m args below meth c T locs cells slots) (hx : p.tables.exec = Jvm.exec) (hZ : Z.Warmed39 s.vm) {own C : String} {index k : Nat} (hown : s.vm.findClass own = some m.cls) (w : (Jvm.Cond.classLink own index C).before a0 Z = true) (wi : (Jvm.Cond.instantiable C k).before a0 Z = true) (wz : (Jvm.Cond.initialized C).before a0 Z = true) (eT : T.heap = h)
    {g : JFrame} (hg : g.method = m) (hd : decode c.code g.pc = .ok (.new index, 3)) (hc : cells + 1 ≤ R.cells) (hl : slots + k ≤ R.slots)
    (kk : ∀ T' h' a, Stand p l e R s m args below meth c T' locs (cells + 1) (slots + k) → T'.heap = h' → Ext h h' → h.size = a → Exa Z h' a C → (∀ {O nm d : String} {ty : FieldType}, Laid Z a0 C O nm d → parseFieldDescriptor d = some ty → Fld Z h' a O nm d (defaultValue ty)) → Ends p e below s cs ss Q (T'.setTop { g with pc := g.pc + 3, stack := .ref a :: g.stack })) : Ends p e below s cs ss Q (T.setTop g) := by
  obtain ⟨T', h', X', e', E, A, D, -, st⟩ := Jvm.RoadKit.newO X hx hZ hown w wi wz eT hg hd hc hl
  exact (kk T' h' _ X' e' E rfl A D).step st
theorem Ends.initO (X : Stand p l e R s m args below meth c T locs cells slots) (hx : p.tables.exec = Jvm.exec) (hZ : Z.Warmed39 s.vm) {own : String} {idx : Nat} (hown : s.vm.findClass own = some m.cls) (w1 : (Jvm.Cond.methodLink own idx Lib.objectInit).before a0 Z = true) (w2 : (Jvm.Cond.instanceMethod Lib.objectInit).before a0 Z = true)
    (w3 : (Jvm.Cond.code Lib.objectInit ⟨#[0xb1]⟩ 1 none).before a0 Z = true) (eT : T.heap = h) {g : JFrame} (hg : g.method = m) (hsize : g.locals.size = c.maxLocals) {rest : List Value} (hs : g.stack = .ref a :: rest) (hd : decode c.code g.pc = .ok (.invokespecial idx, 3))
    (hf : 1 ≤ R.frames) (W : Nat) (hW : 2 * g.monitorRoom + (rest.map fun v => v.category).sum ≤ W) (hl : W + 12 ≤ R.locals)
    (k : ∀ T', Stand p l e R s m args below meth c T' locs cells slots → T'.heap = h → Ends p e below s cs ss Q (T'.setTop { g with pc := g.pc + 3, stack := rest })) : Ends p e below s cs ss Q (T.setTop g) := by
  obtain ⟨T', X', e', st⟩ := Jvm.RoadKit.initO X hx hZ hown w1 w2 w3 eT hg hsize hs hd hf hW hl
  exact (k T' X' e').step st
def OneS (o : Slot) : Prop := o = .unset ∨ ∃ w, o = .val w ∧ w.category = 1
theorem storeL {ls : Array Slot} {i : Nat} {x : Int64} {o o' : Slot} (h1 : ls[i]? = some o) (h2 : ls[i + 1]? = some o') (p1 : OneS o) (p2 : OneS o') : storeLocals ls i (.long x) = some ((ls.setIfInBounds i (.val (.long x))).setIfInBounds (i + 1) .second) := by
  have l1 : i < ls.size := (Array.getElem?_eq_some_iff.mp h1).1
  have l2 : i + 1 < ls.size := (Array.getElem?_eq_some_iff.mp h2).1
  have e2 : (ls.setIfInBounds i (.val (.long x)))[i + 1]? = some o' := by rw [Array.getElem?_setIfInBounds_ne (by omega)]; exact h2
  have q : storeSelf ls i (.long x) = some ((ls.setIfInBounds i (.val (.long x))).setIfInBounds (i + 1) .second) := by
    have cat : (Value.long x).category = 2 := rfl
    simp only [storeSelf, setAt, if_pos l1, cat, if_true, Option.bind_eq_bind, Option.bind_some, e2]
    rcases p2 with rfl | ⟨w, rfl, hw⟩
    · simp [l2]
    · simp [l2, hw]
  simp only [storeLocals, h1, Option.bind_eq_bind, Option.bind_some]
  rcases p1 with rfl | ⟨w, rfl, hw⟩
  · exact q
  · simp only [hw]; exact q
end OwnFrame
-- body 1
def F1_190 (t0 : Int32) : Int32 := (nar .boolean t0)
def F1_185  : Int32 := (F1_190 (1 : Int32))
def F1_189  : Int32 := (F1_190 (0 : Int32))
def F1_179 (x0 : Int32) : Int32 := if (983039 : Int32) < x0 then F1_189 else F1_185
def F1_173 (x0 : Int32) : Int32 := if x0 < (65536 : Int32) then F1_189 else (F1_179 x0)
def F1_167 (x0 : Int32) : Int32 := if (65533 : Int32) < x0 then (F1_173 x0) else F1_185
def F1_161 (x0 : Int32) : Int32 := if x0 < (65008 : Int32) then (F1_173 x0) else (F1_167 x0)
def F1_155 (x0 : Int32) : Int32 := if (64975 : Int32) < x0 then (F1_161 x0) else F1_185
def F1_149 (x0 : Int32) : Int32 := if x0 < (63744 : Int32) then (F1_161 x0) else (F1_155 x0)
def F1_143 (x0 : Int32) : Int32 := if (55295 : Int32) < x0 then (F1_149 x0) else F1_185
def F1_136 (x0 : Int32) : Int32 := if x0 < (12289 : Int32) then (F1_149 x0) else (F1_143 x0)
def F1_129 (x0 : Int32) : Int32 := if (12271 : Int32) < x0 then (F1_136 x0) else F1_185
def F1_122 (x0 : Int32) : Int32 := if x0 < (11264 : Int32) then (F1_136 x0) else (F1_129 x0)
def F1_115 (x0 : Int32) : Int32 := if (8591 : Int32) < x0 then (F1_122 x0) else F1_185
def F1_108 (x0 : Int32) : Int32 := if x0 < (8304 : Int32) then (F1_122 x0) else (F1_115 x0)
def F1_101 (x0 : Int32) : Int32 := if (8205 : Int32) < x0 then (F1_108 x0) else F1_185
def F1_94 (x0 : Int32) : Int32 := if x0 < (8204 : Int32) then (F1_108 x0) else (F1_101 x0)
def F1_87 (x0 : Int32) : Int32 := if (8191 : Int32) < x0 then (F1_94 x0) else F1_185
def F1_80 (x0 : Int32) : Int32 := if x0 < (895 : Int32) then (F1_94 x0) else (F1_87 x0)
def F1_73 (x0 : Int32) : Int32 := if (893 : Int32) < x0 then (F1_80 x0) else F1_185
def F1_66 (x0 : Int32) : Int32 := if x0 < (880 : Int32) then (F1_80 x0) else (F1_73 x0)
def F1_59 (x0 : Int32) : Int32 := if (767 : Int32) < x0 then (F1_66 x0) else F1_185
def F1_52 (x0 : Int32) : Int32 := if x0 < (248 : Int32) then (F1_66 x0) else (F1_59 x0)
def F1_45 (x0 : Int32) : Int32 := if (246 : Int32) < x0 then (F1_52 x0) else F1_185
def F1_38 (x0 : Int32) : Int32 := if x0 < (216 : Int32) then (F1_52 x0) else (F1_45 x0)
def F1_31 (x0 : Int32) : Int32 := if (214 : Int32) < x0 then (F1_38 x0) else F1_185
def F1_24 (x0 : Int32) : Int32 := if x0 < (192 : Int32) then (F1_38 x0) else (F1_31 x0)
def F1_18 (x0 : Int32) : Int32 := if (90 : Int32) < x0 then (F1_24 x0) else F1_185
def F1_12 (x0 : Int32) : Int32 := if x0 < (65 : Int32) then (F1_24 x0) else (F1_18 x0)
def F1_6 (x0 : Int32) : Int32 := if (122 : Int32) < x0 then (F1_12 x0) else F1_185
def F1 (p0 : Int32) : Int32 := if p0 < (97 : Int32) then (F1_12 p0) else (F1_6 p0)
-- body 3
def F3_15 (t0 : Int32) : Int32 := (nar .boolean t0)
def F3_10  : Int32 := (F3_15 (1 : Int32))
def F3_14  : Int32 := (F3_15 (0 : Int32))
def F3_5 (x0 : Int32) (x2 : Int32) : Int32 := if x2 < x0 then F3_14 else F3_10
def F3 (p0 : Int32) (p1 : Int32) (p2 : Int32) : Int32 := if p0 < p1 then F3_14 else (F3_5 p0 p2)
-- body 2
def F2_11  : Int32 := (nar .boolean (0 : Int32))
def F2_24  : Int32 := (nar .boolean (0 : Int32))
def F2_38  : Int32 := (nar .boolean (0 : Int32))
def F2_54  : Int32 := (nar .boolean (0 : Int32))
def F2_69  : Int32 := (nar .boolean (0 : Int32))
def F2_78  : Int32 := (nar .boolean (0 : Int32))
def F2_93  : Int32 := (nar .boolean (0 : Int32))
def F2_108  : Int32 := (nar .boolean (0 : Int32))
def F2_123  : Int32 := (nar .boolean (0 : Int32))
def F2_138  : Int32 := (nar .boolean (0 : Int32))
def F2_151  : Int32 := (nar .boolean (0 : Int32))
def F2_164  : Int32 := (nar .boolean (0 : Int32))
def F2_177  : Int32 := (nar .boolean (0 : Int32))
def F2_179  : Int32 := (nar .boolean (1 : Int32))
def F2_166 (x0 : Int32) : Int32 := if (F3 x0 (65534 : Int32) (65535 : Int32)) = 0 then F2_179 else F2_177
def F2_153 (x0 : Int32) : Int32 := if (F3 x0 (64976 : Int32) (65007 : Int32)) = 0 then (F2_166 x0) else F2_164
def F2_140 (x0 : Int32) : Int32 := if (F3 x0 (55296 : Int32) (63743 : Int32)) = 0 then (F2_153 x0) else F2_151
def F2_125 (x0 : Int32) : Int32 := if (F3 x0 (12272 : Int32) (12288 : Int32)) = 0 then (F2_140 x0) else F2_138
def F2_110 (x0 : Int32) : Int32 := if (F3 x0 (8592 : Int32) (11263 : Int32)) = 0 then (F2_125 x0) else F2_123
def F2_95 (x0 : Int32) : Int32 := if (F3 x0 (8206 : Int32) (8303 : Int32)) = 0 then (F2_110 x0) else F2_108
def F2_80 (x0 : Int32) : Int32 := if (F3 x0 (8192 : Int32) (8203 : Int32)) = 0 then (F2_95 x0) else F2_93
def F2_71 (x0 : Int32) : Int32 := if x0 = (894 : Int32) then F2_78 else (F2_80 x0)
def F2_56 (x0 : Int32) : Int32 := if (F3 x0 (768 : Int32) (879 : Int32)) = 0 then (F2_71 x0) else F2_69
def F2_47 (x0 : Int32) : Int32 := if x0 = (247 : Int32) then F2_54 else (F2_56 x0)
def F2_40 (x0 : Int32) : Int32 := if x0 = (215 : Int32) then F2_54 else (F2_47 x0)
def F2_26 (x0 : Int32) : Int32 := if (F3 x0 (123 : Int32) (191 : Int32)) = 0 then (F2_40 x0) else F2_38
def F2_13 (x0 : Int32) : Int32 := if (F3 x0 (91 : Int32) (96 : Int32)) = 0 then (F2_26 x0) else F2_24
def F2 (p0 : Int32) : Int32 := if (F3 p0 (65 : Int32) (983039 : Int32)) = 0 then F2_11 else (F2_13 p0)
-- body 0
def F0_61 (t0 : Int32) : Int32 := (nar .boolean t0)
def F0_56  : Int32 := (F0_61 (1 : Int32))
def F0_60  : Int32 := (F0_61 (0 : Int32))
def F0_45 (x3 : Int32) : Int32 := if (F1 x3) = (F2 x3) then F0_56 else F0_60
def F0_8 (x0 : Int32) : Int32 := (F0_45 x0)
def F0_23 (x3 : Int32) : Int32 := (F0_45 x3)
def F0_18 (x0 : Int32) : Int32 := (F0_23 (x0 &&& (65535 : Int32)))
def F0_37 (x3 : Int32) : Int32 := (F0_45 x3)
def F0_31 (x0 : Int32) : Int32 := (F0_37 (x0 &&& (16383 : Int32)))
def F0_40 (x0 : Int32) : Int32 := (F0_45 (x0 &&& (1048575 : Int32)))
def F0_26 (x0 : Int32) (x2 : Int32) : Int32 := if x2 = (2 : Int32) then (F0_31 x0) else (F0_40 x0)
def F0_13 (x0 : Int32) (x2 : Int32) : Int32 := if x2 = (1 : Int32) then (F0_18 x0) else (F0_26 x0 x2)
def F0_4 (x0 : Int32) (x2 : Int32) : Int32 := if x2 = 0 then (F0_8 x0) else (F0_13 x0 x2)
def F0 (p0 : Int32) (p1 : Int32) : Int32 := (F0_4 p0 (p1 &&& (3 : Int32)))
theorem pd_0 : parseMethodDescriptor "(III)Z" = some ⟨[.int, .int, .int], (some .boolean)⟩ := by decide +kernel
theorem pd_1 : parseMethodDescriptor "(I)Z" = some ⟨[.int], (some .boolean)⟩ := by decide +kernel
theorem d1_0 : decode prog_70_method_2_code 0 = .ok (.iload_n 0, 1) := by decide +kernel
theorem d1_1 : decode prog_70_method_2_code 1 = .ok (.bipush 97, 2) := by decide +kernel
theorem d1_3 : decode prog_70_method_2_code 3 = .ok (.if_icmp .lt 9, 3) := by decide +kernel
theorem d1_6 : decode prog_70_method_2_code 6 = .ok (.iload_n 0, 1) := by decide +kernel
theorem d1_7 : decode prog_70_method_2_code 7 = .ok (.bipush 122, 2) := by decide +kernel
theorem d1_9 : decode prog_70_method_2_code 9 = .ok (.if_icmp .le 176, 3) := by decide +kernel
theorem d1_12 : decode prog_70_method_2_code 12 = .ok (.iload_n 0, 1) := by decide +kernel
theorem d1_13 : decode prog_70_method_2_code 13 = .ok (.bipush 65, 2) := by decide +kernel
theorem d1_15 : decode prog_70_method_2_code 15 = .ok (.if_icmp .lt 9, 3) := by decide +kernel
theorem d1_18 : decode prog_70_method_2_code 18 = .ok (.iload_n 0, 1) := by decide +kernel
theorem d1_19 : decode prog_70_method_2_code 19 = .ok (.bipush 90, 2) := by decide +kernel
theorem d1_21 : decode prog_70_method_2_code 21 = .ok (.if_icmp .le 164, 3) := by decide +kernel
theorem d1_24 : decode prog_70_method_2_code 24 = .ok (.iload_n 0, 1) := by decide +kernel
theorem d1_25 : decode prog_70_method_2_code 25 = .ok (.sipush 192, 3) := by decide +kernel
theorem d1_28 : decode prog_70_method_2_code 28 = .ok (.if_icmp .lt 10, 3) := by decide +kernel
theorem d1_31 : decode prog_70_method_2_code 31 = .ok (.iload_n 0, 1) := by decide +kernel
theorem d1_32 : decode prog_70_method_2_code 32 = .ok (.sipush 214, 3) := by decide +kernel
theorem d1_35 : decode prog_70_method_2_code 35 = .ok (.if_icmp .le 150, 3) := by decide +kernel
theorem d1_38 : decode prog_70_method_2_code 38 = .ok (.iload_n 0, 1) := by decide +kernel
theorem d1_39 : decode prog_70_method_2_code 39 = .ok (.sipush 216, 3) := by decide +kernel
theorem d1_42 : decode prog_70_method_2_code 42 = .ok (.if_icmp .lt 10, 3) := by decide +kernel
theorem d1_45 : decode prog_70_method_2_code 45 = .ok (.iload_n 0, 1) := by decide +kernel
theorem d1_46 : decode prog_70_method_2_code 46 = .ok (.sipush 246, 3) := by decide +kernel
theorem d1_49 : decode prog_70_method_2_code 49 = .ok (.if_icmp .le 136, 3) := by decide +kernel
theorem d1_52 : decode prog_70_method_2_code 52 = .ok (.iload_n 0, 1) := by decide +kernel
theorem d1_53 : decode prog_70_method_2_code 53 = .ok (.sipush 248, 3) := by decide +kernel
theorem d1_56 : decode prog_70_method_2_code 56 = .ok (.if_icmp .lt 10, 3) := by decide +kernel
theorem d1_59 : decode prog_70_method_2_code 59 = .ok (.iload_n 0, 1) := by decide +kernel
theorem d1_60 : decode prog_70_method_2_code 60 = .ok (.sipush 767, 3) := by decide +kernel
theorem d1_63 : decode prog_70_method_2_code 63 = .ok (.if_icmp .le 122, 3) := by decide +kernel
theorem d1_66 : decode prog_70_method_2_code 66 = .ok (.iload_n 0, 1) := by decide +kernel
theorem d1_67 : decode prog_70_method_2_code 67 = .ok (.sipush 880, 3) := by decide +kernel
theorem d1_70 : decode prog_70_method_2_code 70 = .ok (.if_icmp .lt 10, 3) := by decide +kernel
theorem d1_73 : decode prog_70_method_2_code 73 = .ok (.iload_n 0, 1) := by decide +kernel
theorem d1_74 : decode prog_70_method_2_code 74 = .ok (.sipush 893, 3) := by decide +kernel
theorem d1_77 : decode prog_70_method_2_code 77 = .ok (.if_icmp .le 108, 3) := by decide +kernel
theorem d1_80 : decode prog_70_method_2_code 80 = .ok (.iload_n 0, 1) := by decide +kernel
theorem d1_81 : decode prog_70_method_2_code 81 = .ok (.sipush 895, 3) := by decide +kernel
theorem d1_84 : decode prog_70_method_2_code 84 = .ok (.if_icmp .lt 10, 3) := by decide +kernel
theorem d1_87 : decode prog_70_method_2_code 87 = .ok (.iload_n 0, 1) := by decide +kernel
theorem d1_88 : decode prog_70_method_2_code 88 = .ok (.sipush 8191, 3) := by decide +kernel
theorem d1_91 : decode prog_70_method_2_code 91 = .ok (.if_icmp .le 94, 3) := by decide +kernel
theorem d1_94 : decode prog_70_method_2_code 94 = .ok (.iload_n 0, 1) := by decide +kernel
theorem d1_95 : decode prog_70_method_2_code 95 = .ok (.sipush 8204, 3) := by decide +kernel
theorem d1_98 : decode prog_70_method_2_code 98 = .ok (.if_icmp .lt 10, 3) := by decide +kernel
theorem d1_101 : decode prog_70_method_2_code 101 = .ok (.iload_n 0, 1) := by decide +kernel
theorem d1_102 : decode prog_70_method_2_code 102 = .ok (.sipush 8205, 3) := by decide +kernel
theorem d1_105 : decode prog_70_method_2_code 105 = .ok (.if_icmp .le 80, 3) := by decide +kernel
theorem d1_108 : decode prog_70_method_2_code 108 = .ok (.iload_n 0, 1) := by decide +kernel
theorem d1_109 : decode prog_70_method_2_code 109 = .ok (.sipush 8304, 3) := by decide +kernel
theorem d1_112 : decode prog_70_method_2_code 112 = .ok (.if_icmp .lt 10, 3) := by decide +kernel
theorem d1_115 : decode prog_70_method_2_code 115 = .ok (.iload_n 0, 1) := by decide +kernel
theorem d1_116 : decode prog_70_method_2_code 116 = .ok (.sipush 8591, 3) := by decide +kernel
theorem d1_119 : decode prog_70_method_2_code 119 = .ok (.if_icmp .le 66, 3) := by decide +kernel
theorem d1_122 : decode prog_70_method_2_code 122 = .ok (.iload_n 0, 1) := by decide +kernel
theorem d1_123 : decode prog_70_method_2_code 123 = .ok (.sipush 11264, 3) := by decide +kernel
theorem d1_126 : decode prog_70_method_2_code 126 = .ok (.if_icmp .lt 10, 3) := by decide +kernel
theorem d1_129 : decode prog_70_method_2_code 129 = .ok (.iload_n 0, 1) := by decide +kernel
theorem d1_130 : decode prog_70_method_2_code 130 = .ok (.sipush 12271, 3) := by decide +kernel
theorem d1_133 : decode prog_70_method_2_code 133 = .ok (.if_icmp .le 52, 3) := by decide +kernel
theorem d1_136 : decode prog_70_method_2_code 136 = .ok (.iload_n 0, 1) := by decide +kernel
theorem d1_137 : decode prog_70_method_2_code 137 = .ok (.sipush 12289, 3) := by decide +kernel
theorem d1_140 : decode prog_70_method_2_code 140 = .ok (.if_icmp .lt 9, 3) := by decide +kernel
theorem d1_143 : decode prog_70_method_2_code 143 = .ok (.iload_n 0, 1) := by decide +kernel
theorem d1_144 : decode prog_70_method_2_code 144 = .ok (.ldc 7, 2) := by decide +kernel
theorem d1_146 : decode prog_70_method_2_code 146 = .ok (.if_icmp .le 39, 3) := by decide +kernel
theorem d1_149 : decode prog_70_method_2_code 149 = .ok (.iload_n 0, 1) := by decide +kernel
theorem d1_150 : decode prog_70_method_2_code 150 = .ok (.ldc 8, 2) := by decide +kernel
theorem d1_152 : decode prog_70_method_2_code 152 = .ok (.if_icmp .lt 9, 3) := by decide +kernel
theorem d1_155 : decode prog_70_method_2_code 155 = .ok (.iload_n 0, 1) := by decide +kernel
theorem d1_156 : decode prog_70_method_2_code 156 = .ok (.ldc 9, 2) := by decide +kernel
theorem d1_158 : decode prog_70_method_2_code 158 = .ok (.if_icmp .le 27, 3) := by decide +kernel
theorem d1_161 : decode prog_70_method_2_code 161 = .ok (.iload_n 0, 1) := by decide +kernel
theorem d1_162 : decode prog_70_method_2_code 162 = .ok (.ldc 10, 2) := by decide +kernel
theorem d1_164 : decode prog_70_method_2_code 164 = .ok (.if_icmp .lt 9, 3) := by decide +kernel
theorem d1_167 : decode prog_70_method_2_code 167 = .ok (.iload_n 0, 1) := by decide +kernel
theorem d1_168 : decode prog_70_method_2_code 168 = .ok (.ldc 11, 2) := by decide +kernel
theorem d1_170 : decode prog_70_method_2_code 170 = .ok (.if_icmp .le 15, 3) := by decide +kernel
theorem d1_173 : decode prog_70_method_2_code 173 = .ok (.iload_n 0, 1) := by decide +kernel
theorem d1_174 : decode prog_70_method_2_code 174 = .ok (.ldc 12, 2) := by decide +kernel
theorem d1_176 : decode prog_70_method_2_code 176 = .ok (.if_icmp .lt 13, 3) := by decide +kernel
theorem d1_179 : decode prog_70_method_2_code 179 = .ok (.iload_n 0, 1) := by decide +kernel
theorem d1_180 : decode prog_70_method_2_code 180 = .ok (.ldc 13, 2) := by decide +kernel
theorem d1_182 : decode prog_70_method_2_code 182 = .ok (.if_icmp .gt 7, 3) := by decide +kernel
theorem d1_185 : decode prog_70_method_2_code 185 = .ok (.iconst 1, 1) := by decide +kernel
theorem d1_186 : decode prog_70_method_2_code 186 = .ok (.goto 4, 3) := by decide +kernel
theorem d1_189 : decode prog_70_method_2_code 189 = .ok (.iconst 0, 1) := by decide +kernel
theorem d1_190 : decode prog_70_method_2_code 190 = .ok (.ireturn, 1) := by decide +kernel
theorem pn_1 : plainFor (⟨"com/example/taxigraph/taxigraph/NameCharacters", "isBase", "(I)Z"⟩ : MethodName) = true := by first | exact plainFor_of_name (by first | (simp [plainName, overriddenIn]; done) | decide +kernel) | decide +kernel
theorem ef_1 (m : MethodId) (y0 : Int32) : entryFrame m #[(.int y0)] 1 = mkF m 0 #[.val (.int y0)] [] := by first | (simp [entryFrame, mkF, argsToLocals, Value.category]; done) | rfl
def Q1 (Z : State)   (h0 : Heap) (n0 : Nat) (ans : Int32) (v : Option Value) (h : Heap) (L : List Loc) : Prop := v = some (.int ans) ∧ Fr n0 L ∧ h = h0
set_option maxRecDepth 65536 in
set_option maxHeartbeats 40000000 in
theorem rm1 (l : Launch) (Z : State) (a0 : Array Value) (hw : ∀ d ∈ tables_1, d.before a0 Z = true) (p0 : Int32)  (h0 : Heap) (n0 : Nat) (Z0 : n0 ≤ h0.size)  :
    Meets l Z (⟨"com/example/taxigraph/taxigraph/NameCharacters", "isBase", "(I)Z"⟩ : MethodName) prog_70_method_2_code 1 (some .boolean) [] ({ frames := 0, cells := 0, slots := 0, locals := 0 } : Room) #[(.int p0)] h0 (Q1 Z  h0 n0 (F1 p0)) 0 0 := by
  refine Meets.of pn_1 ?_
  intro p e s m below meth c s₁ hx hby hml hZ hown hnm hret hlk X0 e0
  have hml : c.maxLocals = 1 := hml
  have hown : s.vm.findClass "com/example/taxigraph/taxigraph/NameCharacters" = some m.cls := hown
  have N0 := Fr.nil n0
  have b190 : ∀ (T : State) (L : List Loc) (X : Stand p l e ({ frames := 0, cells := 0, slots := 0, locals := 0 } : Room) s m #[(.int p0)] below meth c T L 0 0) (eT : T.heap = h0) (N : Fr n0 L) (t0 : Int32) (d0 : Slot) (od0 : OneS d0), Ends p e below s 0 0 (Q1 Z  h0 n0 (F1_190 t0)) (T.setTop (mkF m 190 #[d0] [(.int t0)])) := by
    intro T L X eT N t0 d0 od0
    exact Ends.ret X (v := some (.int (nar .boolean t0))) (fun q => by rw [hret] at q; cases q) hlk (fun fs hr => retN X hx (t := .boolean) hret (by simp) (hb hby d1_190) hr) (by decide) (by decide) ⟨rfl, N, eT⟩
  have b185 : ∀ (T : State) (L : List Loc) (X : Stand p l e ({ frames := 0, cells := 0, slots := 0, locals := 0 } : Room) s m #[(.int p0)] below meth c T L 0 0) (eT : T.heap = h0) (N : Fr n0 L) (d0 : Slot) (od0 : OneS d0), Ends p e below s 0 0 (Q1 Z  h0 n0 F1_185) (T.setTop (mkF m 185 #[d0] [])) := by
    intro T L X eT N d0 od0
    refine Ends.step (u' := (T.setTop (mkF m 186 #[d0] [(.int (1 : Int32))]))) ?_ (fun _ k => XT.iconstV X.here hx rfl (1 : Int32) (hb hby d1_185) rfl k)
    refine Ends.step (u' := (T.setTop (mkF m 190 #[d0] [(.int (1 : Int32))]))) ?_ (fun _ k => XS.goto X.here hx rfl (pc0 := 186) (pc' := 190) rfl (hb hby d1_186) (by decide) (by decide) k)
    exact b190 T _ X eT N (1 : Int32) (d0) od0
  have b189 : ∀ (T : State) (L : List Loc) (X : Stand p l e ({ frames := 0, cells := 0, slots := 0, locals := 0 } : Room) s m #[(.int p0)] below meth c T L 0 0) (eT : T.heap = h0) (N : Fr n0 L) (d0 : Slot) (od0 : OneS d0), Ends p e below s 0 0 (Q1 Z  h0 n0 F1_189) (T.setTop (mkF m 189 #[d0] [])) := by
    intro T L X eT N d0 od0
    refine Ends.step (u' := (T.setTop (mkF m 190 #[d0] [(.int (0 : Int32))]))) ?_ (fun _ k => XT.iconstV X.here hx rfl (0 : Int32) (hb hby d1_189) rfl k)
    exact b190 T _ X eT N (0 : Int32) (d0) od0
  have b179 : ∀ (T : State) (L : List Loc) (X : Stand p l e ({ frames := 0, cells := 0, slots := 0, locals := 0 } : Room) s m #[(.int p0)] below meth c T L 0 0) (eT : T.heap = h0) (N : Fr n0 L) (x0 : Int32), Ends p e below s 0 0 (Q1 Z  h0 n0 (F1_179 x0)) (T.setTop (mkF m 179 #[.val (.int x0)] [])) := by
    intro T L X eT N x0
    refine Ends.step (u' := (T.setTop (mkF m 180 #[.val (.int x0)] [(.int x0)]))) ?_ (fun _ k => XS.iloadN X.here hx rfl (hb hby d1_179) rfl k)
    refine Ends.step (u' := (T.setTop (mkF m 182 #[.val (.int x0)] [(.int (983039 : Int32)), (.int x0)]))) ?_ (fun _ k => X.ldcI hx hown (mvT hZ (hw _ (List.mem_of_getElem? (i := 25) rfl))) rfl (hb hby d1_180) k)
    by_cases hc182 : (983039 : Int32) < x0
    · refine Eq.mp (congrArg (fun z => Ends p e below s 0 0 (Q1 Z  h0 n0 z) (T.setTop (mkF m 182 #[.val (.int x0)] [(.int (983039 : Int32)), (.int x0)]))) (show (F1_179 x0) = F1_189 from (if_pos hc182)).symm) ?_
      refine Ends.step (u' := (T.setTop (mkF m 189 #[.val (.int x0)] []))) ?_ (fun _ k => XS.icmpYes X.here hx rfl (pc0 := 182) (pc' := 189) rfl (hb hby d1_182) rfl (XT.ii_gt_t hc182) (by decide) (by decide) k)
      exact b189 T _ X eT N (.val (.int x0)) (Or.inr ⟨_, rfl, rfl⟩)
    · refine Eq.mp (congrArg (fun z => Ends p e below s 0 0 (Q1 Z  h0 n0 z) (T.setTop (mkF m 182 #[.val (.int x0)] [(.int (983039 : Int32)), (.int x0)]))) (show (F1_179 x0) = F1_185 from (if_neg hc182)).symm) ?_
      refine Ends.step (u' := (T.setTop (mkF m 185 #[.val (.int x0)] []))) ?_ (fun _ k => XS.icmpNo X.here hx rfl (hb hby d1_182) rfl (XT.ii_gt_f hc182) k)
      exact b185 T _ X eT N (.val (.int x0)) (Or.inr ⟨_, rfl, rfl⟩)
  have b173 : ∀ (T : State) (L : List Loc) (X : Stand p l e ({ frames := 0, cells := 0, slots := 0, locals := 0 } : Room) s m #[(.int p0)] below meth c T L 0 0) (eT : T.heap = h0) (N : Fr n0 L) (x0 : Int32), Ends p e below s 0 0 (Q1 Z  h0 n0 (F1_173 x0)) (T.setTop (mkF m 173 #[.val (.int x0)] [])) := by
    intro T L X eT N x0
    refine Ends.step (u' := (T.setTop (mkF m 174 #[.val (.int x0)] [(.int x0)]))) ?_ (fun _ k => XS.iloadN X.here hx rfl (hb hby d1_173) rfl k)
    refine Ends.step (u' := (T.setTop (mkF m 176 #[.val (.int x0)] [(.int (65536 : Int32)), (.int x0)]))) ?_ (fun _ k => X.ldcI hx hown (mvT hZ (hw _ (List.mem_of_getElem? (i := 7) rfl))) rfl (hb hby d1_174) k)
    by_cases hc176 : x0 < (65536 : Int32)
    · refine Eq.mp (congrArg (fun z => Ends p e below s 0 0 (Q1 Z  h0 n0 z) (T.setTop (mkF m 176 #[.val (.int x0)] [(.int (65536 : Int32)), (.int x0)]))) (show (F1_173 x0) = F1_189 from (if_pos hc176)).symm) ?_
      refine Ends.step (u' := (T.setTop (mkF m 189 #[.val (.int x0)] []))) ?_ (fun _ k => XS.icmpYes X.here hx rfl (pc0 := 176) (pc' := 189) rfl (hb hby d1_176) rfl (XT.ii_lt_t hc176) (by decide) (by decide) k)
      exact b189 T _ X eT N (.val (.int x0)) (Or.inr ⟨_, rfl, rfl⟩)
    · refine Eq.mp (congrArg (fun z => Ends p e below s 0 0 (Q1 Z  h0 n0 z) (T.setTop (mkF m 176 #[.val (.int x0)] [(.int (65536 : Int32)), (.int x0)]))) (show (F1_173 x0) = (F1_179 x0) from (if_neg hc176)).symm) ?_
      refine Ends.step (u' := (T.setTop (mkF m 179 #[.val (.int x0)] []))) ?_ (fun _ k => XS.icmpNo X.here hx rfl (hb hby d1_176) rfl (XT.ii_lt_f hc176) k)
      exact b179 T _ X eT N x0
  have b167 : ∀ (T : State) (L : List Loc) (X : Stand p l e ({ frames := 0, cells := 0, slots := 0, locals := 0 } : Room) s m #[(.int p0)] below meth c T L 0 0) (eT : T.heap = h0) (N : Fr n0 L) (x0 : Int32), Ends p e below s 0 0 (Q1 Z  h0 n0 (F1_167 x0)) (T.setTop (mkF m 167 #[.val (.int x0)] [])) := by
    intro T L X eT N x0
    refine Ends.step (u' := (T.setTop (mkF m 168 #[.val (.int x0)] [(.int x0)]))) ?_ (fun _ k => XS.iloadN X.here hx rfl (hb hby d1_167) rfl k)
    refine Ends.step (u' := (T.setTop (mkF m 170 #[.val (.int x0)] [(.int (65533 : Int32)), (.int x0)]))) ?_ (fun _ k => X.ldcI hx hown (mvT hZ (hw _ (List.mem_of_getElem? (i := 24) rfl))) rfl (hb hby d1_168) k)
    by_cases hc170 : (65533 : Int32) < x0
    · refine Eq.mp (congrArg (fun z => Ends p e below s 0 0 (Q1 Z  h0 n0 z) (T.setTop (mkF m 170 #[.val (.int x0)] [(.int (65533 : Int32)), (.int x0)]))) (show (F1_167 x0) = (F1_173 x0) from (if_pos hc170)).symm) ?_
      refine Ends.step (u' := (T.setTop (mkF m 173 #[.val (.int x0)] []))) ?_ (fun _ k => XS.icmpNo X.here hx rfl (hb hby d1_170) rfl (XT.ii_le_f hc170) k)
      exact b173 T _ X eT N x0
    · refine Eq.mp (congrArg (fun z => Ends p e below s 0 0 (Q1 Z  h0 n0 z) (T.setTop (mkF m 170 #[.val (.int x0)] [(.int (65533 : Int32)), (.int x0)]))) (show (F1_167 x0) = F1_185 from (if_neg hc170)).symm) ?_
      refine Ends.step (u' := (T.setTop (mkF m 185 #[.val (.int x0)] []))) ?_ (fun _ k => XS.icmpYes X.here hx rfl (pc0 := 170) (pc' := 185) rfl (hb hby d1_170) rfl (XT.ii_le_t hc170) (by decide) (by decide) k)
      exact b185 T _ X eT N (.val (.int x0)) (Or.inr ⟨_, rfl, rfl⟩)
  have b161 : ∀ (T : State) (L : List Loc) (X : Stand p l e ({ frames := 0, cells := 0, slots := 0, locals := 0 } : Room) s m #[(.int p0)] below meth c T L 0 0) (eT : T.heap = h0) (N : Fr n0 L) (x0 : Int32), Ends p e below s 0 0 (Q1 Z  h0 n0 (F1_161 x0)) (T.setTop (mkF m 161 #[.val (.int x0)] [])) := by
    intro T L X eT N x0
    refine Ends.step (u' := (T.setTop (mkF m 162 #[.val (.int x0)] [(.int x0)]))) ?_ (fun _ k => XS.iloadN X.here hx rfl (hb hby d1_161) rfl k)
    refine Ends.step (u' := (T.setTop (mkF m 164 #[.val (.int x0)] [(.int (65008 : Int32)), (.int x0)]))) ?_ (fun _ k => X.ldcI hx hown (mvT hZ (hw _ (List.mem_of_getElem? (i := 6) rfl))) rfl (hb hby d1_162) k)
    by_cases hc164 : x0 < (65008 : Int32)
    · refine Eq.mp (congrArg (fun z => Ends p e below s 0 0 (Q1 Z  h0 n0 z) (T.setTop (mkF m 164 #[.val (.int x0)] [(.int (65008 : Int32)), (.int x0)]))) (show (F1_161 x0) = (F1_173 x0) from (if_pos hc164)).symm) ?_
      refine Ends.step (u' := (T.setTop (mkF m 173 #[.val (.int x0)] []))) ?_ (fun _ k => XS.icmpYes X.here hx rfl (pc0 := 164) (pc' := 173) rfl (hb hby d1_164) rfl (XT.ii_lt_t hc164) (by decide) (by decide) k)
      exact b173 T _ X eT N x0
    · refine Eq.mp (congrArg (fun z => Ends p e below s 0 0 (Q1 Z  h0 n0 z) (T.setTop (mkF m 164 #[.val (.int x0)] [(.int (65008 : Int32)), (.int x0)]))) (show (F1_161 x0) = (F1_167 x0) from (if_neg hc164)).symm) ?_
      refine Ends.step (u' := (T.setTop (mkF m 167 #[.val (.int x0)] []))) ?_ (fun _ k => XS.icmpNo X.here hx rfl (hb hby d1_164) rfl (XT.ii_lt_f hc164) k)
      exact b167 T _ X eT N x0
  have b155 : ∀ (T : State) (L : List Loc) (X : Stand p l e ({ frames := 0, cells := 0, slots := 0, locals := 0 } : Room) s m #[(.int p0)] below meth c T L 0 0) (eT : T.heap = h0) (N : Fr n0 L) (x0 : Int32), Ends p e below s 0 0 (Q1 Z  h0 n0 (F1_155 x0)) (T.setTop (mkF m 155 #[.val (.int x0)] [])) := by
    intro T L X eT N x0
    refine Ends.step (u' := (T.setTop (mkF m 156 #[.val (.int x0)] [(.int x0)]))) ?_ (fun _ k => XS.iloadN X.here hx rfl (hb hby d1_155) rfl k)
    refine Ends.step (u' := (T.setTop (mkF m 158 #[.val (.int x0)] [(.int (64975 : Int32)), (.int x0)]))) ?_ (fun _ k => X.ldcI hx hown (mvT hZ (hw _ (List.mem_of_getElem? (i := 23) rfl))) rfl (hb hby d1_156) k)
    by_cases hc158 : (64975 : Int32) < x0
    · refine Eq.mp (congrArg (fun z => Ends p e below s 0 0 (Q1 Z  h0 n0 z) (T.setTop (mkF m 158 #[.val (.int x0)] [(.int (64975 : Int32)), (.int x0)]))) (show (F1_155 x0) = (F1_161 x0) from (if_pos hc158)).symm) ?_
      refine Ends.step (u' := (T.setTop (mkF m 161 #[.val (.int x0)] []))) ?_ (fun _ k => XS.icmpNo X.here hx rfl (hb hby d1_158) rfl (XT.ii_le_f hc158) k)
      exact b161 T _ X eT N x0
    · refine Eq.mp (congrArg (fun z => Ends p e below s 0 0 (Q1 Z  h0 n0 z) (T.setTop (mkF m 158 #[.val (.int x0)] [(.int (64975 : Int32)), (.int x0)]))) (show (F1_155 x0) = F1_185 from (if_neg hc158)).symm) ?_
      refine Ends.step (u' := (T.setTop (mkF m 185 #[.val (.int x0)] []))) ?_ (fun _ k => XS.icmpYes X.here hx rfl (pc0 := 158) (pc' := 185) rfl (hb hby d1_158) rfl (XT.ii_le_t hc158) (by decide) (by decide) k)
      exact b185 T _ X eT N (.val (.int x0)) (Or.inr ⟨_, rfl, rfl⟩)
  have b149 : ∀ (T : State) (L : List Loc) (X : Stand p l e ({ frames := 0, cells := 0, slots := 0, locals := 0 } : Room) s m #[(.int p0)] below meth c T L 0 0) (eT : T.heap = h0) (N : Fr n0 L) (x0 : Int32), Ends p e below s 0 0 (Q1 Z  h0 n0 (F1_149 x0)) (T.setTop (mkF m 149 #[.val (.int x0)] [])) := by
    intro T L X eT N x0
    refine Ends.step (u' := (T.setTop (mkF m 150 #[.val (.int x0)] [(.int x0)]))) ?_ (fun _ k => XS.iloadN X.here hx rfl (hb hby d1_149) rfl k)
    refine Ends.step (u' := (T.setTop (mkF m 152 #[.val (.int x0)] [(.int (63744 : Int32)), (.int x0)]))) ?_ (fun _ k => X.ldcI hx hown (mvT hZ (hw _ (List.mem_of_getElem? (i := 5) rfl))) rfl (hb hby d1_150) k)
    by_cases hc152 : x0 < (63744 : Int32)
    · refine Eq.mp (congrArg (fun z => Ends p e below s 0 0 (Q1 Z  h0 n0 z) (T.setTop (mkF m 152 #[.val (.int x0)] [(.int (63744 : Int32)), (.int x0)]))) (show (F1_149 x0) = (F1_161 x0) from (if_pos hc152)).symm) ?_
      refine Ends.step (u' := (T.setTop (mkF m 161 #[.val (.int x0)] []))) ?_ (fun _ k => XS.icmpYes X.here hx rfl (pc0 := 152) (pc' := 161) rfl (hb hby d1_152) rfl (XT.ii_lt_t hc152) (by decide) (by decide) k)
      exact b161 T _ X eT N x0
    · refine Eq.mp (congrArg (fun z => Ends p e below s 0 0 (Q1 Z  h0 n0 z) (T.setTop (mkF m 152 #[.val (.int x0)] [(.int (63744 : Int32)), (.int x0)]))) (show (F1_149 x0) = (F1_155 x0) from (if_neg hc152)).symm) ?_
      refine Ends.step (u' := (T.setTop (mkF m 155 #[.val (.int x0)] []))) ?_ (fun _ k => XS.icmpNo X.here hx rfl (hb hby d1_152) rfl (XT.ii_lt_f hc152) k)
      exact b155 T _ X eT N x0
  have b143 : ∀ (T : State) (L : List Loc) (X : Stand p l e ({ frames := 0, cells := 0, slots := 0, locals := 0 } : Room) s m #[(.int p0)] below meth c T L 0 0) (eT : T.heap = h0) (N : Fr n0 L) (x0 : Int32), Ends p e below s 0 0 (Q1 Z  h0 n0 (F1_143 x0)) (T.setTop (mkF m 143 #[.val (.int x0)] [])) := by
    intro T L X eT N x0
    refine Ends.step (u' := (T.setTop (mkF m 144 #[.val (.int x0)] [(.int x0)]))) ?_ (fun _ k => XS.iloadN X.here hx rfl (hb hby d1_143) rfl k)
    refine Ends.step (u' := (T.setTop (mkF m 146 #[.val (.int x0)] [(.int (55295 : Int32)), (.int x0)]))) ?_ (fun _ k => X.ldcI hx hown (mvT hZ (hw _ (List.mem_of_getElem? (i := 22) rfl))) rfl (hb hby d1_144) k)
    by_cases hc146 : (55295 : Int32) < x0
    · refine Eq.mp (congrArg (fun z => Ends p e below s 0 0 (Q1 Z  h0 n0 z) (T.setTop (mkF m 146 #[.val (.int x0)] [(.int (55295 : Int32)), (.int x0)]))) (show (F1_143 x0) = (F1_149 x0) from (if_pos hc146)).symm) ?_
      refine Ends.step (u' := (T.setTop (mkF m 149 #[.val (.int x0)] []))) ?_ (fun _ k => XS.icmpNo X.here hx rfl (hb hby d1_146) rfl (XT.ii_le_f hc146) k)
      exact b149 T _ X eT N x0
    · refine Eq.mp (congrArg (fun z => Ends p e below s 0 0 (Q1 Z  h0 n0 z) (T.setTop (mkF m 146 #[.val (.int x0)] [(.int (55295 : Int32)), (.int x0)]))) (show (F1_143 x0) = F1_185 from (if_neg hc146)).symm) ?_
      refine Ends.step (u' := (T.setTop (mkF m 185 #[.val (.int x0)] []))) ?_ (fun _ k => XS.icmpYes X.here hx rfl (pc0 := 146) (pc' := 185) rfl (hb hby d1_146) rfl (XT.ii_le_t hc146) (by decide) (by decide) k)
      exact b185 T _ X eT N (.val (.int x0)) (Or.inr ⟨_, rfl, rfl⟩)
  have b136 : ∀ (T : State) (L : List Loc) (X : Stand p l e ({ frames := 0, cells := 0, slots := 0, locals := 0 } : Room) s m #[(.int p0)] below meth c T L 0 0) (eT : T.heap = h0) (N : Fr n0 L) (x0 : Int32), Ends p e below s 0 0 (Q1 Z  h0 n0 (F1_136 x0)) (T.setTop (mkF m 136 #[.val (.int x0)] [])) := by
    intro T L X eT N x0
    refine Ends.step (u' := (T.setTop (mkF m 137 #[.val (.int x0)] [(.int x0)]))) ?_ (fun _ k => XS.iloadN X.here hx rfl (hb hby d1_136) rfl k)
    refine Ends.step (u' := (T.setTop (mkF m 140 #[.val (.int x0)] [(.int (12289 : Int32)), (.int x0)]))) ?_ (fun _ k => XT.sipushV X.here hx rfl (12289 : Int32) (hb hby d1_137) rfl k)
    by_cases hc140 : x0 < (12289 : Int32)
    · refine Eq.mp (congrArg (fun z => Ends p e below s 0 0 (Q1 Z  h0 n0 z) (T.setTop (mkF m 140 #[.val (.int x0)] [(.int (12289 : Int32)), (.int x0)]))) (show (F1_136 x0) = (F1_149 x0) from (if_pos hc140)).symm) ?_
      refine Ends.step (u' := (T.setTop (mkF m 149 #[.val (.int x0)] []))) ?_ (fun _ k => XS.icmpYes X.here hx rfl (pc0 := 140) (pc' := 149) rfl (hb hby d1_140) rfl (XT.ii_lt_t hc140) (by decide) (by decide) k)
      exact b149 T _ X eT N x0
    · refine Eq.mp (congrArg (fun z => Ends p e below s 0 0 (Q1 Z  h0 n0 z) (T.setTop (mkF m 140 #[.val (.int x0)] [(.int (12289 : Int32)), (.int x0)]))) (show (F1_136 x0) = (F1_143 x0) from (if_neg hc140)).symm) ?_
      refine Ends.step (u' := (T.setTop (mkF m 143 #[.val (.int x0)] []))) ?_ (fun _ k => XS.icmpNo X.here hx rfl (hb hby d1_140) rfl (XT.ii_lt_f hc140) k)
      exact b143 T _ X eT N x0
  have b129 : ∀ (T : State) (L : List Loc) (X : Stand p l e ({ frames := 0, cells := 0, slots := 0, locals := 0 } : Room) s m #[(.int p0)] below meth c T L 0 0) (eT : T.heap = h0) (N : Fr n0 L) (x0 : Int32), Ends p e below s 0 0 (Q1 Z  h0 n0 (F1_129 x0)) (T.setTop (mkF m 129 #[.val (.int x0)] [])) := by
    intro T L X eT N x0
    refine Ends.step (u' := (T.setTop (mkF m 130 #[.val (.int x0)] [(.int x0)]))) ?_ (fun _ k => XS.iloadN X.here hx rfl (hb hby d1_129) rfl k)
    refine Ends.step (u' := (T.setTop (mkF m 133 #[.val (.int x0)] [(.int (12271 : Int32)), (.int x0)]))) ?_ (fun _ k => XT.sipushV X.here hx rfl (12271 : Int32) (hb hby d1_130) rfl k)
    by_cases hc133 : (12271 : Int32) < x0
    · refine Eq.mp (congrArg (fun z => Ends p e below s 0 0 (Q1 Z  h0 n0 z) (T.setTop (mkF m 133 #[.val (.int x0)] [(.int (12271 : Int32)), (.int x0)]))) (show (F1_129 x0) = (F1_136 x0) from (if_pos hc133)).symm) ?_
      refine Ends.step (u' := (T.setTop (mkF m 136 #[.val (.int x0)] []))) ?_ (fun _ k => XS.icmpNo X.here hx rfl (hb hby d1_133) rfl (XT.ii_le_f hc133) k)
      exact b136 T _ X eT N x0
    · refine Eq.mp (congrArg (fun z => Ends p e below s 0 0 (Q1 Z  h0 n0 z) (T.setTop (mkF m 133 #[.val (.int x0)] [(.int (12271 : Int32)), (.int x0)]))) (show (F1_129 x0) = F1_185 from (if_neg hc133)).symm) ?_
      refine Ends.step (u' := (T.setTop (mkF m 185 #[.val (.int x0)] []))) ?_ (fun _ k => XS.icmpYes X.here hx rfl (pc0 := 133) (pc' := 185) rfl (hb hby d1_133) rfl (XT.ii_le_t hc133) (by decide) (by decide) k)
      exact b185 T _ X eT N (.val (.int x0)) (Or.inr ⟨_, rfl, rfl⟩)
  have b122 : ∀ (T : State) (L : List Loc) (X : Stand p l e ({ frames := 0, cells := 0, slots := 0, locals := 0 } : Room) s m #[(.int p0)] below meth c T L 0 0) (eT : T.heap = h0) (N : Fr n0 L) (x0 : Int32), Ends p e below s 0 0 (Q1 Z  h0 n0 (F1_122 x0)) (T.setTop (mkF m 122 #[.val (.int x0)] [])) := by
    intro T L X eT N x0
    refine Ends.step (u' := (T.setTop (mkF m 123 #[.val (.int x0)] [(.int x0)]))) ?_ (fun _ k => XS.iloadN X.here hx rfl (hb hby d1_122) rfl k)
    refine Ends.step (u' := (T.setTop (mkF m 126 #[.val (.int x0)] [(.int (11264 : Int32)), (.int x0)]))) ?_ (fun _ k => XT.sipushV X.here hx rfl (11264 : Int32) (hb hby d1_123) rfl k)
    by_cases hc126 : x0 < (11264 : Int32)
    · refine Eq.mp (congrArg (fun z => Ends p e below s 0 0 (Q1 Z  h0 n0 z) (T.setTop (mkF m 126 #[.val (.int x0)] [(.int (11264 : Int32)), (.int x0)]))) (show (F1_122 x0) = (F1_136 x0) from (if_pos hc126)).symm) ?_
      refine Ends.step (u' := (T.setTop (mkF m 136 #[.val (.int x0)] []))) ?_ (fun _ k => XS.icmpYes X.here hx rfl (pc0 := 126) (pc' := 136) rfl (hb hby d1_126) rfl (XT.ii_lt_t hc126) (by decide) (by decide) k)
      exact b136 T _ X eT N x0
    · refine Eq.mp (congrArg (fun z => Ends p e below s 0 0 (Q1 Z  h0 n0 z) (T.setTop (mkF m 126 #[.val (.int x0)] [(.int (11264 : Int32)), (.int x0)]))) (show (F1_122 x0) = (F1_129 x0) from (if_neg hc126)).symm) ?_
      refine Ends.step (u' := (T.setTop (mkF m 129 #[.val (.int x0)] []))) ?_ (fun _ k => XS.icmpNo X.here hx rfl (hb hby d1_126) rfl (XT.ii_lt_f hc126) k)
      exact b129 T _ X eT N x0
  have b115 : ∀ (T : State) (L : List Loc) (X : Stand p l e ({ frames := 0, cells := 0, slots := 0, locals := 0 } : Room) s m #[(.int p0)] below meth c T L 0 0) (eT : T.heap = h0) (N : Fr n0 L) (x0 : Int32), Ends p e below s 0 0 (Q1 Z  h0 n0 (F1_115 x0)) (T.setTop (mkF m 115 #[.val (.int x0)] [])) := by
    intro T L X eT N x0
    refine Ends.step (u' := (T.setTop (mkF m 116 #[.val (.int x0)] [(.int x0)]))) ?_ (fun _ k => XS.iloadN X.here hx rfl (hb hby d1_115) rfl k)
    refine Ends.step (u' := (T.setTop (mkF m 119 #[.val (.int x0)] [(.int (8591 : Int32)), (.int x0)]))) ?_ (fun _ k => XT.sipushV X.here hx rfl (8591 : Int32) (hb hby d1_116) rfl k)
    by_cases hc119 : (8591 : Int32) < x0
    · refine Eq.mp (congrArg (fun z => Ends p e below s 0 0 (Q1 Z  h0 n0 z) (T.setTop (mkF m 119 #[.val (.int x0)] [(.int (8591 : Int32)), (.int x0)]))) (show (F1_115 x0) = (F1_122 x0) from (if_pos hc119)).symm) ?_
      refine Ends.step (u' := (T.setTop (mkF m 122 #[.val (.int x0)] []))) ?_ (fun _ k => XS.icmpNo X.here hx rfl (hb hby d1_119) rfl (XT.ii_le_f hc119) k)
      exact b122 T _ X eT N x0
    · refine Eq.mp (congrArg (fun z => Ends p e below s 0 0 (Q1 Z  h0 n0 z) (T.setTop (mkF m 119 #[.val (.int x0)] [(.int (8591 : Int32)), (.int x0)]))) (show (F1_115 x0) = F1_185 from (if_neg hc119)).symm) ?_
      refine Ends.step (u' := (T.setTop (mkF m 185 #[.val (.int x0)] []))) ?_ (fun _ k => XS.icmpYes X.here hx rfl (pc0 := 119) (pc' := 185) rfl (hb hby d1_119) rfl (XT.ii_le_t hc119) (by decide) (by decide) k)
      exact b185 T _ X eT N (.val (.int x0)) (Or.inr ⟨_, rfl, rfl⟩)
  have b108 : ∀ (T : State) (L : List Loc) (X : Stand p l e ({ frames := 0, cells := 0, slots := 0, locals := 0 } : Room) s m #[(.int p0)] below meth c T L 0 0) (eT : T.heap = h0) (N : Fr n0 L) (x0 : Int32), Ends p e below s 0 0 (Q1 Z  h0 n0 (F1_108 x0)) (T.setTop (mkF m 108 #[.val (.int x0)] [])) := by
    intro T L X eT N x0
    refine Ends.step (u' := (T.setTop (mkF m 109 #[.val (.int x0)] [(.int x0)]))) ?_ (fun _ k => XS.iloadN X.here hx rfl (hb hby d1_108) rfl k)
    refine Ends.step (u' := (T.setTop (mkF m 112 #[.val (.int x0)] [(.int (8304 : Int32)), (.int x0)]))) ?_ (fun _ k => XT.sipushV X.here hx rfl (8304 : Int32) (hb hby d1_109) rfl k)
    by_cases hc112 : x0 < (8304 : Int32)
    · refine Eq.mp (congrArg (fun z => Ends p e below s 0 0 (Q1 Z  h0 n0 z) (T.setTop (mkF m 112 #[.val (.int x0)] [(.int (8304 : Int32)), (.int x0)]))) (show (F1_108 x0) = (F1_122 x0) from (if_pos hc112)).symm) ?_
      refine Ends.step (u' := (T.setTop (mkF m 122 #[.val (.int x0)] []))) ?_ (fun _ k => XS.icmpYes X.here hx rfl (pc0 := 112) (pc' := 122) rfl (hb hby d1_112) rfl (XT.ii_lt_t hc112) (by decide) (by decide) k)
      exact b122 T _ X eT N x0
    · refine Eq.mp (congrArg (fun z => Ends p e below s 0 0 (Q1 Z  h0 n0 z) (T.setTop (mkF m 112 #[.val (.int x0)] [(.int (8304 : Int32)), (.int x0)]))) (show (F1_108 x0) = (F1_115 x0) from (if_neg hc112)).symm) ?_
      refine Ends.step (u' := (T.setTop (mkF m 115 #[.val (.int x0)] []))) ?_ (fun _ k => XS.icmpNo X.here hx rfl (hb hby d1_112) rfl (XT.ii_lt_f hc112) k)
      exact b115 T _ X eT N x0
  have b101 : ∀ (T : State) (L : List Loc) (X : Stand p l e ({ frames := 0, cells := 0, slots := 0, locals := 0 } : Room) s m #[(.int p0)] below meth c T L 0 0) (eT : T.heap = h0) (N : Fr n0 L) (x0 : Int32), Ends p e below s 0 0 (Q1 Z  h0 n0 (F1_101 x0)) (T.setTop (mkF m 101 #[.val (.int x0)] [])) := by
    intro T L X eT N x0
    refine Ends.step (u' := (T.setTop (mkF m 102 #[.val (.int x0)] [(.int x0)]))) ?_ (fun _ k => XS.iloadN X.here hx rfl (hb hby d1_101) rfl k)
    refine Ends.step (u' := (T.setTop (mkF m 105 #[.val (.int x0)] [(.int (8205 : Int32)), (.int x0)]))) ?_ (fun _ k => XT.sipushV X.here hx rfl (8205 : Int32) (hb hby d1_102) rfl k)
    by_cases hc105 : (8205 : Int32) < x0
    · refine Eq.mp (congrArg (fun z => Ends p e below s 0 0 (Q1 Z  h0 n0 z) (T.setTop (mkF m 105 #[.val (.int x0)] [(.int (8205 : Int32)), (.int x0)]))) (show (F1_101 x0) = (F1_108 x0) from (if_pos hc105)).symm) ?_
      refine Ends.step (u' := (T.setTop (mkF m 108 #[.val (.int x0)] []))) ?_ (fun _ k => XS.icmpNo X.here hx rfl (hb hby d1_105) rfl (XT.ii_le_f hc105) k)
      exact b108 T _ X eT N x0
    · refine Eq.mp (congrArg (fun z => Ends p e below s 0 0 (Q1 Z  h0 n0 z) (T.setTop (mkF m 105 #[.val (.int x0)] [(.int (8205 : Int32)), (.int x0)]))) (show (F1_101 x0) = F1_185 from (if_neg hc105)).symm) ?_
      refine Ends.step (u' := (T.setTop (mkF m 185 #[.val (.int x0)] []))) ?_ (fun _ k => XS.icmpYes X.here hx rfl (pc0 := 105) (pc' := 185) rfl (hb hby d1_105) rfl (XT.ii_le_t hc105) (by decide) (by decide) k)
      exact b185 T _ X eT N (.val (.int x0)) (Or.inr ⟨_, rfl, rfl⟩)
  have b94 : ∀ (T : State) (L : List Loc) (X : Stand p l e ({ frames := 0, cells := 0, slots := 0, locals := 0 } : Room) s m #[(.int p0)] below meth c T L 0 0) (eT : T.heap = h0) (N : Fr n0 L) (x0 : Int32), Ends p e below s 0 0 (Q1 Z  h0 n0 (F1_94 x0)) (T.setTop (mkF m 94 #[.val (.int x0)] [])) := by
    intro T L X eT N x0
    refine Ends.step (u' := (T.setTop (mkF m 95 #[.val (.int x0)] [(.int x0)]))) ?_ (fun _ k => XS.iloadN X.here hx rfl (hb hby d1_94) rfl k)
    refine Ends.step (u' := (T.setTop (mkF m 98 #[.val (.int x0)] [(.int (8204 : Int32)), (.int x0)]))) ?_ (fun _ k => XT.sipushV X.here hx rfl (8204 : Int32) (hb hby d1_95) rfl k)
    by_cases hc98 : x0 < (8204 : Int32)
    · refine Eq.mp (congrArg (fun z => Ends p e below s 0 0 (Q1 Z  h0 n0 z) (T.setTop (mkF m 98 #[.val (.int x0)] [(.int (8204 : Int32)), (.int x0)]))) (show (F1_94 x0) = (F1_108 x0) from (if_pos hc98)).symm) ?_
      refine Ends.step (u' := (T.setTop (mkF m 108 #[.val (.int x0)] []))) ?_ (fun _ k => XS.icmpYes X.here hx rfl (pc0 := 98) (pc' := 108) rfl (hb hby d1_98) rfl (XT.ii_lt_t hc98) (by decide) (by decide) k)
      exact b108 T _ X eT N x0
    · refine Eq.mp (congrArg (fun z => Ends p e below s 0 0 (Q1 Z  h0 n0 z) (T.setTop (mkF m 98 #[.val (.int x0)] [(.int (8204 : Int32)), (.int x0)]))) (show (F1_94 x0) = (F1_101 x0) from (if_neg hc98)).symm) ?_
      refine Ends.step (u' := (T.setTop (mkF m 101 #[.val (.int x0)] []))) ?_ (fun _ k => XS.icmpNo X.here hx rfl (hb hby d1_98) rfl (XT.ii_lt_f hc98) k)
      exact b101 T _ X eT N x0
  have b87 : ∀ (T : State) (L : List Loc) (X : Stand p l e ({ frames := 0, cells := 0, slots := 0, locals := 0 } : Room) s m #[(.int p0)] below meth c T L 0 0) (eT : T.heap = h0) (N : Fr n0 L) (x0 : Int32), Ends p e below s 0 0 (Q1 Z  h0 n0 (F1_87 x0)) (T.setTop (mkF m 87 #[.val (.int x0)] [])) := by
    intro T L X eT N x0
    refine Ends.step (u' := (T.setTop (mkF m 88 #[.val (.int x0)] [(.int x0)]))) ?_ (fun _ k => XS.iloadN X.here hx rfl (hb hby d1_87) rfl k)
    refine Ends.step (u' := (T.setTop (mkF m 91 #[.val (.int x0)] [(.int (8191 : Int32)), (.int x0)]))) ?_ (fun _ k => XT.sipushV X.here hx rfl (8191 : Int32) (hb hby d1_88) rfl k)
    by_cases hc91 : (8191 : Int32) < x0
    · refine Eq.mp (congrArg (fun z => Ends p e below s 0 0 (Q1 Z  h0 n0 z) (T.setTop (mkF m 91 #[.val (.int x0)] [(.int (8191 : Int32)), (.int x0)]))) (show (F1_87 x0) = (F1_94 x0) from (if_pos hc91)).symm) ?_
      refine Ends.step (u' := (T.setTop (mkF m 94 #[.val (.int x0)] []))) ?_ (fun _ k => XS.icmpNo X.here hx rfl (hb hby d1_91) rfl (XT.ii_le_f hc91) k)
      exact b94 T _ X eT N x0
    · refine Eq.mp (congrArg (fun z => Ends p e below s 0 0 (Q1 Z  h0 n0 z) (T.setTop (mkF m 91 #[.val (.int x0)] [(.int (8191 : Int32)), (.int x0)]))) (show (F1_87 x0) = F1_185 from (if_neg hc91)).symm) ?_
      refine Ends.step (u' := (T.setTop (mkF m 185 #[.val (.int x0)] []))) ?_ (fun _ k => XS.icmpYes X.here hx rfl (pc0 := 91) (pc' := 185) rfl (hb hby d1_91) rfl (XT.ii_le_t hc91) (by decide) (by decide) k)
      exact b185 T _ X eT N (.val (.int x0)) (Or.inr ⟨_, rfl, rfl⟩)
  have b80 : ∀ (T : State) (L : List Loc) (X : Stand p l e ({ frames := 0, cells := 0, slots := 0, locals := 0 } : Room) s m #[(.int p0)] below meth c T L 0 0) (eT : T.heap = h0) (N : Fr n0 L) (x0 : Int32), Ends p e below s 0 0 (Q1 Z  h0 n0 (F1_80 x0)) (T.setTop (mkF m 80 #[.val (.int x0)] [])) := by
    intro T L X eT N x0
    refine Ends.step (u' := (T.setTop (mkF m 81 #[.val (.int x0)] [(.int x0)]))) ?_ (fun _ k => XS.iloadN X.here hx rfl (hb hby d1_80) rfl k)
    refine Ends.step (u' := (T.setTop (mkF m 84 #[.val (.int x0)] [(.int (895 : Int32)), (.int x0)]))) ?_ (fun _ k => XT.sipushV X.here hx rfl (895 : Int32) (hb hby d1_81) rfl k)
    by_cases hc84 : x0 < (895 : Int32)
    · refine Eq.mp (congrArg (fun z => Ends p e below s 0 0 (Q1 Z  h0 n0 z) (T.setTop (mkF m 84 #[.val (.int x0)] [(.int (895 : Int32)), (.int x0)]))) (show (F1_80 x0) = (F1_94 x0) from (if_pos hc84)).symm) ?_
      refine Ends.step (u' := (T.setTop (mkF m 94 #[.val (.int x0)] []))) ?_ (fun _ k => XS.icmpYes X.here hx rfl (pc0 := 84) (pc' := 94) rfl (hb hby d1_84) rfl (XT.ii_lt_t hc84) (by decide) (by decide) k)
      exact b94 T _ X eT N x0
    · refine Eq.mp (congrArg (fun z => Ends p e below s 0 0 (Q1 Z  h0 n0 z) (T.setTop (mkF m 84 #[.val (.int x0)] [(.int (895 : Int32)), (.int x0)]))) (show (F1_80 x0) = (F1_87 x0) from (if_neg hc84)).symm) ?_
      refine Ends.step (u' := (T.setTop (mkF m 87 #[.val (.int x0)] []))) ?_ (fun _ k => XS.icmpNo X.here hx rfl (hb hby d1_84) rfl (XT.ii_lt_f hc84) k)
      exact b87 T _ X eT N x0
  have b73 : ∀ (T : State) (L : List Loc) (X : Stand p l e ({ frames := 0, cells := 0, slots := 0, locals := 0 } : Room) s m #[(.int p0)] below meth c T L 0 0) (eT : T.heap = h0) (N : Fr n0 L) (x0 : Int32), Ends p e below s 0 0 (Q1 Z  h0 n0 (F1_73 x0)) (T.setTop (mkF m 73 #[.val (.int x0)] [])) := by
    intro T L X eT N x0
    refine Ends.step (u' := (T.setTop (mkF m 74 #[.val (.int x0)] [(.int x0)]))) ?_ (fun _ k => XS.iloadN X.here hx rfl (hb hby d1_73) rfl k)
    refine Ends.step (u' := (T.setTop (mkF m 77 #[.val (.int x0)] [(.int (893 : Int32)), (.int x0)]))) ?_ (fun _ k => XT.sipushV X.here hx rfl (893 : Int32) (hb hby d1_74) rfl k)
    by_cases hc77 : (893 : Int32) < x0
    · refine Eq.mp (congrArg (fun z => Ends p e below s 0 0 (Q1 Z  h0 n0 z) (T.setTop (mkF m 77 #[.val (.int x0)] [(.int (893 : Int32)), (.int x0)]))) (show (F1_73 x0) = (F1_80 x0) from (if_pos hc77)).symm) ?_
      refine Ends.step (u' := (T.setTop (mkF m 80 #[.val (.int x0)] []))) ?_ (fun _ k => XS.icmpNo X.here hx rfl (hb hby d1_77) rfl (XT.ii_le_f hc77) k)
      exact b80 T _ X eT N x0
    · refine Eq.mp (congrArg (fun z => Ends p e below s 0 0 (Q1 Z  h0 n0 z) (T.setTop (mkF m 77 #[.val (.int x0)] [(.int (893 : Int32)), (.int x0)]))) (show (F1_73 x0) = F1_185 from (if_neg hc77)).symm) ?_
      refine Ends.step (u' := (T.setTop (mkF m 185 #[.val (.int x0)] []))) ?_ (fun _ k => XS.icmpYes X.here hx rfl (pc0 := 77) (pc' := 185) rfl (hb hby d1_77) rfl (XT.ii_le_t hc77) (by decide) (by decide) k)
      exact b185 T _ X eT N (.val (.int x0)) (Or.inr ⟨_, rfl, rfl⟩)
  have b66 : ∀ (T : State) (L : List Loc) (X : Stand p l e ({ frames := 0, cells := 0, slots := 0, locals := 0 } : Room) s m #[(.int p0)] below meth c T L 0 0) (eT : T.heap = h0) (N : Fr n0 L) (x0 : Int32), Ends p e below s 0 0 (Q1 Z  h0 n0 (F1_66 x0)) (T.setTop (mkF m 66 #[.val (.int x0)] [])) := by
    intro T L X eT N x0
    refine Ends.step (u' := (T.setTop (mkF m 67 #[.val (.int x0)] [(.int x0)]))) ?_ (fun _ k => XS.iloadN X.here hx rfl (hb hby d1_66) rfl k)
    refine Ends.step (u' := (T.setTop (mkF m 70 #[.val (.int x0)] [(.int (880 : Int32)), (.int x0)]))) ?_ (fun _ k => XT.sipushV X.here hx rfl (880 : Int32) (hb hby d1_67) rfl k)
    by_cases hc70 : x0 < (880 : Int32)
    · refine Eq.mp (congrArg (fun z => Ends p e below s 0 0 (Q1 Z  h0 n0 z) (T.setTop (mkF m 70 #[.val (.int x0)] [(.int (880 : Int32)), (.int x0)]))) (show (F1_66 x0) = (F1_80 x0) from (if_pos hc70)).symm) ?_
      refine Ends.step (u' := (T.setTop (mkF m 80 #[.val (.int x0)] []))) ?_ (fun _ k => XS.icmpYes X.here hx rfl (pc0 := 70) (pc' := 80) rfl (hb hby d1_70) rfl (XT.ii_lt_t hc70) (by decide) (by decide) k)
      exact b80 T _ X eT N x0
    · refine Eq.mp (congrArg (fun z => Ends p e below s 0 0 (Q1 Z  h0 n0 z) (T.setTop (mkF m 70 #[.val (.int x0)] [(.int (880 : Int32)), (.int x0)]))) (show (F1_66 x0) = (F1_73 x0) from (if_neg hc70)).symm) ?_
      refine Ends.step (u' := (T.setTop (mkF m 73 #[.val (.int x0)] []))) ?_ (fun _ k => XS.icmpNo X.here hx rfl (hb hby d1_70) rfl (XT.ii_lt_f hc70) k)
      exact b73 T _ X eT N x0
  have b59 : ∀ (T : State) (L : List Loc) (X : Stand p l e ({ frames := 0, cells := 0, slots := 0, locals := 0 } : Room) s m #[(.int p0)] below meth c T L 0 0) (eT : T.heap = h0) (N : Fr n0 L) (x0 : Int32), Ends p e below s 0 0 (Q1 Z  h0 n0 (F1_59 x0)) (T.setTop (mkF m 59 #[.val (.int x0)] [])) := by
    intro T L X eT N x0
    refine Ends.step (u' := (T.setTop (mkF m 60 #[.val (.int x0)] [(.int x0)]))) ?_ (fun _ k => XS.iloadN X.here hx rfl (hb hby d1_59) rfl k)
    refine Ends.step (u' := (T.setTop (mkF m 63 #[.val (.int x0)] [(.int (767 : Int32)), (.int x0)]))) ?_ (fun _ k => XT.sipushV X.here hx rfl (767 : Int32) (hb hby d1_60) rfl k)
    by_cases hc63 : (767 : Int32) < x0
    · refine Eq.mp (congrArg (fun z => Ends p e below s 0 0 (Q1 Z  h0 n0 z) (T.setTop (mkF m 63 #[.val (.int x0)] [(.int (767 : Int32)), (.int x0)]))) (show (F1_59 x0) = (F1_66 x0) from (if_pos hc63)).symm) ?_
      refine Ends.step (u' := (T.setTop (mkF m 66 #[.val (.int x0)] []))) ?_ (fun _ k => XS.icmpNo X.here hx rfl (hb hby d1_63) rfl (XT.ii_le_f hc63) k)
      exact b66 T _ X eT N x0
    · refine Eq.mp (congrArg (fun z => Ends p e below s 0 0 (Q1 Z  h0 n0 z) (T.setTop (mkF m 63 #[.val (.int x0)] [(.int (767 : Int32)), (.int x0)]))) (show (F1_59 x0) = F1_185 from (if_neg hc63)).symm) ?_
      refine Ends.step (u' := (T.setTop (mkF m 185 #[.val (.int x0)] []))) ?_ (fun _ k => XS.icmpYes X.here hx rfl (pc0 := 63) (pc' := 185) rfl (hb hby d1_63) rfl (XT.ii_le_t hc63) (by decide) (by decide) k)
      exact b185 T _ X eT N (.val (.int x0)) (Or.inr ⟨_, rfl, rfl⟩)
  have b52 : ∀ (T : State) (L : List Loc) (X : Stand p l e ({ frames := 0, cells := 0, slots := 0, locals := 0 } : Room) s m #[(.int p0)] below meth c T L 0 0) (eT : T.heap = h0) (N : Fr n0 L) (x0 : Int32), Ends p e below s 0 0 (Q1 Z  h0 n0 (F1_52 x0)) (T.setTop (mkF m 52 #[.val (.int x0)] [])) := by
    intro T L X eT N x0
    refine Ends.step (u' := (T.setTop (mkF m 53 #[.val (.int x0)] [(.int x0)]))) ?_ (fun _ k => XS.iloadN X.here hx rfl (hb hby d1_52) rfl k)
    refine Ends.step (u' := (T.setTop (mkF m 56 #[.val (.int x0)] [(.int (248 : Int32)), (.int x0)]))) ?_ (fun _ k => XT.sipushV X.here hx rfl (248 : Int32) (hb hby d1_53) rfl k)
    by_cases hc56 : x0 < (248 : Int32)
    · refine Eq.mp (congrArg (fun z => Ends p e below s 0 0 (Q1 Z  h0 n0 z) (T.setTop (mkF m 56 #[.val (.int x0)] [(.int (248 : Int32)), (.int x0)]))) (show (F1_52 x0) = (F1_66 x0) from (if_pos hc56)).symm) ?_
      refine Ends.step (u' := (T.setTop (mkF m 66 #[.val (.int x0)] []))) ?_ (fun _ k => XS.icmpYes X.here hx rfl (pc0 := 56) (pc' := 66) rfl (hb hby d1_56) rfl (XT.ii_lt_t hc56) (by decide) (by decide) k)
      exact b66 T _ X eT N x0
    · refine Eq.mp (congrArg (fun z => Ends p e below s 0 0 (Q1 Z  h0 n0 z) (T.setTop (mkF m 56 #[.val (.int x0)] [(.int (248 : Int32)), (.int x0)]))) (show (F1_52 x0) = (F1_59 x0) from (if_neg hc56)).symm) ?_
      refine Ends.step (u' := (T.setTop (mkF m 59 #[.val (.int x0)] []))) ?_ (fun _ k => XS.icmpNo X.here hx rfl (hb hby d1_56) rfl (XT.ii_lt_f hc56) k)
      exact b59 T _ X eT N x0
  have b45 : ∀ (T : State) (L : List Loc) (X : Stand p l e ({ frames := 0, cells := 0, slots := 0, locals := 0 } : Room) s m #[(.int p0)] below meth c T L 0 0) (eT : T.heap = h0) (N : Fr n0 L) (x0 : Int32), Ends p e below s 0 0 (Q1 Z  h0 n0 (F1_45 x0)) (T.setTop (mkF m 45 #[.val (.int x0)] [])) := by
    intro T L X eT N x0
    refine Ends.step (u' := (T.setTop (mkF m 46 #[.val (.int x0)] [(.int x0)]))) ?_ (fun _ k => XS.iloadN X.here hx rfl (hb hby d1_45) rfl k)
    refine Ends.step (u' := (T.setTop (mkF m 49 #[.val (.int x0)] [(.int (246 : Int32)), (.int x0)]))) ?_ (fun _ k => XT.sipushV X.here hx rfl (246 : Int32) (hb hby d1_46) rfl k)
    by_cases hc49 : (246 : Int32) < x0
    · refine Eq.mp (congrArg (fun z => Ends p e below s 0 0 (Q1 Z  h0 n0 z) (T.setTop (mkF m 49 #[.val (.int x0)] [(.int (246 : Int32)), (.int x0)]))) (show (F1_45 x0) = (F1_52 x0) from (if_pos hc49)).symm) ?_
      refine Ends.step (u' := (T.setTop (mkF m 52 #[.val (.int x0)] []))) ?_ (fun _ k => XS.icmpNo X.here hx rfl (hb hby d1_49) rfl (XT.ii_le_f hc49) k)
      exact b52 T _ X eT N x0
    · refine Eq.mp (congrArg (fun z => Ends p e below s 0 0 (Q1 Z  h0 n0 z) (T.setTop (mkF m 49 #[.val (.int x0)] [(.int (246 : Int32)), (.int x0)]))) (show (F1_45 x0) = F1_185 from (if_neg hc49)).symm) ?_
      refine Ends.step (u' := (T.setTop (mkF m 185 #[.val (.int x0)] []))) ?_ (fun _ k => XS.icmpYes X.here hx rfl (pc0 := 49) (pc' := 185) rfl (hb hby d1_49) rfl (XT.ii_le_t hc49) (by decide) (by decide) k)
      exact b185 T _ X eT N (.val (.int x0)) (Or.inr ⟨_, rfl, rfl⟩)
  have b38 : ∀ (T : State) (L : List Loc) (X : Stand p l e ({ frames := 0, cells := 0, slots := 0, locals := 0 } : Room) s m #[(.int p0)] below meth c T L 0 0) (eT : T.heap = h0) (N : Fr n0 L) (x0 : Int32), Ends p e below s 0 0 (Q1 Z  h0 n0 (F1_38 x0)) (T.setTop (mkF m 38 #[.val (.int x0)] [])) := by
    intro T L X eT N x0
    refine Ends.step (u' := (T.setTop (mkF m 39 #[.val (.int x0)] [(.int x0)]))) ?_ (fun _ k => XS.iloadN X.here hx rfl (hb hby d1_38) rfl k)
    refine Ends.step (u' := (T.setTop (mkF m 42 #[.val (.int x0)] [(.int (216 : Int32)), (.int x0)]))) ?_ (fun _ k => XT.sipushV X.here hx rfl (216 : Int32) (hb hby d1_39) rfl k)
    by_cases hc42 : x0 < (216 : Int32)
    · refine Eq.mp (congrArg (fun z => Ends p e below s 0 0 (Q1 Z  h0 n0 z) (T.setTop (mkF m 42 #[.val (.int x0)] [(.int (216 : Int32)), (.int x0)]))) (show (F1_38 x0) = (F1_52 x0) from (if_pos hc42)).symm) ?_
      refine Ends.step (u' := (T.setTop (mkF m 52 #[.val (.int x0)] []))) ?_ (fun _ k => XS.icmpYes X.here hx rfl (pc0 := 42) (pc' := 52) rfl (hb hby d1_42) rfl (XT.ii_lt_t hc42) (by decide) (by decide) k)
      exact b52 T _ X eT N x0
    · refine Eq.mp (congrArg (fun z => Ends p e below s 0 0 (Q1 Z  h0 n0 z) (T.setTop (mkF m 42 #[.val (.int x0)] [(.int (216 : Int32)), (.int x0)]))) (show (F1_38 x0) = (F1_45 x0) from (if_neg hc42)).symm) ?_
      refine Ends.step (u' := (T.setTop (mkF m 45 #[.val (.int x0)] []))) ?_ (fun _ k => XS.icmpNo X.here hx rfl (hb hby d1_42) rfl (XT.ii_lt_f hc42) k)
      exact b45 T _ X eT N x0
  have b31 : ∀ (T : State) (L : List Loc) (X : Stand p l e ({ frames := 0, cells := 0, slots := 0, locals := 0 } : Room) s m #[(.int p0)] below meth c T L 0 0) (eT : T.heap = h0) (N : Fr n0 L) (x0 : Int32), Ends p e below s 0 0 (Q1 Z  h0 n0 (F1_31 x0)) (T.setTop (mkF m 31 #[.val (.int x0)] [])) := by
    intro T L X eT N x0
    refine Ends.step (u' := (T.setTop (mkF m 32 #[.val (.int x0)] [(.int x0)]))) ?_ (fun _ k => XS.iloadN X.here hx rfl (hb hby d1_31) rfl k)
    refine Ends.step (u' := (T.setTop (mkF m 35 #[.val (.int x0)] [(.int (214 : Int32)), (.int x0)]))) ?_ (fun _ k => XT.sipushV X.here hx rfl (214 : Int32) (hb hby d1_32) rfl k)
    by_cases hc35 : (214 : Int32) < x0
    · refine Eq.mp (congrArg (fun z => Ends p e below s 0 0 (Q1 Z  h0 n0 z) (T.setTop (mkF m 35 #[.val (.int x0)] [(.int (214 : Int32)), (.int x0)]))) (show (F1_31 x0) = (F1_38 x0) from (if_pos hc35)).symm) ?_
      refine Ends.step (u' := (T.setTop (mkF m 38 #[.val (.int x0)] []))) ?_ (fun _ k => XS.icmpNo X.here hx rfl (hb hby d1_35) rfl (XT.ii_le_f hc35) k)
      exact b38 T _ X eT N x0
    · refine Eq.mp (congrArg (fun z => Ends p e below s 0 0 (Q1 Z  h0 n0 z) (T.setTop (mkF m 35 #[.val (.int x0)] [(.int (214 : Int32)), (.int x0)]))) (show (F1_31 x0) = F1_185 from (if_neg hc35)).symm) ?_
      refine Ends.step (u' := (T.setTop (mkF m 185 #[.val (.int x0)] []))) ?_ (fun _ k => XS.icmpYes X.here hx rfl (pc0 := 35) (pc' := 185) rfl (hb hby d1_35) rfl (XT.ii_le_t hc35) (by decide) (by decide) k)
      exact b185 T _ X eT N (.val (.int x0)) (Or.inr ⟨_, rfl, rfl⟩)
  have b24 : ∀ (T : State) (L : List Loc) (X : Stand p l e ({ frames := 0, cells := 0, slots := 0, locals := 0 } : Room) s m #[(.int p0)] below meth c T L 0 0) (eT : T.heap = h0) (N : Fr n0 L) (x0 : Int32), Ends p e below s 0 0 (Q1 Z  h0 n0 (F1_24 x0)) (T.setTop (mkF m 24 #[.val (.int x0)] [])) := by
    intro T L X eT N x0
    refine Ends.step (u' := (T.setTop (mkF m 25 #[.val (.int x0)] [(.int x0)]))) ?_ (fun _ k => XS.iloadN X.here hx rfl (hb hby d1_24) rfl k)
    refine Ends.step (u' := (T.setTop (mkF m 28 #[.val (.int x0)] [(.int (192 : Int32)), (.int x0)]))) ?_ (fun _ k => XT.sipushV X.here hx rfl (192 : Int32) (hb hby d1_25) rfl k)
    by_cases hc28 : x0 < (192 : Int32)
    · refine Eq.mp (congrArg (fun z => Ends p e below s 0 0 (Q1 Z  h0 n0 z) (T.setTop (mkF m 28 #[.val (.int x0)] [(.int (192 : Int32)), (.int x0)]))) (show (F1_24 x0) = (F1_38 x0) from (if_pos hc28)).symm) ?_
      refine Ends.step (u' := (T.setTop (mkF m 38 #[.val (.int x0)] []))) ?_ (fun _ k => XS.icmpYes X.here hx rfl (pc0 := 28) (pc' := 38) rfl (hb hby d1_28) rfl (XT.ii_lt_t hc28) (by decide) (by decide) k)
      exact b38 T _ X eT N x0
    · refine Eq.mp (congrArg (fun z => Ends p e below s 0 0 (Q1 Z  h0 n0 z) (T.setTop (mkF m 28 #[.val (.int x0)] [(.int (192 : Int32)), (.int x0)]))) (show (F1_24 x0) = (F1_31 x0) from (if_neg hc28)).symm) ?_
      refine Ends.step (u' := (T.setTop (mkF m 31 #[.val (.int x0)] []))) ?_ (fun _ k => XS.icmpNo X.here hx rfl (hb hby d1_28) rfl (XT.ii_lt_f hc28) k)
      exact b31 T _ X eT N x0
  have b18 : ∀ (T : State) (L : List Loc) (X : Stand p l e ({ frames := 0, cells := 0, slots := 0, locals := 0 } : Room) s m #[(.int p0)] below meth c T L 0 0) (eT : T.heap = h0) (N : Fr n0 L) (x0 : Int32), Ends p e below s 0 0 (Q1 Z  h0 n0 (F1_18 x0)) (T.setTop (mkF m 18 #[.val (.int x0)] [])) := by
    intro T L X eT N x0
    refine Ends.step (u' := (T.setTop (mkF m 19 #[.val (.int x0)] [(.int x0)]))) ?_ (fun _ k => XS.iloadN X.here hx rfl (hb hby d1_18) rfl k)
    refine Ends.step (u' := (T.setTop (mkF m 21 #[.val (.int x0)] [(.int (90 : Int32)), (.int x0)]))) ?_ (fun _ k => XT.bipushV X.here hx rfl (90 : Int32) (hb hby d1_19) rfl k)
    by_cases hc21 : (90 : Int32) < x0
    · refine Eq.mp (congrArg (fun z => Ends p e below s 0 0 (Q1 Z  h0 n0 z) (T.setTop (mkF m 21 #[.val (.int x0)] [(.int (90 : Int32)), (.int x0)]))) (show (F1_18 x0) = (F1_24 x0) from (if_pos hc21)).symm) ?_
      refine Ends.step (u' := (T.setTop (mkF m 24 #[.val (.int x0)] []))) ?_ (fun _ k => XS.icmpNo X.here hx rfl (hb hby d1_21) rfl (XT.ii_le_f hc21) k)
      exact b24 T _ X eT N x0
    · refine Eq.mp (congrArg (fun z => Ends p e below s 0 0 (Q1 Z  h0 n0 z) (T.setTop (mkF m 21 #[.val (.int x0)] [(.int (90 : Int32)), (.int x0)]))) (show (F1_18 x0) = F1_185 from (if_neg hc21)).symm) ?_
      refine Ends.step (u' := (T.setTop (mkF m 185 #[.val (.int x0)] []))) ?_ (fun _ k => XS.icmpYes X.here hx rfl (pc0 := 21) (pc' := 185) rfl (hb hby d1_21) rfl (XT.ii_le_t hc21) (by decide) (by decide) k)
      exact b185 T _ X eT N (.val (.int x0)) (Or.inr ⟨_, rfl, rfl⟩)
  have b12 : ∀ (T : State) (L : List Loc) (X : Stand p l e ({ frames := 0, cells := 0, slots := 0, locals := 0 } : Room) s m #[(.int p0)] below meth c T L 0 0) (eT : T.heap = h0) (N : Fr n0 L) (x0 : Int32), Ends p e below s 0 0 (Q1 Z  h0 n0 (F1_12 x0)) (T.setTop (mkF m 12 #[.val (.int x0)] [])) := by
    intro T L X eT N x0
    refine Ends.step (u' := (T.setTop (mkF m 13 #[.val (.int x0)] [(.int x0)]))) ?_ (fun _ k => XS.iloadN X.here hx rfl (hb hby d1_12) rfl k)
    refine Ends.step (u' := (T.setTop (mkF m 15 #[.val (.int x0)] [(.int (65 : Int32)), (.int x0)]))) ?_ (fun _ k => XT.bipushV X.here hx rfl (65 : Int32) (hb hby d1_13) rfl k)
    by_cases hc15 : x0 < (65 : Int32)
    · refine Eq.mp (congrArg (fun z => Ends p e below s 0 0 (Q1 Z  h0 n0 z) (T.setTop (mkF m 15 #[.val (.int x0)] [(.int (65 : Int32)), (.int x0)]))) (show (F1_12 x0) = (F1_24 x0) from (if_pos hc15)).symm) ?_
      refine Ends.step (u' := (T.setTop (mkF m 24 #[.val (.int x0)] []))) ?_ (fun _ k => XS.icmpYes X.here hx rfl (pc0 := 15) (pc' := 24) rfl (hb hby d1_15) rfl (XT.ii_lt_t hc15) (by decide) (by decide) k)
      exact b24 T _ X eT N x0
    · refine Eq.mp (congrArg (fun z => Ends p e below s 0 0 (Q1 Z  h0 n0 z) (T.setTop (mkF m 15 #[.val (.int x0)] [(.int (65 : Int32)), (.int x0)]))) (show (F1_12 x0) = (F1_18 x0) from (if_neg hc15)).symm) ?_
      refine Ends.step (u' := (T.setTop (mkF m 18 #[.val (.int x0)] []))) ?_ (fun _ k => XS.icmpNo X.here hx rfl (hb hby d1_15) rfl (XT.ii_lt_f hc15) k)
      exact b18 T _ X eT N x0
  have b6 : ∀ (T : State) (L : List Loc) (X : Stand p l e ({ frames := 0, cells := 0, slots := 0, locals := 0 } : Room) s m #[(.int p0)] below meth c T L 0 0) (eT : T.heap = h0) (N : Fr n0 L) (x0 : Int32), Ends p e below s 0 0 (Q1 Z  h0 n0 (F1_6 x0)) (T.setTop (mkF m 6 #[.val (.int x0)] [])) := by
    intro T L X eT N x0
    refine Ends.step (u' := (T.setTop (mkF m 7 #[.val (.int x0)] [(.int x0)]))) ?_ (fun _ k => XS.iloadN X.here hx rfl (hb hby d1_6) rfl k)
    refine Ends.step (u' := (T.setTop (mkF m 9 #[.val (.int x0)] [(.int (122 : Int32)), (.int x0)]))) ?_ (fun _ k => XT.bipushV X.here hx rfl (122 : Int32) (hb hby d1_7) rfl k)
    by_cases hc9 : (122 : Int32) < x0
    · refine Eq.mp (congrArg (fun z => Ends p e below s 0 0 (Q1 Z  h0 n0 z) (T.setTop (mkF m 9 #[.val (.int x0)] [(.int (122 : Int32)), (.int x0)]))) (show (F1_6 x0) = (F1_12 x0) from (if_pos hc9)).symm) ?_
      refine Ends.step (u' := (T.setTop (mkF m 12 #[.val (.int x0)] []))) ?_ (fun _ k => XS.icmpNo X.here hx rfl (hb hby d1_9) rfl (XT.ii_le_f hc9) k)
      exact b12 T _ X eT N x0
    · refine Eq.mp (congrArg (fun z => Ends p e below s 0 0 (Q1 Z  h0 n0 z) (T.setTop (mkF m 9 #[.val (.int x0)] [(.int (122 : Int32)), (.int x0)]))) (show (F1_6 x0) = F1_185 from (if_neg hc9)).symm) ?_
      refine Ends.step (u' := (T.setTop (mkF m 185 #[.val (.int x0)] []))) ?_ (fun _ k => XS.icmpYes X.here hx rfl (pc0 := 9) (pc' := 185) rfl (hb hby d1_9) rfl (XT.ii_le_t hc9) (by decide) (by decide) k)
      exact b185 T _ X eT N (.val (.int x0)) (Or.inr ⟨_, rfl, rfl⟩)
  refine Ends.step (u' := (s₁.setTop (mkF m 0 #[.val (.int p0)] []))) ?_ (fun _ k => castTop (ef_1 m p0) k)
  refine Ends.step (u' := (s₁.setTop (mkF m 1 #[.val (.int p0)] [(.int p0)]))) ?_ (fun _ k => XS.iloadN X0.here hx rfl (hb hby d1_0) rfl k)
  refine Ends.step (u' := (s₁.setTop (mkF m 3 #[.val (.int p0)] [(.int (97 : Int32)), (.int p0)]))) ?_ (fun _ k => XT.bipushV X0.here hx rfl (97 : Int32) (hb hby d1_1) rfl k)
  by_cases hc3 : p0 < (97 : Int32)
  · refine Eq.mp (congrArg (fun z => Ends p e below s 0 0 (Q1 Z  h0 n0 z) (s₁.setTop (mkF m 3 #[.val (.int p0)] [(.int (97 : Int32)), (.int p0)]))) (show (F1 p0) = (F1_12 p0) from (if_pos hc3)).symm) ?_
    refine Ends.step (u' := (s₁.setTop (mkF m 12 #[.val (.int p0)] []))) ?_ (fun _ k => XS.icmpYes X0.here hx rfl (pc0 := 3) (pc' := 12) rfl (hb hby d1_3) rfl (XT.ii_lt_t hc3) (by decide) (by decide) k)
    exact b12 s₁ _ X0 e0 N0 p0
  · refine Eq.mp (congrArg (fun z => Ends p e below s 0 0 (Q1 Z  h0 n0 z) (s₁.setTop (mkF m 3 #[.val (.int p0)] [(.int (97 : Int32)), (.int p0)]))) (show (F1 p0) = (F1_6 p0) from (if_neg hc3)).symm) ?_
    refine Ends.step (u' := (s₁.setTop (mkF m 6 #[.val (.int p0)] []))) ?_ (fun _ k => XS.icmpNo X0.here hx rfl (hb hby d1_3) rfl (XT.ii_lt_f hc3) k)
    exact b6 s₁ _ X0 e0 N0 p0
theorem d3_0 : decode method_2_code 0 = .ok (.iload_n 0, 1) := by decide +kernel
theorem d3_1 : decode method_2_code 1 = .ok (.iload_n 1, 1) := by decide +kernel
theorem d3_2 : decode method_2_code 2 = .ok (.if_icmp .lt 12, 3) := by decide +kernel
theorem d3_5 : decode method_2_code 5 = .ok (.iload_n 0, 1) := by decide +kernel
theorem d3_6 : decode method_2_code 6 = .ok (.iload_n 2, 1) := by decide +kernel
theorem d3_7 : decode method_2_code 7 = .ok (.if_icmp .gt 7, 3) := by decide +kernel
theorem d3_10 : decode method_2_code 10 = .ok (.iconst 1, 1) := by decide +kernel
theorem d3_11 : decode method_2_code 11 = .ok (.goto 4, 3) := by decide +kernel
theorem d3_14 : decode method_2_code 14 = .ok (.iconst 0, 1) := by decide +kernel
theorem d3_15 : decode method_2_code 15 = .ok (.ireturn, 1) := by decide +kernel
theorem pn_3 : plainFor (⟨"com/example/taxigraph/taxigraph/NameCharactersIsBasePinLaw", "between", "(III)Z"⟩ : MethodName) = true := by first | exact plainFor_of_name (by first | (simp [plainName, overriddenIn]; done) | decide +kernel) | decide +kernel
theorem ef_3 (m : MethodId) (y0 : Int32) (y1 : Int32) (y2 : Int32) : entryFrame m #[(.int y0), (.int y1), (.int y2)] 3 = mkF m 0 #[.val (.int y0), .val (.int y1), .val (.int y2)] [] := by first | (simp [entryFrame, mkF, argsToLocals, Value.category]; done) | rfl
def Q3 (Z : State)   (h0 : Heap) (n0 : Nat) (ans : Int32) (v : Option Value) (h : Heap) (L : List Loc) : Prop := v = some (.int ans) ∧ Fr n0 L ∧ h = h0
set_option maxRecDepth 65536 in
set_option maxHeartbeats 40000000 in
theorem rm3 (l : Launch) (Z : State) (a0 : Array Value) (hw : ∀ d ∈ tables_1, d.before a0 Z = true) (p0 : Int32) (p1 : Int32) (p2 : Int32)  (h0 : Heap) (n0 : Nat) (Z0 : n0 ≤ h0.size)  :
    Meets l Z (⟨"com/example/taxigraph/taxigraph/NameCharactersIsBasePinLaw", "between", "(III)Z"⟩ : MethodName) method_2_code 3 (some .boolean) [] ({ frames := 0, cells := 0, slots := 0, locals := 0 } : Room) #[(.int p0), (.int p1), (.int p2)] h0 (Q3 Z  h0 n0 (F3 p0 p1 p2)) 0 0 := by
  refine Meets.of pn_3 ?_
  intro p e s m below meth c s₁ hx hby hml hZ hown hnm hret hlk X0 e0
  have hml : c.maxLocals = 3 := hml
  have hown : s.vm.findClass "com/example/taxigraph/taxigraph/NameCharactersIsBasePinLaw" = some m.cls := hown
  have N0 := Fr.nil n0
  have b15 : ∀ (T : State) (L : List Loc) (X : Stand p l e ({ frames := 0, cells := 0, slots := 0, locals := 0 } : Room) s m #[(.int p0), (.int p1), (.int p2)] below meth c T L 0 0) (eT : T.heap = h0) (N : Fr n0 L) (t0 : Int32) (d0 : Slot) (od0 : OneS d0) (d1 : Slot) (od1 : OneS d1) (d2 : Slot) (od2 : OneS d2), Ends p e below s 0 0 (Q3 Z  h0 n0 (F3_15 t0)) (T.setTop (mkF m 15 #[d0, d1, d2] [(.int t0)])) := by
    intro T L X eT N t0 d0 od0 d1 od1 d2 od2
    exact Ends.ret X (v := some (.int (nar .boolean t0))) (fun q => by rw [hret] at q; cases q) hlk (fun fs hr => retN X hx (t := .boolean) hret (by simp) (hb hby d3_15) hr) (by decide) (by decide) ⟨rfl, N, eT⟩
  have b10 : ∀ (T : State) (L : List Loc) (X : Stand p l e ({ frames := 0, cells := 0, slots := 0, locals := 0 } : Room) s m #[(.int p0), (.int p1), (.int p2)] below meth c T L 0 0) (eT : T.heap = h0) (N : Fr n0 L) (d0 : Slot) (od0 : OneS d0) (d1 : Slot) (od1 : OneS d1) (d2 : Slot) (od2 : OneS d2), Ends p e below s 0 0 (Q3 Z  h0 n0 F3_10) (T.setTop (mkF m 10 #[d0, d1, d2] [])) := by
    intro T L X eT N d0 od0 d1 od1 d2 od2
    refine Ends.step (u' := (T.setTop (mkF m 11 #[d0, d1, d2] [(.int (1 : Int32))]))) ?_ (fun _ k => XT.iconstV X.here hx rfl (1 : Int32) (hb hby d3_10) rfl k)
    refine Ends.step (u' := (T.setTop (mkF m 15 #[d0, d1, d2] [(.int (1 : Int32))]))) ?_ (fun _ k => XS.goto X.here hx rfl (pc0 := 11) (pc' := 15) rfl (hb hby d3_11) (by decide) (by decide) k)
    exact b15 T _ X eT N (1 : Int32) (d0) od0 (d1) od1 (d2) od2
  have b14 : ∀ (T : State) (L : List Loc) (X : Stand p l e ({ frames := 0, cells := 0, slots := 0, locals := 0 } : Room) s m #[(.int p0), (.int p1), (.int p2)] below meth c T L 0 0) (eT : T.heap = h0) (N : Fr n0 L) (d0 : Slot) (od0 : OneS d0) (d1 : Slot) (od1 : OneS d1) (d2 : Slot) (od2 : OneS d2), Ends p e below s 0 0 (Q3 Z  h0 n0 F3_14) (T.setTop (mkF m 14 #[d0, d1, d2] [])) := by
    intro T L X eT N d0 od0 d1 od1 d2 od2
    refine Ends.step (u' := (T.setTop (mkF m 15 #[d0, d1, d2] [(.int (0 : Int32))]))) ?_ (fun _ k => XT.iconstV X.here hx rfl (0 : Int32) (hb hby d3_14) rfl k)
    exact b15 T _ X eT N (0 : Int32) (d0) od0 (d1) od1 (d2) od2
  have b5 : ∀ (T : State) (L : List Loc) (X : Stand p l e ({ frames := 0, cells := 0, slots := 0, locals := 0 } : Room) s m #[(.int p0), (.int p1), (.int p2)] below meth c T L 0 0) (eT : T.heap = h0) (N : Fr n0 L) (x0 : Int32) (x2 : Int32) (d1 : Slot) (od1 : OneS d1), Ends p e below s 0 0 (Q3 Z  h0 n0 (F3_5 x0 x2)) (T.setTop (mkF m 5 #[.val (.int x0), d1, .val (.int x2)] [])) := by
    intro T L X eT N x0 x2 d1 od1
    refine Ends.step (u' := (T.setTop (mkF m 6 #[.val (.int x0), d1, .val (.int x2)] [(.int x0)]))) ?_ (fun _ k => XS.iloadN X.here hx rfl (hb hby d3_5) rfl k)
    refine Ends.step (u' := (T.setTop (mkF m 7 #[.val (.int x0), d1, .val (.int x2)] [(.int x2), (.int x0)]))) ?_ (fun _ k => XS.iloadN X.here hx rfl (hb hby d3_6) rfl k)
    by_cases hc7 : x2 < x0
    · refine Eq.mp (congrArg (fun z => Ends p e below s 0 0 (Q3 Z  h0 n0 z) (T.setTop (mkF m 7 #[.val (.int x0), d1, .val (.int x2)] [(.int x2), (.int x0)]))) (show (F3_5 x0 x2) = F3_14 from (if_pos hc7)).symm) ?_
      refine Ends.step (u' := (T.setTop (mkF m 14 #[.val (.int x0), d1, .val (.int x2)] []))) ?_ (fun _ k => XS.icmpYes X.here hx rfl (pc0 := 7) (pc' := 14) rfl (hb hby d3_7) rfl (XT.ii_gt_t hc7) (by decide) (by decide) k)
      exact b14 T _ X eT N (.val (.int x0)) (Or.inr ⟨_, rfl, rfl⟩) (d1) od1 (.val (.int x2)) (Or.inr ⟨_, rfl, rfl⟩)
    · refine Eq.mp (congrArg (fun z => Ends p e below s 0 0 (Q3 Z  h0 n0 z) (T.setTop (mkF m 7 #[.val (.int x0), d1, .val (.int x2)] [(.int x2), (.int x0)]))) (show (F3_5 x0 x2) = F3_10 from (if_neg hc7)).symm) ?_
      refine Ends.step (u' := (T.setTop (mkF m 10 #[.val (.int x0), d1, .val (.int x2)] []))) ?_ (fun _ k => XS.icmpNo X.here hx rfl (hb hby d3_7) rfl (XT.ii_gt_f hc7) k)
      exact b10 T _ X eT N (.val (.int x0)) (Or.inr ⟨_, rfl, rfl⟩) (d1) od1 (.val (.int x2)) (Or.inr ⟨_, rfl, rfl⟩)
  refine Ends.step (u' := (s₁.setTop (mkF m 0 #[.val (.int p0), .val (.int p1), .val (.int p2)] []))) ?_ (fun _ k => castTop (ef_3 m p0 p1 p2) k)
  refine Ends.step (u' := (s₁.setTop (mkF m 1 #[.val (.int p0), .val (.int p1), .val (.int p2)] [(.int p0)]))) ?_ (fun _ k => XS.iloadN X0.here hx rfl (hb hby d3_0) rfl k)
  refine Ends.step (u' := (s₁.setTop (mkF m 2 #[.val (.int p0), .val (.int p1), .val (.int p2)] [(.int p1), (.int p0)]))) ?_ (fun _ k => XS.iloadN X0.here hx rfl (hb hby d3_1) rfl k)
  by_cases hc2 : p0 < p1
  · refine Eq.mp (congrArg (fun z => Ends p e below s 0 0 (Q3 Z  h0 n0 z) (s₁.setTop (mkF m 2 #[.val (.int p0), .val (.int p1), .val (.int p2)] [(.int p1), (.int p0)]))) (show (F3 p0 p1 p2) = F3_14 from (if_pos hc2)).symm) ?_
    refine Ends.step (u' := (s₁.setTop (mkF m 14 #[.val (.int p0), .val (.int p1), .val (.int p2)] []))) ?_ (fun _ k => XS.icmpYes X0.here hx rfl (pc0 := 2) (pc' := 14) rfl (hb hby d3_2) rfl (XT.ii_lt_t hc2) (by decide) (by decide) k)
    exact b14 s₁ _ X0 e0 N0 (.val (.int p0)) (Or.inr ⟨_, rfl, rfl⟩) (.val (.int p1)) (Or.inr ⟨_, rfl, rfl⟩) (.val (.int p2)) (Or.inr ⟨_, rfl, rfl⟩)
  · refine Eq.mp (congrArg (fun z => Ends p e below s 0 0 (Q3 Z  h0 n0 z) (s₁.setTop (mkF m 2 #[.val (.int p0), .val (.int p1), .val (.int p2)] [(.int p1), (.int p0)]))) (show (F3 p0 p1 p2) = (F3_5 p0 p2) from (if_neg hc2)).symm) ?_
    refine Ends.step (u' := (s₁.setTop (mkF m 5 #[.val (.int p0), .val (.int p1), .val (.int p2)] []))) ?_ (fun _ k => XS.icmpNo X0.here hx rfl (hb hby d3_2) rfl (XT.ii_lt_f hc2) k)
    exact b5 s₁ _ X0 e0 N0 p0 p2 (.val (.int p1)) (Or.inr ⟨_, rfl, rfl⟩)
theorem d2_0 : decode method_3_code 0 = .ok (.iload_n 0, 1) := by decide +kernel
theorem d2_1 : decode method_3_code 1 = .ok (.bipush 65, 2) := by decide +kernel
theorem d2_3 : decode method_3_code 3 = .ok (.ldc 7, 2) := by decide +kernel
theorem d2_5 : decode method_3_code 5 = .ok (.invokestatic 8, 3) := by decide +kernel
theorem d2_8 : decode method_3_code 8 = .ok (.ifCond .ne 5, 3) := by decide +kernel
theorem d2_11 : decode method_3_code 11 = .ok (.iconst 0, 1) := by decide +kernel
theorem d2_12 : decode method_3_code 12 = .ok (.ireturn, 1) := by decide +kernel
theorem d2_13 : decode method_3_code 13 = .ok (.iload_n 0, 1) := by decide +kernel
theorem d2_14 : decode method_3_code 14 = .ok (.bipush 91, 2) := by decide +kernel
theorem d2_16 : decode method_3_code 16 = .ok (.bipush 96, 2) := by decide +kernel
theorem d2_18 : decode method_3_code 18 = .ok (.invokestatic 8, 3) := by decide +kernel
theorem d2_21 : decode method_3_code 21 = .ok (.ifCond .eq 5, 3) := by decide +kernel
theorem d2_24 : decode method_3_code 24 = .ok (.iconst 0, 1) := by decide +kernel
theorem d2_25 : decode method_3_code 25 = .ok (.ireturn, 1) := by decide +kernel
theorem d2_26 : decode method_3_code 26 = .ok (.iload_n 0, 1) := by decide +kernel
theorem d2_27 : decode method_3_code 27 = .ok (.bipush 123, 2) := by decide +kernel
theorem d2_29 : decode method_3_code 29 = .ok (.sipush 191, 3) := by decide +kernel
theorem d2_32 : decode method_3_code 32 = .ok (.invokestatic 8, 3) := by decide +kernel
theorem d2_35 : decode method_3_code 35 = .ok (.ifCond .eq 5, 3) := by decide +kernel
theorem d2_38 : decode method_3_code 38 = .ok (.iconst 0, 1) := by decide +kernel
theorem d2_39 : decode method_3_code 39 = .ok (.ireturn, 1) := by decide +kernel
theorem d2_40 : decode method_3_code 40 = .ok (.iload_n 0, 1) := by decide +kernel
theorem d2_41 : decode method_3_code 41 = .ok (.sipush 215, 3) := by decide +kernel
theorem d2_44 : decode method_3_code 44 = .ok (.if_icmp .eq 10, 3) := by decide +kernel
theorem d2_47 : decode method_3_code 47 = .ok (.iload_n 0, 1) := by decide +kernel
theorem d2_48 : decode method_3_code 48 = .ok (.sipush 247, 3) := by decide +kernel
theorem d2_51 : decode method_3_code 51 = .ok (.if_icmp .ne 5, 3) := by decide +kernel
theorem d2_54 : decode method_3_code 54 = .ok (.iconst 0, 1) := by decide +kernel
theorem d2_55 : decode method_3_code 55 = .ok (.ireturn, 1) := by decide +kernel
theorem d2_56 : decode method_3_code 56 = .ok (.iload_n 0, 1) := by decide +kernel
theorem d2_57 : decode method_3_code 57 = .ok (.sipush 768, 3) := by decide +kernel
theorem d2_60 : decode method_3_code 60 = .ok (.sipush 879, 3) := by decide +kernel
theorem d2_63 : decode method_3_code 63 = .ok (.invokestatic 8, 3) := by decide +kernel
theorem d2_66 : decode method_3_code 66 = .ok (.ifCond .eq 5, 3) := by decide +kernel
theorem d2_69 : decode method_3_code 69 = .ok (.iconst 0, 1) := by decide +kernel
theorem d2_70 : decode method_3_code 70 = .ok (.ireturn, 1) := by decide +kernel
theorem d2_71 : decode method_3_code 71 = .ok (.iload_n 0, 1) := by decide +kernel
theorem d2_72 : decode method_3_code 72 = .ok (.sipush 894, 3) := by decide +kernel
theorem d2_75 : decode method_3_code 75 = .ok (.if_icmp .ne 5, 3) := by decide +kernel
theorem d2_78 : decode method_3_code 78 = .ok (.iconst 0, 1) := by decide +kernel
theorem d2_79 : decode method_3_code 79 = .ok (.ireturn, 1) := by decide +kernel
theorem d2_80 : decode method_3_code 80 = .ok (.iload_n 0, 1) := by decide +kernel
theorem d2_81 : decode method_3_code 81 = .ok (.sipush 8192, 3) := by decide +kernel
theorem d2_84 : decode method_3_code 84 = .ok (.sipush 8203, 3) := by decide +kernel
theorem d2_87 : decode method_3_code 87 = .ok (.invokestatic 8, 3) := by decide +kernel
theorem d2_90 : decode method_3_code 90 = .ok (.ifCond .eq 5, 3) := by decide +kernel
theorem d2_93 : decode method_3_code 93 = .ok (.iconst 0, 1) := by decide +kernel
theorem d2_94 : decode method_3_code 94 = .ok (.ireturn, 1) := by decide +kernel
theorem d2_95 : decode method_3_code 95 = .ok (.iload_n 0, 1) := by decide +kernel
theorem d2_96 : decode method_3_code 96 = .ok (.sipush 8206, 3) := by decide +kernel
theorem d2_99 : decode method_3_code 99 = .ok (.sipush 8303, 3) := by decide +kernel
theorem d2_102 : decode method_3_code 102 = .ok (.invokestatic 8, 3) := by decide +kernel
theorem d2_105 : decode method_3_code 105 = .ok (.ifCond .eq 5, 3) := by decide +kernel
theorem d2_108 : decode method_3_code 108 = .ok (.iconst 0, 1) := by decide +kernel
theorem d2_109 : decode method_3_code 109 = .ok (.ireturn, 1) := by decide +kernel
theorem d2_110 : decode method_3_code 110 = .ok (.iload_n 0, 1) := by decide +kernel
theorem d2_111 : decode method_3_code 111 = .ok (.sipush 8592, 3) := by decide +kernel
theorem d2_114 : decode method_3_code 114 = .ok (.sipush 11263, 3) := by decide +kernel
theorem d2_117 : decode method_3_code 117 = .ok (.invokestatic 8, 3) := by decide +kernel
theorem d2_120 : decode method_3_code 120 = .ok (.ifCond .eq 5, 3) := by decide +kernel
theorem d2_123 : decode method_3_code 123 = .ok (.iconst 0, 1) := by decide +kernel
theorem d2_124 : decode method_3_code 124 = .ok (.ireturn, 1) := by decide +kernel
theorem d2_125 : decode method_3_code 125 = .ok (.iload_n 0, 1) := by decide +kernel
theorem d2_126 : decode method_3_code 126 = .ok (.sipush 12272, 3) := by decide +kernel
theorem d2_129 : decode method_3_code 129 = .ok (.sipush 12288, 3) := by decide +kernel
theorem d2_132 : decode method_3_code 132 = .ok (.invokestatic 8, 3) := by decide +kernel
theorem d2_135 : decode method_3_code 135 = .ok (.ifCond .eq 5, 3) := by decide +kernel
theorem d2_138 : decode method_3_code 138 = .ok (.iconst 0, 1) := by decide +kernel
theorem d2_139 : decode method_3_code 139 = .ok (.ireturn, 1) := by decide +kernel
theorem d2_140 : decode method_3_code 140 = .ok (.iload_n 0, 1) := by decide +kernel
theorem d2_141 : decode method_3_code 141 = .ok (.ldc 14, 2) := by decide +kernel
theorem d2_143 : decode method_3_code 143 = .ok (.ldc 15, 2) := by decide +kernel
theorem d2_145 : decode method_3_code 145 = .ok (.invokestatic 8, 3) := by decide +kernel
theorem d2_148 : decode method_3_code 148 = .ok (.ifCond .eq 5, 3) := by decide +kernel
theorem d2_151 : decode method_3_code 151 = .ok (.iconst 0, 1) := by decide +kernel
theorem d2_152 : decode method_3_code 152 = .ok (.ireturn, 1) := by decide +kernel
theorem d2_153 : decode method_3_code 153 = .ok (.iload_n 0, 1) := by decide +kernel
theorem d2_154 : decode method_3_code 154 = .ok (.ldc 16, 2) := by decide +kernel
theorem d2_156 : decode method_3_code 156 = .ok (.ldc 17, 2) := by decide +kernel
theorem d2_158 : decode method_3_code 158 = .ok (.invokestatic 8, 3) := by decide +kernel
theorem d2_161 : decode method_3_code 161 = .ok (.ifCond .eq 5, 3) := by decide +kernel
theorem d2_164 : decode method_3_code 164 = .ok (.iconst 0, 1) := by decide +kernel
theorem d2_165 : decode method_3_code 165 = .ok (.ireturn, 1) := by decide +kernel
theorem d2_166 : decode method_3_code 166 = .ok (.iload_n 0, 1) := by decide +kernel
theorem d2_167 : decode method_3_code 167 = .ok (.ldc 18, 2) := by decide +kernel
theorem d2_169 : decode method_3_code 169 = .ok (.ldc 19, 2) := by decide +kernel
theorem d2_171 : decode method_3_code 171 = .ok (.invokestatic 8, 3) := by decide +kernel
theorem d2_174 : decode method_3_code 174 = .ok (.ifCond .eq 5, 3) := by decide +kernel
theorem d2_177 : decode method_3_code 177 = .ok (.iconst 0, 1) := by decide +kernel
theorem d2_178 : decode method_3_code 178 = .ok (.ireturn, 1) := by decide +kernel
theorem d2_179 : decode method_3_code 179 = .ok (.iconst 1, 1) := by decide +kernel
theorem d2_180 : decode method_3_code 180 = .ok (.ireturn, 1) := by decide +kernel
theorem pn_2 : plainFor (⟨"com/example/taxigraph/taxigraph/NameCharactersIsBasePinLaw", "expected", "(I)Z"⟩ : MethodName) = true := by first | exact plainFor_of_name (by first | (simp [plainName, overriddenIn]; done) | decide +kernel) | decide +kernel
theorem ef_2 (m : MethodId) (y0 : Int32) : entryFrame m #[(.int y0)] 1 = mkF m 0 #[.val (.int y0)] [] := by first | (simp [entryFrame, mkF, argsToLocals, Value.category]; done) | rfl
def Q2 (Z : State)   (h0 : Heap) (n0 : Nat) (ans : Int32) (v : Option Value) (h : Heap) (L : List Loc) : Prop := v = some (.int ans) ∧ Fr n0 L ∧ h = h0
set_option maxRecDepth 65536 in
set_option maxHeartbeats 40000000 in
theorem rm2 (l : Launch) (Z : State) (a0 : Array Value) (hw : ∀ d ∈ tables_1, d.before a0 Z = true) (p0 : Int32)  (h0 : Heap) (n0 : Nat) (Z0 : n0 ≤ h0.size)  :
    Meets l Z (⟨"com/example/taxigraph/taxigraph/NameCharactersIsBasePinLaw", "expected", "(I)Z"⟩ : MethodName) method_3_code 1 (some .boolean) [] ({ frames := 1, cells := 0, slots := 0, locals := 14 } : Room) #[(.int p0)] h0 (Q2 Z  h0 n0 (F2 p0)) 0 0 := by
  refine Meets.of pn_2 ?_
  intro p e s m below meth c s₁ hx hby hml hZ hown hnm hret hlk X0 e0
  have hml : c.maxLocals = 1 := hml
  have hown : s.vm.findClass "com/example/taxigraph/taxigraph/NameCharactersIsBasePinLaw" = some m.cls := hown
  have N0 := Fr.nil n0
  have b11 : ∀ (T : State) (L : List Loc) (X : Stand p l e ({ frames := 1, cells := 0, slots := 0, locals := 14 } : Room) s m #[(.int p0)] below meth c T L 0 0) (eT : T.heap = h0) (N : Fr n0 L) (d0 : Slot) (od0 : OneS d0), Ends p e below s 0 0 (Q2 Z  h0 n0 F2_11) (T.setTop (mkF m 11 #[d0] [])) := by
    intro T L X eT N d0 od0
    refine Ends.step (u' := (T.setTop (mkF m 12 #[d0] [(.int (0 : Int32))]))) ?_ (fun _ k => XT.iconstV X.here hx rfl (0 : Int32) (hb hby d2_11) rfl k)
    exact Ends.ret X (v := some (.int (nar .boolean (0 : Int32)))) (fun q => by rw [hret] at q; cases q) hlk (fun fs hr => retN X hx (t := .boolean) hret (by simp) (hb hby d2_12) hr) (by decide) (by decide) ⟨rfl, N, eT⟩
  have b24 : ∀ (T : State) (L : List Loc) (X : Stand p l e ({ frames := 1, cells := 0, slots := 0, locals := 14 } : Room) s m #[(.int p0)] below meth c T L 0 0) (eT : T.heap = h0) (N : Fr n0 L) (d0 : Slot) (od0 : OneS d0), Ends p e below s 0 0 (Q2 Z  h0 n0 F2_24) (T.setTop (mkF m 24 #[d0] [])) := by
    intro T L X eT N d0 od0
    refine Ends.step (u' := (T.setTop (mkF m 25 #[d0] [(.int (0 : Int32))]))) ?_ (fun _ k => XT.iconstV X.here hx rfl (0 : Int32) (hb hby d2_24) rfl k)
    exact Ends.ret X (v := some (.int (nar .boolean (0 : Int32)))) (fun q => by rw [hret] at q; cases q) hlk (fun fs hr => retN X hx (t := .boolean) hret (by simp) (hb hby d2_25) hr) (by decide) (by decide) ⟨rfl, N, eT⟩
  have b38 : ∀ (T : State) (L : List Loc) (X : Stand p l e ({ frames := 1, cells := 0, slots := 0, locals := 14 } : Room) s m #[(.int p0)] below meth c T L 0 0) (eT : T.heap = h0) (N : Fr n0 L) (d0 : Slot) (od0 : OneS d0), Ends p e below s 0 0 (Q2 Z  h0 n0 F2_38) (T.setTop (mkF m 38 #[d0] [])) := by
    intro T L X eT N d0 od0
    refine Ends.step (u' := (T.setTop (mkF m 39 #[d0] [(.int (0 : Int32))]))) ?_ (fun _ k => XT.iconstV X.here hx rfl (0 : Int32) (hb hby d2_38) rfl k)
    exact Ends.ret X (v := some (.int (nar .boolean (0 : Int32)))) (fun q => by rw [hret] at q; cases q) hlk (fun fs hr => retN X hx (t := .boolean) hret (by simp) (hb hby d2_39) hr) (by decide) (by decide) ⟨rfl, N, eT⟩
  have b54 : ∀ (T : State) (L : List Loc) (X : Stand p l e ({ frames := 1, cells := 0, slots := 0, locals := 14 } : Room) s m #[(.int p0)] below meth c T L 0 0) (eT : T.heap = h0) (N : Fr n0 L) (d0 : Slot) (od0 : OneS d0), Ends p e below s 0 0 (Q2 Z  h0 n0 F2_54) (T.setTop (mkF m 54 #[d0] [])) := by
    intro T L X eT N d0 od0
    refine Ends.step (u' := (T.setTop (mkF m 55 #[d0] [(.int (0 : Int32))]))) ?_ (fun _ k => XT.iconstV X.here hx rfl (0 : Int32) (hb hby d2_54) rfl k)
    exact Ends.ret X (v := some (.int (nar .boolean (0 : Int32)))) (fun q => by rw [hret] at q; cases q) hlk (fun fs hr => retN X hx (t := .boolean) hret (by simp) (hb hby d2_55) hr) (by decide) (by decide) ⟨rfl, N, eT⟩
  have b69 : ∀ (T : State) (L : List Loc) (X : Stand p l e ({ frames := 1, cells := 0, slots := 0, locals := 14 } : Room) s m #[(.int p0)] below meth c T L 0 0) (eT : T.heap = h0) (N : Fr n0 L) (d0 : Slot) (od0 : OneS d0), Ends p e below s 0 0 (Q2 Z  h0 n0 F2_69) (T.setTop (mkF m 69 #[d0] [])) := by
    intro T L X eT N d0 od0
    refine Ends.step (u' := (T.setTop (mkF m 70 #[d0] [(.int (0 : Int32))]))) ?_ (fun _ k => XT.iconstV X.here hx rfl (0 : Int32) (hb hby d2_69) rfl k)
    exact Ends.ret X (v := some (.int (nar .boolean (0 : Int32)))) (fun q => by rw [hret] at q; cases q) hlk (fun fs hr => retN X hx (t := .boolean) hret (by simp) (hb hby d2_70) hr) (by decide) (by decide) ⟨rfl, N, eT⟩
  have b78 : ∀ (T : State) (L : List Loc) (X : Stand p l e ({ frames := 1, cells := 0, slots := 0, locals := 14 } : Room) s m #[(.int p0)] below meth c T L 0 0) (eT : T.heap = h0) (N : Fr n0 L) (d0 : Slot) (od0 : OneS d0), Ends p e below s 0 0 (Q2 Z  h0 n0 F2_78) (T.setTop (mkF m 78 #[d0] [])) := by
    intro T L X eT N d0 od0
    refine Ends.step (u' := (T.setTop (mkF m 79 #[d0] [(.int (0 : Int32))]))) ?_ (fun _ k => XT.iconstV X.here hx rfl (0 : Int32) (hb hby d2_78) rfl k)
    exact Ends.ret X (v := some (.int (nar .boolean (0 : Int32)))) (fun q => by rw [hret] at q; cases q) hlk (fun fs hr => retN X hx (t := .boolean) hret (by simp) (hb hby d2_79) hr) (by decide) (by decide) ⟨rfl, N, eT⟩
  have b93 : ∀ (T : State) (L : List Loc) (X : Stand p l e ({ frames := 1, cells := 0, slots := 0, locals := 14 } : Room) s m #[(.int p0)] below meth c T L 0 0) (eT : T.heap = h0) (N : Fr n0 L) (d0 : Slot) (od0 : OneS d0), Ends p e below s 0 0 (Q2 Z  h0 n0 F2_93) (T.setTop (mkF m 93 #[d0] [])) := by
    intro T L X eT N d0 od0
    refine Ends.step (u' := (T.setTop (mkF m 94 #[d0] [(.int (0 : Int32))]))) ?_ (fun _ k => XT.iconstV X.here hx rfl (0 : Int32) (hb hby d2_93) rfl k)
    exact Ends.ret X (v := some (.int (nar .boolean (0 : Int32)))) (fun q => by rw [hret] at q; cases q) hlk (fun fs hr => retN X hx (t := .boolean) hret (by simp) (hb hby d2_94) hr) (by decide) (by decide) ⟨rfl, N, eT⟩
  have b108 : ∀ (T : State) (L : List Loc) (X : Stand p l e ({ frames := 1, cells := 0, slots := 0, locals := 14 } : Room) s m #[(.int p0)] below meth c T L 0 0) (eT : T.heap = h0) (N : Fr n0 L) (d0 : Slot) (od0 : OneS d0), Ends p e below s 0 0 (Q2 Z  h0 n0 F2_108) (T.setTop (mkF m 108 #[d0] [])) := by
    intro T L X eT N d0 od0
    refine Ends.step (u' := (T.setTop (mkF m 109 #[d0] [(.int (0 : Int32))]))) ?_ (fun _ k => XT.iconstV X.here hx rfl (0 : Int32) (hb hby d2_108) rfl k)
    exact Ends.ret X (v := some (.int (nar .boolean (0 : Int32)))) (fun q => by rw [hret] at q; cases q) hlk (fun fs hr => retN X hx (t := .boolean) hret (by simp) (hb hby d2_109) hr) (by decide) (by decide) ⟨rfl, N, eT⟩
  have b123 : ∀ (T : State) (L : List Loc) (X : Stand p l e ({ frames := 1, cells := 0, slots := 0, locals := 14 } : Room) s m #[(.int p0)] below meth c T L 0 0) (eT : T.heap = h0) (N : Fr n0 L) (d0 : Slot) (od0 : OneS d0), Ends p e below s 0 0 (Q2 Z  h0 n0 F2_123) (T.setTop (mkF m 123 #[d0] [])) := by
    intro T L X eT N d0 od0
    refine Ends.step (u' := (T.setTop (mkF m 124 #[d0] [(.int (0 : Int32))]))) ?_ (fun _ k => XT.iconstV X.here hx rfl (0 : Int32) (hb hby d2_123) rfl k)
    exact Ends.ret X (v := some (.int (nar .boolean (0 : Int32)))) (fun q => by rw [hret] at q; cases q) hlk (fun fs hr => retN X hx (t := .boolean) hret (by simp) (hb hby d2_124) hr) (by decide) (by decide) ⟨rfl, N, eT⟩
  have b138 : ∀ (T : State) (L : List Loc) (X : Stand p l e ({ frames := 1, cells := 0, slots := 0, locals := 14 } : Room) s m #[(.int p0)] below meth c T L 0 0) (eT : T.heap = h0) (N : Fr n0 L) (d0 : Slot) (od0 : OneS d0), Ends p e below s 0 0 (Q2 Z  h0 n0 F2_138) (T.setTop (mkF m 138 #[d0] [])) := by
    intro T L X eT N d0 od0
    refine Ends.step (u' := (T.setTop (mkF m 139 #[d0] [(.int (0 : Int32))]))) ?_ (fun _ k => XT.iconstV X.here hx rfl (0 : Int32) (hb hby d2_138) rfl k)
    exact Ends.ret X (v := some (.int (nar .boolean (0 : Int32)))) (fun q => by rw [hret] at q; cases q) hlk (fun fs hr => retN X hx (t := .boolean) hret (by simp) (hb hby d2_139) hr) (by decide) (by decide) ⟨rfl, N, eT⟩
  have b151 : ∀ (T : State) (L : List Loc) (X : Stand p l e ({ frames := 1, cells := 0, slots := 0, locals := 14 } : Room) s m #[(.int p0)] below meth c T L 0 0) (eT : T.heap = h0) (N : Fr n0 L) (d0 : Slot) (od0 : OneS d0), Ends p e below s 0 0 (Q2 Z  h0 n0 F2_151) (T.setTop (mkF m 151 #[d0] [])) := by
    intro T L X eT N d0 od0
    refine Ends.step (u' := (T.setTop (mkF m 152 #[d0] [(.int (0 : Int32))]))) ?_ (fun _ k => XT.iconstV X.here hx rfl (0 : Int32) (hb hby d2_151) rfl k)
    exact Ends.ret X (v := some (.int (nar .boolean (0 : Int32)))) (fun q => by rw [hret] at q; cases q) hlk (fun fs hr => retN X hx (t := .boolean) hret (by simp) (hb hby d2_152) hr) (by decide) (by decide) ⟨rfl, N, eT⟩
  have b164 : ∀ (T : State) (L : List Loc) (X : Stand p l e ({ frames := 1, cells := 0, slots := 0, locals := 14 } : Room) s m #[(.int p0)] below meth c T L 0 0) (eT : T.heap = h0) (N : Fr n0 L) (d0 : Slot) (od0 : OneS d0), Ends p e below s 0 0 (Q2 Z  h0 n0 F2_164) (T.setTop (mkF m 164 #[d0] [])) := by
    intro T L X eT N d0 od0
    refine Ends.step (u' := (T.setTop (mkF m 165 #[d0] [(.int (0 : Int32))]))) ?_ (fun _ k => XT.iconstV X.here hx rfl (0 : Int32) (hb hby d2_164) rfl k)
    exact Ends.ret X (v := some (.int (nar .boolean (0 : Int32)))) (fun q => by rw [hret] at q; cases q) hlk (fun fs hr => retN X hx (t := .boolean) hret (by simp) (hb hby d2_165) hr) (by decide) (by decide) ⟨rfl, N, eT⟩
  have b177 : ∀ (T : State) (L : List Loc) (X : Stand p l e ({ frames := 1, cells := 0, slots := 0, locals := 14 } : Room) s m #[(.int p0)] below meth c T L 0 0) (eT : T.heap = h0) (N : Fr n0 L) (d0 : Slot) (od0 : OneS d0), Ends p e below s 0 0 (Q2 Z  h0 n0 F2_177) (T.setTop (mkF m 177 #[d0] [])) := by
    intro T L X eT N d0 od0
    refine Ends.step (u' := (T.setTop (mkF m 178 #[d0] [(.int (0 : Int32))]))) ?_ (fun _ k => XT.iconstV X.here hx rfl (0 : Int32) (hb hby d2_177) rfl k)
    exact Ends.ret X (v := some (.int (nar .boolean (0 : Int32)))) (fun q => by rw [hret] at q; cases q) hlk (fun fs hr => retN X hx (t := .boolean) hret (by simp) (hb hby d2_178) hr) (by decide) (by decide) ⟨rfl, N, eT⟩
  have b179 : ∀ (T : State) (L : List Loc) (X : Stand p l e ({ frames := 1, cells := 0, slots := 0, locals := 14 } : Room) s m #[(.int p0)] below meth c T L 0 0) (eT : T.heap = h0) (N : Fr n0 L) (d0 : Slot) (od0 : OneS d0), Ends p e below s 0 0 (Q2 Z  h0 n0 F2_179) (T.setTop (mkF m 179 #[d0] [])) := by
    intro T L X eT N d0 od0
    refine Ends.step (u' := (T.setTop (mkF m 180 #[d0] [(.int (1 : Int32))]))) ?_ (fun _ k => XT.iconstV X.here hx rfl (1 : Int32) (hb hby d2_179) rfl k)
    exact Ends.ret X (v := some (.int (nar .boolean (1 : Int32)))) (fun q => by rw [hret] at q; cases q) hlk (fun fs hr => retN X hx (t := .boolean) hret (by simp) (hb hby d2_180) hr) (by decide) (by decide) ⟨rfl, N, eT⟩
  have b166 : ∀ (T : State) (L : List Loc) (X : Stand p l e ({ frames := 1, cells := 0, slots := 0, locals := 14 } : Room) s m #[(.int p0)] below meth c T L 0 0) (eT : T.heap = h0) (N : Fr n0 L) (x0 : Int32), Ends p e below s 0 0 (Q2 Z  h0 n0 (F2_166 x0)) (T.setTop (mkF m 166 #[.val (.int x0)] [])) := by
    intro T L X eT N x0
    refine Ends.step (u' := (T.setTop (mkF m 167 #[.val (.int x0)] [(.int x0)]))) ?_ (fun _ k => XS.iloadN X.here hx rfl (hb hby d2_166) rfl k)
    refine Ends.step (u' := (T.setTop (mkF m 169 #[.val (.int x0)] [(.int (65534 : Int32)), (.int x0)]))) ?_ (fun _ k => X.ldcI hx hown (mvT hZ (hw _ (List.mem_of_getElem? (i := 21) rfl))) rfl (hb hby d2_167) k)
    refine Ends.step (u' := (T.setTop (mkF m 171 #[.val (.int x0)] [(.int (65535 : Int32)), (.int (65534 : Int32)), (.int x0)]))) ?_ (fun _ k => X.ldcI hx hown (mvT hZ (hw _ (List.mem_of_getElem? (i := 16) rfl))) rfl (hb hby d2_169) k)
    refine Ends.callS X hx hZ hown (hw _ (List.mem_of_getElem? (i := 13) rfl)) (hw _ (List.mem_of_getElem? (i := 14) rfl)) (hw _ (List.mem_of_getElem? (i := 10) rfl)) (hw _ (List.mem_of_getElem? (i := 15) rfl)) (by decide) (rm3 l Z a0 hw x0 (65534 : Int32) (65535 : Int32) h0 n0 Z0) 0 (by decide) (by decide) eT  (g := (mkF m 171 #[.val (.int x0)] [(.int (65535 : Int32)), (.int (65534 : Int32)), (.int x0)])) rfl (by rw [hml]; rfl)  [(.int x0), (.int (65534 : Int32)), (.int (65535 : Int32))] [] (lenOf pd_0 rfl) rfl (by show 2 * 0 + _ ≤ _; exact Nat.le_of_eq rfl) (hb hby d2_171) rfl (by decide) (by decide) (fun v1 T1 L1 X1 hQ1 => ?_)
    obtain ⟨rfl, Nq1, e1⟩ := hQ1
    have N1 := Fr.app N Nq1
    show Ends p e below s _ _ _ (T1.setTop (mkF m 174 #[.val (.int x0)] [(.int (F3 x0 (65534 : Int32) (65535 : Int32)))]))
    by_cases hc174 : (F3 x0 (65534 : Int32) (65535 : Int32)) = 0
    · refine Eq.mp (congrArg (fun z => Ends p e below s 0 0 (Q2 Z  h0 n0 z) (T1.setTop (mkF m 174 #[.val (.int x0)] [(.int (F3 x0 (65534 : Int32) (65535 : Int32)))]))) (show (F2_166 x0) = F2_179 from (if_pos hc174)).symm) ?_
      refine Ends.step (u' := (T1.setTop (mkF m 179 #[.val (.int x0)] []))) ?_ (fun _ k => XS.ifYes X1.here hx rfl (pc0 := 174) (pc' := 179) rfl (hb hby d2_174) rfl (XT.i0_eq_t hc174) (by decide) (by decide) k)
      exact b179 T1 _ X1 e1 N1 (.val (.int x0)) (Or.inr ⟨_, rfl, rfl⟩)
    · refine Eq.mp (congrArg (fun z => Ends p e below s 0 0 (Q2 Z  h0 n0 z) (T1.setTop (mkF m 174 #[.val (.int x0)] [(.int (F3 x0 (65534 : Int32) (65535 : Int32)))]))) (show (F2_166 x0) = F2_177 from (if_neg hc174)).symm) ?_
      refine Ends.step (u' := (T1.setTop (mkF m 177 #[.val (.int x0)] []))) ?_ (fun _ k => XS.ifNo X1.here hx rfl (hb hby d2_174) rfl (XT.i0_eq_f hc174) k)
      exact b177 T1 _ X1 e1 N1 (.val (.int x0)) (Or.inr ⟨_, rfl, rfl⟩)
  have b153 : ∀ (T : State) (L : List Loc) (X : Stand p l e ({ frames := 1, cells := 0, slots := 0, locals := 14 } : Room) s m #[(.int p0)] below meth c T L 0 0) (eT : T.heap = h0) (N : Fr n0 L) (x0 : Int32), Ends p e below s 0 0 (Q2 Z  h0 n0 (F2_153 x0)) (T.setTop (mkF m 153 #[.val (.int x0)] [])) := by
    intro T L X eT N x0
    refine Ends.step (u' := (T.setTop (mkF m 154 #[.val (.int x0)] [(.int x0)]))) ?_ (fun _ k => XS.iloadN X.here hx rfl (hb hby d2_153) rfl k)
    refine Ends.step (u' := (T.setTop (mkF m 156 #[.val (.int x0)] [(.int (64976 : Int32)), (.int x0)]))) ?_ (fun _ k => X.ldcI hx hown (mvT hZ (hw _ (List.mem_of_getElem? (i := 19) rfl))) rfl (hb hby d2_154) k)
    refine Ends.step (u' := (T.setTop (mkF m 158 #[.val (.int x0)] [(.int (65007 : Int32)), (.int (64976 : Int32)), (.int x0)]))) ?_ (fun _ k => X.ldcI hx hown (mvT hZ (hw _ (List.mem_of_getElem? (i := 20) rfl))) rfl (hb hby d2_156) k)
    refine Ends.callS X hx hZ hown (hw _ (List.mem_of_getElem? (i := 13) rfl)) (hw _ (List.mem_of_getElem? (i := 14) rfl)) (hw _ (List.mem_of_getElem? (i := 10) rfl)) (hw _ (List.mem_of_getElem? (i := 15) rfl)) (by decide) (rm3 l Z a0 hw x0 (64976 : Int32) (65007 : Int32) h0 n0 Z0) 0 (by decide) (by decide) eT  (g := (mkF m 158 #[.val (.int x0)] [(.int (65007 : Int32)), (.int (64976 : Int32)), (.int x0)])) rfl (by rw [hml]; rfl)  [(.int x0), (.int (64976 : Int32)), (.int (65007 : Int32))] [] (lenOf pd_0 rfl) rfl (by show 2 * 0 + _ ≤ _; exact Nat.le_of_eq rfl) (hb hby d2_158) rfl (by decide) (by decide) (fun v2 T2 L2 X2 hQ2 => ?_)
    obtain ⟨rfl, Nq2, e2⟩ := hQ2
    have N2 := Fr.app N Nq2
    show Ends p e below s _ _ _ (T2.setTop (mkF m 161 #[.val (.int x0)] [(.int (F3 x0 (64976 : Int32) (65007 : Int32)))]))
    by_cases hc161 : (F3 x0 (64976 : Int32) (65007 : Int32)) = 0
    · refine Eq.mp (congrArg (fun z => Ends p e below s 0 0 (Q2 Z  h0 n0 z) (T2.setTop (mkF m 161 #[.val (.int x0)] [(.int (F3 x0 (64976 : Int32) (65007 : Int32)))]))) (show (F2_153 x0) = (F2_166 x0) from (if_pos hc161)).symm) ?_
      refine Ends.step (u' := (T2.setTop (mkF m 166 #[.val (.int x0)] []))) ?_ (fun _ k => XS.ifYes X2.here hx rfl (pc0 := 161) (pc' := 166) rfl (hb hby d2_161) rfl (XT.i0_eq_t hc161) (by decide) (by decide) k)
      exact b166 T2 _ X2 e2 N2 x0
    · refine Eq.mp (congrArg (fun z => Ends p e below s 0 0 (Q2 Z  h0 n0 z) (T2.setTop (mkF m 161 #[.val (.int x0)] [(.int (F3 x0 (64976 : Int32) (65007 : Int32)))]))) (show (F2_153 x0) = F2_164 from (if_neg hc161)).symm) ?_
      refine Ends.step (u' := (T2.setTop (mkF m 164 #[.val (.int x0)] []))) ?_ (fun _ k => XS.ifNo X2.here hx rfl (hb hby d2_161) rfl (XT.i0_eq_f hc161) k)
      exact b164 T2 _ X2 e2 N2 (.val (.int x0)) (Or.inr ⟨_, rfl, rfl⟩)
  have b140 : ∀ (T : State) (L : List Loc) (X : Stand p l e ({ frames := 1, cells := 0, slots := 0, locals := 14 } : Room) s m #[(.int p0)] below meth c T L 0 0) (eT : T.heap = h0) (N : Fr n0 L) (x0 : Int32), Ends p e below s 0 0 (Q2 Z  h0 n0 (F2_140 x0)) (T.setTop (mkF m 140 #[.val (.int x0)] [])) := by
    intro T L X eT N x0
    refine Ends.step (u' := (T.setTop (mkF m 141 #[.val (.int x0)] [(.int x0)]))) ?_ (fun _ k => XS.iloadN X.here hx rfl (hb hby d2_140) rfl k)
    refine Ends.step (u' := (T.setTop (mkF m 143 #[.val (.int x0)] [(.int (55296 : Int32)), (.int x0)]))) ?_ (fun _ k => X.ldcI hx hown (mvT hZ (hw _ (List.mem_of_getElem? (i := 17) rfl))) rfl (hb hby d2_141) k)
    refine Ends.step (u' := (T.setTop (mkF m 145 #[.val (.int x0)] [(.int (63743 : Int32)), (.int (55296 : Int32)), (.int x0)]))) ?_ (fun _ k => X.ldcI hx hown (mvT hZ (hw _ (List.mem_of_getElem? (i := 18) rfl))) rfl (hb hby d2_143) k)
    refine Ends.callS X hx hZ hown (hw _ (List.mem_of_getElem? (i := 13) rfl)) (hw _ (List.mem_of_getElem? (i := 14) rfl)) (hw _ (List.mem_of_getElem? (i := 10) rfl)) (hw _ (List.mem_of_getElem? (i := 15) rfl)) (by decide) (rm3 l Z a0 hw x0 (55296 : Int32) (63743 : Int32) h0 n0 Z0) 0 (by decide) (by decide) eT  (g := (mkF m 145 #[.val (.int x0)] [(.int (63743 : Int32)), (.int (55296 : Int32)), (.int x0)])) rfl (by rw [hml]; rfl)  [(.int x0), (.int (55296 : Int32)), (.int (63743 : Int32))] [] (lenOf pd_0 rfl) rfl (by show 2 * 0 + _ ≤ _; exact Nat.le_of_eq rfl) (hb hby d2_145) rfl (by decide) (by decide) (fun v3 T3 L3 X3 hQ3 => ?_)
    obtain ⟨rfl, Nq3, e3⟩ := hQ3
    have N3 := Fr.app N Nq3
    show Ends p e below s _ _ _ (T3.setTop (mkF m 148 #[.val (.int x0)] [(.int (F3 x0 (55296 : Int32) (63743 : Int32)))]))
    by_cases hc148 : (F3 x0 (55296 : Int32) (63743 : Int32)) = 0
    · refine Eq.mp (congrArg (fun z => Ends p e below s 0 0 (Q2 Z  h0 n0 z) (T3.setTop (mkF m 148 #[.val (.int x0)] [(.int (F3 x0 (55296 : Int32) (63743 : Int32)))]))) (show (F2_140 x0) = (F2_153 x0) from (if_pos hc148)).symm) ?_
      refine Ends.step (u' := (T3.setTop (mkF m 153 #[.val (.int x0)] []))) ?_ (fun _ k => XS.ifYes X3.here hx rfl (pc0 := 148) (pc' := 153) rfl (hb hby d2_148) rfl (XT.i0_eq_t hc148) (by decide) (by decide) k)
      exact b153 T3 _ X3 e3 N3 x0
    · refine Eq.mp (congrArg (fun z => Ends p e below s 0 0 (Q2 Z  h0 n0 z) (T3.setTop (mkF m 148 #[.val (.int x0)] [(.int (F3 x0 (55296 : Int32) (63743 : Int32)))]))) (show (F2_140 x0) = F2_151 from (if_neg hc148)).symm) ?_
      refine Ends.step (u' := (T3.setTop (mkF m 151 #[.val (.int x0)] []))) ?_ (fun _ k => XS.ifNo X3.here hx rfl (hb hby d2_148) rfl (XT.i0_eq_f hc148) k)
      exact b151 T3 _ X3 e3 N3 (.val (.int x0)) (Or.inr ⟨_, rfl, rfl⟩)
  have b125 : ∀ (T : State) (L : List Loc) (X : Stand p l e ({ frames := 1, cells := 0, slots := 0, locals := 14 } : Room) s m #[(.int p0)] below meth c T L 0 0) (eT : T.heap = h0) (N : Fr n0 L) (x0 : Int32), Ends p e below s 0 0 (Q2 Z  h0 n0 (F2_125 x0)) (T.setTop (mkF m 125 #[.val (.int x0)] [])) := by
    intro T L X eT N x0
    refine Ends.step (u' := (T.setTop (mkF m 126 #[.val (.int x0)] [(.int x0)]))) ?_ (fun _ k => XS.iloadN X.here hx rfl (hb hby d2_125) rfl k)
    refine Ends.step (u' := (T.setTop (mkF m 129 #[.val (.int x0)] [(.int (12272 : Int32)), (.int x0)]))) ?_ (fun _ k => XT.sipushV X.here hx rfl (12272 : Int32) (hb hby d2_126) rfl k)
    refine Ends.step (u' := (T.setTop (mkF m 132 #[.val (.int x0)] [(.int (12288 : Int32)), (.int (12272 : Int32)), (.int x0)]))) ?_ (fun _ k => XT.sipushV X.here hx rfl (12288 : Int32) (hb hby d2_129) rfl k)
    refine Ends.callS X hx hZ hown (hw _ (List.mem_of_getElem? (i := 13) rfl)) (hw _ (List.mem_of_getElem? (i := 14) rfl)) (hw _ (List.mem_of_getElem? (i := 10) rfl)) (hw _ (List.mem_of_getElem? (i := 15) rfl)) (by decide) (rm3 l Z a0 hw x0 (12272 : Int32) (12288 : Int32) h0 n0 Z0) 0 (by decide) (by decide) eT  (g := (mkF m 132 #[.val (.int x0)] [(.int (12288 : Int32)), (.int (12272 : Int32)), (.int x0)])) rfl (by rw [hml]; rfl)  [(.int x0), (.int (12272 : Int32)), (.int (12288 : Int32))] [] (lenOf pd_0 rfl) rfl (by show 2 * 0 + _ ≤ _; exact Nat.le_of_eq rfl) (hb hby d2_132) rfl (by decide) (by decide) (fun v4 T4 L4 X4 hQ4 => ?_)
    obtain ⟨rfl, Nq4, e4⟩ := hQ4
    have N4 := Fr.app N Nq4
    show Ends p e below s _ _ _ (T4.setTop (mkF m 135 #[.val (.int x0)] [(.int (F3 x0 (12272 : Int32) (12288 : Int32)))]))
    by_cases hc135 : (F3 x0 (12272 : Int32) (12288 : Int32)) = 0
    · refine Eq.mp (congrArg (fun z => Ends p e below s 0 0 (Q2 Z  h0 n0 z) (T4.setTop (mkF m 135 #[.val (.int x0)] [(.int (F3 x0 (12272 : Int32) (12288 : Int32)))]))) (show (F2_125 x0) = (F2_140 x0) from (if_pos hc135)).symm) ?_
      refine Ends.step (u' := (T4.setTop (mkF m 140 #[.val (.int x0)] []))) ?_ (fun _ k => XS.ifYes X4.here hx rfl (pc0 := 135) (pc' := 140) rfl (hb hby d2_135) rfl (XT.i0_eq_t hc135) (by decide) (by decide) k)
      exact b140 T4 _ X4 e4 N4 x0
    · refine Eq.mp (congrArg (fun z => Ends p e below s 0 0 (Q2 Z  h0 n0 z) (T4.setTop (mkF m 135 #[.val (.int x0)] [(.int (F3 x0 (12272 : Int32) (12288 : Int32)))]))) (show (F2_125 x0) = F2_138 from (if_neg hc135)).symm) ?_
      refine Ends.step (u' := (T4.setTop (mkF m 138 #[.val (.int x0)] []))) ?_ (fun _ k => XS.ifNo X4.here hx rfl (hb hby d2_135) rfl (XT.i0_eq_f hc135) k)
      exact b138 T4 _ X4 e4 N4 (.val (.int x0)) (Or.inr ⟨_, rfl, rfl⟩)
  have b110 : ∀ (T : State) (L : List Loc) (X : Stand p l e ({ frames := 1, cells := 0, slots := 0, locals := 14 } : Room) s m #[(.int p0)] below meth c T L 0 0) (eT : T.heap = h0) (N : Fr n0 L) (x0 : Int32), Ends p e below s 0 0 (Q2 Z  h0 n0 (F2_110 x0)) (T.setTop (mkF m 110 #[.val (.int x0)] [])) := by
    intro T L X eT N x0
    refine Ends.step (u' := (T.setTop (mkF m 111 #[.val (.int x0)] [(.int x0)]))) ?_ (fun _ k => XS.iloadN X.here hx rfl (hb hby d2_110) rfl k)
    refine Ends.step (u' := (T.setTop (mkF m 114 #[.val (.int x0)] [(.int (8592 : Int32)), (.int x0)]))) ?_ (fun _ k => XT.sipushV X.here hx rfl (8592 : Int32) (hb hby d2_111) rfl k)
    refine Ends.step (u' := (T.setTop (mkF m 117 #[.val (.int x0)] [(.int (11263 : Int32)), (.int (8592 : Int32)), (.int x0)]))) ?_ (fun _ k => XT.sipushV X.here hx rfl (11263 : Int32) (hb hby d2_114) rfl k)
    refine Ends.callS X hx hZ hown (hw _ (List.mem_of_getElem? (i := 13) rfl)) (hw _ (List.mem_of_getElem? (i := 14) rfl)) (hw _ (List.mem_of_getElem? (i := 10) rfl)) (hw _ (List.mem_of_getElem? (i := 15) rfl)) (by decide) (rm3 l Z a0 hw x0 (8592 : Int32) (11263 : Int32) h0 n0 Z0) 0 (by decide) (by decide) eT  (g := (mkF m 117 #[.val (.int x0)] [(.int (11263 : Int32)), (.int (8592 : Int32)), (.int x0)])) rfl (by rw [hml]; rfl)  [(.int x0), (.int (8592 : Int32)), (.int (11263 : Int32))] [] (lenOf pd_0 rfl) rfl (by show 2 * 0 + _ ≤ _; exact Nat.le_of_eq rfl) (hb hby d2_117) rfl (by decide) (by decide) (fun v5 T5 L5 X5 hQ5 => ?_)
    obtain ⟨rfl, Nq5, e5⟩ := hQ5
    have N5 := Fr.app N Nq5
    show Ends p e below s _ _ _ (T5.setTop (mkF m 120 #[.val (.int x0)] [(.int (F3 x0 (8592 : Int32) (11263 : Int32)))]))
    by_cases hc120 : (F3 x0 (8592 : Int32) (11263 : Int32)) = 0
    · refine Eq.mp (congrArg (fun z => Ends p e below s 0 0 (Q2 Z  h0 n0 z) (T5.setTop (mkF m 120 #[.val (.int x0)] [(.int (F3 x0 (8592 : Int32) (11263 : Int32)))]))) (show (F2_110 x0) = (F2_125 x0) from (if_pos hc120)).symm) ?_
      refine Ends.step (u' := (T5.setTop (mkF m 125 #[.val (.int x0)] []))) ?_ (fun _ k => XS.ifYes X5.here hx rfl (pc0 := 120) (pc' := 125) rfl (hb hby d2_120) rfl (XT.i0_eq_t hc120) (by decide) (by decide) k)
      exact b125 T5 _ X5 e5 N5 x0
    · refine Eq.mp (congrArg (fun z => Ends p e below s 0 0 (Q2 Z  h0 n0 z) (T5.setTop (mkF m 120 #[.val (.int x0)] [(.int (F3 x0 (8592 : Int32) (11263 : Int32)))]))) (show (F2_110 x0) = F2_123 from (if_neg hc120)).symm) ?_
      refine Ends.step (u' := (T5.setTop (mkF m 123 #[.val (.int x0)] []))) ?_ (fun _ k => XS.ifNo X5.here hx rfl (hb hby d2_120) rfl (XT.i0_eq_f hc120) k)
      exact b123 T5 _ X5 e5 N5 (.val (.int x0)) (Or.inr ⟨_, rfl, rfl⟩)
  have b95 : ∀ (T : State) (L : List Loc) (X : Stand p l e ({ frames := 1, cells := 0, slots := 0, locals := 14 } : Room) s m #[(.int p0)] below meth c T L 0 0) (eT : T.heap = h0) (N : Fr n0 L) (x0 : Int32), Ends p e below s 0 0 (Q2 Z  h0 n0 (F2_95 x0)) (T.setTop (mkF m 95 #[.val (.int x0)] [])) := by
    intro T L X eT N x0
    refine Ends.step (u' := (T.setTop (mkF m 96 #[.val (.int x0)] [(.int x0)]))) ?_ (fun _ k => XS.iloadN X.here hx rfl (hb hby d2_95) rfl k)
    refine Ends.step (u' := (T.setTop (mkF m 99 #[.val (.int x0)] [(.int (8206 : Int32)), (.int x0)]))) ?_ (fun _ k => XT.sipushV X.here hx rfl (8206 : Int32) (hb hby d2_96) rfl k)
    refine Ends.step (u' := (T.setTop (mkF m 102 #[.val (.int x0)] [(.int (8303 : Int32)), (.int (8206 : Int32)), (.int x0)]))) ?_ (fun _ k => XT.sipushV X.here hx rfl (8303 : Int32) (hb hby d2_99) rfl k)
    refine Ends.callS X hx hZ hown (hw _ (List.mem_of_getElem? (i := 13) rfl)) (hw _ (List.mem_of_getElem? (i := 14) rfl)) (hw _ (List.mem_of_getElem? (i := 10) rfl)) (hw _ (List.mem_of_getElem? (i := 15) rfl)) (by decide) (rm3 l Z a0 hw x0 (8206 : Int32) (8303 : Int32) h0 n0 Z0) 0 (by decide) (by decide) eT  (g := (mkF m 102 #[.val (.int x0)] [(.int (8303 : Int32)), (.int (8206 : Int32)), (.int x0)])) rfl (by rw [hml]; rfl)  [(.int x0), (.int (8206 : Int32)), (.int (8303 : Int32))] [] (lenOf pd_0 rfl) rfl (by show 2 * 0 + _ ≤ _; exact Nat.le_of_eq rfl) (hb hby d2_102) rfl (by decide) (by decide) (fun v6 T6 L6 X6 hQ6 => ?_)
    obtain ⟨rfl, Nq6, e6⟩ := hQ6
    have N6 := Fr.app N Nq6
    show Ends p e below s _ _ _ (T6.setTop (mkF m 105 #[.val (.int x0)] [(.int (F3 x0 (8206 : Int32) (8303 : Int32)))]))
    by_cases hc105 : (F3 x0 (8206 : Int32) (8303 : Int32)) = 0
    · refine Eq.mp (congrArg (fun z => Ends p e below s 0 0 (Q2 Z  h0 n0 z) (T6.setTop (mkF m 105 #[.val (.int x0)] [(.int (F3 x0 (8206 : Int32) (8303 : Int32)))]))) (show (F2_95 x0) = (F2_110 x0) from (if_pos hc105)).symm) ?_
      refine Ends.step (u' := (T6.setTop (mkF m 110 #[.val (.int x0)] []))) ?_ (fun _ k => XS.ifYes X6.here hx rfl (pc0 := 105) (pc' := 110) rfl (hb hby d2_105) rfl (XT.i0_eq_t hc105) (by decide) (by decide) k)
      exact b110 T6 _ X6 e6 N6 x0
    · refine Eq.mp (congrArg (fun z => Ends p e below s 0 0 (Q2 Z  h0 n0 z) (T6.setTop (mkF m 105 #[.val (.int x0)] [(.int (F3 x0 (8206 : Int32) (8303 : Int32)))]))) (show (F2_95 x0) = F2_108 from (if_neg hc105)).symm) ?_
      refine Ends.step (u' := (T6.setTop (mkF m 108 #[.val (.int x0)] []))) ?_ (fun _ k => XS.ifNo X6.here hx rfl (hb hby d2_105) rfl (XT.i0_eq_f hc105) k)
      exact b108 T6 _ X6 e6 N6 (.val (.int x0)) (Or.inr ⟨_, rfl, rfl⟩)
  have b80 : ∀ (T : State) (L : List Loc) (X : Stand p l e ({ frames := 1, cells := 0, slots := 0, locals := 14 } : Room) s m #[(.int p0)] below meth c T L 0 0) (eT : T.heap = h0) (N : Fr n0 L) (x0 : Int32), Ends p e below s 0 0 (Q2 Z  h0 n0 (F2_80 x0)) (T.setTop (mkF m 80 #[.val (.int x0)] [])) := by
    intro T L X eT N x0
    refine Ends.step (u' := (T.setTop (mkF m 81 #[.val (.int x0)] [(.int x0)]))) ?_ (fun _ k => XS.iloadN X.here hx rfl (hb hby d2_80) rfl k)
    refine Ends.step (u' := (T.setTop (mkF m 84 #[.val (.int x0)] [(.int (8192 : Int32)), (.int x0)]))) ?_ (fun _ k => XT.sipushV X.here hx rfl (8192 : Int32) (hb hby d2_81) rfl k)
    refine Ends.step (u' := (T.setTop (mkF m 87 #[.val (.int x0)] [(.int (8203 : Int32)), (.int (8192 : Int32)), (.int x0)]))) ?_ (fun _ k => XT.sipushV X.here hx rfl (8203 : Int32) (hb hby d2_84) rfl k)
    refine Ends.callS X hx hZ hown (hw _ (List.mem_of_getElem? (i := 13) rfl)) (hw _ (List.mem_of_getElem? (i := 14) rfl)) (hw _ (List.mem_of_getElem? (i := 10) rfl)) (hw _ (List.mem_of_getElem? (i := 15) rfl)) (by decide) (rm3 l Z a0 hw x0 (8192 : Int32) (8203 : Int32) h0 n0 Z0) 0 (by decide) (by decide) eT  (g := (mkF m 87 #[.val (.int x0)] [(.int (8203 : Int32)), (.int (8192 : Int32)), (.int x0)])) rfl (by rw [hml]; rfl)  [(.int x0), (.int (8192 : Int32)), (.int (8203 : Int32))] [] (lenOf pd_0 rfl) rfl (by show 2 * 0 + _ ≤ _; exact Nat.le_of_eq rfl) (hb hby d2_87) rfl (by decide) (by decide) (fun v7 T7 L7 X7 hQ7 => ?_)
    obtain ⟨rfl, Nq7, e7⟩ := hQ7
    have N7 := Fr.app N Nq7
    show Ends p e below s _ _ _ (T7.setTop (mkF m 90 #[.val (.int x0)] [(.int (F3 x0 (8192 : Int32) (8203 : Int32)))]))
    by_cases hc90 : (F3 x0 (8192 : Int32) (8203 : Int32)) = 0
    · refine Eq.mp (congrArg (fun z => Ends p e below s 0 0 (Q2 Z  h0 n0 z) (T7.setTop (mkF m 90 #[.val (.int x0)] [(.int (F3 x0 (8192 : Int32) (8203 : Int32)))]))) (show (F2_80 x0) = (F2_95 x0) from (if_pos hc90)).symm) ?_
      refine Ends.step (u' := (T7.setTop (mkF m 95 #[.val (.int x0)] []))) ?_ (fun _ k => XS.ifYes X7.here hx rfl (pc0 := 90) (pc' := 95) rfl (hb hby d2_90) rfl (XT.i0_eq_t hc90) (by decide) (by decide) k)
      exact b95 T7 _ X7 e7 N7 x0
    · refine Eq.mp (congrArg (fun z => Ends p e below s 0 0 (Q2 Z  h0 n0 z) (T7.setTop (mkF m 90 #[.val (.int x0)] [(.int (F3 x0 (8192 : Int32) (8203 : Int32)))]))) (show (F2_80 x0) = F2_93 from (if_neg hc90)).symm) ?_
      refine Ends.step (u' := (T7.setTop (mkF m 93 #[.val (.int x0)] []))) ?_ (fun _ k => XS.ifNo X7.here hx rfl (hb hby d2_90) rfl (XT.i0_eq_f hc90) k)
      exact b93 T7 _ X7 e7 N7 (.val (.int x0)) (Or.inr ⟨_, rfl, rfl⟩)
  have b71 : ∀ (T : State) (L : List Loc) (X : Stand p l e ({ frames := 1, cells := 0, slots := 0, locals := 14 } : Room) s m #[(.int p0)] below meth c T L 0 0) (eT : T.heap = h0) (N : Fr n0 L) (x0 : Int32), Ends p e below s 0 0 (Q2 Z  h0 n0 (F2_71 x0)) (T.setTop (mkF m 71 #[.val (.int x0)] [])) := by
    intro T L X eT N x0
    refine Ends.step (u' := (T.setTop (mkF m 72 #[.val (.int x0)] [(.int x0)]))) ?_ (fun _ k => XS.iloadN X.here hx rfl (hb hby d2_71) rfl k)
    refine Ends.step (u' := (T.setTop (mkF m 75 #[.val (.int x0)] [(.int (894 : Int32)), (.int x0)]))) ?_ (fun _ k => XT.sipushV X.here hx rfl (894 : Int32) (hb hby d2_72) rfl k)
    by_cases hc75 : x0 = (894 : Int32)
    · refine Eq.mp (congrArg (fun z => Ends p e below s 0 0 (Q2 Z  h0 n0 z) (T.setTop (mkF m 75 #[.val (.int x0)] [(.int (894 : Int32)), (.int x0)]))) (show (F2_71 x0) = F2_78 from (if_pos hc75)).symm) ?_
      refine Ends.step (u' := (T.setTop (mkF m 78 #[.val (.int x0)] []))) ?_ (fun _ k => XS.icmpNo X.here hx rfl (hb hby d2_75) rfl (XT.ii_ne_f hc75) k)
      exact b78 T _ X eT N (.val (.int x0)) (Or.inr ⟨_, rfl, rfl⟩)
    · refine Eq.mp (congrArg (fun z => Ends p e below s 0 0 (Q2 Z  h0 n0 z) (T.setTop (mkF m 75 #[.val (.int x0)] [(.int (894 : Int32)), (.int x0)]))) (show (F2_71 x0) = (F2_80 x0) from (if_neg hc75)).symm) ?_
      refine Ends.step (u' := (T.setTop (mkF m 80 #[.val (.int x0)] []))) ?_ (fun _ k => XS.icmpYes X.here hx rfl (pc0 := 75) (pc' := 80) rfl (hb hby d2_75) rfl (XT.ii_ne_t hc75) (by decide) (by decide) k)
      exact b80 T _ X eT N x0
  have b56 : ∀ (T : State) (L : List Loc) (X : Stand p l e ({ frames := 1, cells := 0, slots := 0, locals := 14 } : Room) s m #[(.int p0)] below meth c T L 0 0) (eT : T.heap = h0) (N : Fr n0 L) (x0 : Int32), Ends p e below s 0 0 (Q2 Z  h0 n0 (F2_56 x0)) (T.setTop (mkF m 56 #[.val (.int x0)] [])) := by
    intro T L X eT N x0
    refine Ends.step (u' := (T.setTop (mkF m 57 #[.val (.int x0)] [(.int x0)]))) ?_ (fun _ k => XS.iloadN X.here hx rfl (hb hby d2_56) rfl k)
    refine Ends.step (u' := (T.setTop (mkF m 60 #[.val (.int x0)] [(.int (768 : Int32)), (.int x0)]))) ?_ (fun _ k => XT.sipushV X.here hx rfl (768 : Int32) (hb hby d2_57) rfl k)
    refine Ends.step (u' := (T.setTop (mkF m 63 #[.val (.int x0)] [(.int (879 : Int32)), (.int (768 : Int32)), (.int x0)]))) ?_ (fun _ k => XT.sipushV X.here hx rfl (879 : Int32) (hb hby d2_60) rfl k)
    refine Ends.callS X hx hZ hown (hw _ (List.mem_of_getElem? (i := 13) rfl)) (hw _ (List.mem_of_getElem? (i := 14) rfl)) (hw _ (List.mem_of_getElem? (i := 10) rfl)) (hw _ (List.mem_of_getElem? (i := 15) rfl)) (by decide) (rm3 l Z a0 hw x0 (768 : Int32) (879 : Int32) h0 n0 Z0) 0 (by decide) (by decide) eT  (g := (mkF m 63 #[.val (.int x0)] [(.int (879 : Int32)), (.int (768 : Int32)), (.int x0)])) rfl (by rw [hml]; rfl)  [(.int x0), (.int (768 : Int32)), (.int (879 : Int32))] [] (lenOf pd_0 rfl) rfl (by show 2 * 0 + _ ≤ _; exact Nat.le_of_eq rfl) (hb hby d2_63) rfl (by decide) (by decide) (fun v8 T8 L8 X8 hQ8 => ?_)
    obtain ⟨rfl, Nq8, e8⟩ := hQ8
    have N8 := Fr.app N Nq8
    show Ends p e below s _ _ _ (T8.setTop (mkF m 66 #[.val (.int x0)] [(.int (F3 x0 (768 : Int32) (879 : Int32)))]))
    by_cases hc66 : (F3 x0 (768 : Int32) (879 : Int32)) = 0
    · refine Eq.mp (congrArg (fun z => Ends p e below s 0 0 (Q2 Z  h0 n0 z) (T8.setTop (mkF m 66 #[.val (.int x0)] [(.int (F3 x0 (768 : Int32) (879 : Int32)))]))) (show (F2_56 x0) = (F2_71 x0) from (if_pos hc66)).symm) ?_
      refine Ends.step (u' := (T8.setTop (mkF m 71 #[.val (.int x0)] []))) ?_ (fun _ k => XS.ifYes X8.here hx rfl (pc0 := 66) (pc' := 71) rfl (hb hby d2_66) rfl (XT.i0_eq_t hc66) (by decide) (by decide) k)
      exact b71 T8 _ X8 e8 N8 x0
    · refine Eq.mp (congrArg (fun z => Ends p e below s 0 0 (Q2 Z  h0 n0 z) (T8.setTop (mkF m 66 #[.val (.int x0)] [(.int (F3 x0 (768 : Int32) (879 : Int32)))]))) (show (F2_56 x0) = F2_69 from (if_neg hc66)).symm) ?_
      refine Ends.step (u' := (T8.setTop (mkF m 69 #[.val (.int x0)] []))) ?_ (fun _ k => XS.ifNo X8.here hx rfl (hb hby d2_66) rfl (XT.i0_eq_f hc66) k)
      exact b69 T8 _ X8 e8 N8 (.val (.int x0)) (Or.inr ⟨_, rfl, rfl⟩)
  have b47 : ∀ (T : State) (L : List Loc) (X : Stand p l e ({ frames := 1, cells := 0, slots := 0, locals := 14 } : Room) s m #[(.int p0)] below meth c T L 0 0) (eT : T.heap = h0) (N : Fr n0 L) (x0 : Int32), Ends p e below s 0 0 (Q2 Z  h0 n0 (F2_47 x0)) (T.setTop (mkF m 47 #[.val (.int x0)] [])) := by
    intro T L X eT N x0
    refine Ends.step (u' := (T.setTop (mkF m 48 #[.val (.int x0)] [(.int x0)]))) ?_ (fun _ k => XS.iloadN X.here hx rfl (hb hby d2_47) rfl k)
    refine Ends.step (u' := (T.setTop (mkF m 51 #[.val (.int x0)] [(.int (247 : Int32)), (.int x0)]))) ?_ (fun _ k => XT.sipushV X.here hx rfl (247 : Int32) (hb hby d2_48) rfl k)
    by_cases hc51 : x0 = (247 : Int32)
    · refine Eq.mp (congrArg (fun z => Ends p e below s 0 0 (Q2 Z  h0 n0 z) (T.setTop (mkF m 51 #[.val (.int x0)] [(.int (247 : Int32)), (.int x0)]))) (show (F2_47 x0) = F2_54 from (if_pos hc51)).symm) ?_
      refine Ends.step (u' := (T.setTop (mkF m 54 #[.val (.int x0)] []))) ?_ (fun _ k => XS.icmpNo X.here hx rfl (hb hby d2_51) rfl (XT.ii_ne_f hc51) k)
      exact b54 T _ X eT N (.val (.int x0)) (Or.inr ⟨_, rfl, rfl⟩)
    · refine Eq.mp (congrArg (fun z => Ends p e below s 0 0 (Q2 Z  h0 n0 z) (T.setTop (mkF m 51 #[.val (.int x0)] [(.int (247 : Int32)), (.int x0)]))) (show (F2_47 x0) = (F2_56 x0) from (if_neg hc51)).symm) ?_
      refine Ends.step (u' := (T.setTop (mkF m 56 #[.val (.int x0)] []))) ?_ (fun _ k => XS.icmpYes X.here hx rfl (pc0 := 51) (pc' := 56) rfl (hb hby d2_51) rfl (XT.ii_ne_t hc51) (by decide) (by decide) k)
      exact b56 T _ X eT N x0
  have b40 : ∀ (T : State) (L : List Loc) (X : Stand p l e ({ frames := 1, cells := 0, slots := 0, locals := 14 } : Room) s m #[(.int p0)] below meth c T L 0 0) (eT : T.heap = h0) (N : Fr n0 L) (x0 : Int32), Ends p e below s 0 0 (Q2 Z  h0 n0 (F2_40 x0)) (T.setTop (mkF m 40 #[.val (.int x0)] [])) := by
    intro T L X eT N x0
    refine Ends.step (u' := (T.setTop (mkF m 41 #[.val (.int x0)] [(.int x0)]))) ?_ (fun _ k => XS.iloadN X.here hx rfl (hb hby d2_40) rfl k)
    refine Ends.step (u' := (T.setTop (mkF m 44 #[.val (.int x0)] [(.int (215 : Int32)), (.int x0)]))) ?_ (fun _ k => XT.sipushV X.here hx rfl (215 : Int32) (hb hby d2_41) rfl k)
    by_cases hc44 : x0 = (215 : Int32)
    · refine Eq.mp (congrArg (fun z => Ends p e below s 0 0 (Q2 Z  h0 n0 z) (T.setTop (mkF m 44 #[.val (.int x0)] [(.int (215 : Int32)), (.int x0)]))) (show (F2_40 x0) = F2_54 from (if_pos hc44)).symm) ?_
      refine Ends.step (u' := (T.setTop (mkF m 54 #[.val (.int x0)] []))) ?_ (fun _ k => XS.icmpYes X.here hx rfl (pc0 := 44) (pc' := 54) rfl (hb hby d2_44) rfl (XT.ii_eq_t hc44) (by decide) (by decide) k)
      exact b54 T _ X eT N (.val (.int x0)) (Or.inr ⟨_, rfl, rfl⟩)
    · refine Eq.mp (congrArg (fun z => Ends p e below s 0 0 (Q2 Z  h0 n0 z) (T.setTop (mkF m 44 #[.val (.int x0)] [(.int (215 : Int32)), (.int x0)]))) (show (F2_40 x0) = (F2_47 x0) from (if_neg hc44)).symm) ?_
      refine Ends.step (u' := (T.setTop (mkF m 47 #[.val (.int x0)] []))) ?_ (fun _ k => XS.icmpNo X.here hx rfl (hb hby d2_44) rfl (XT.ii_eq_f hc44) k)
      exact b47 T _ X eT N x0
  have b26 : ∀ (T : State) (L : List Loc) (X : Stand p l e ({ frames := 1, cells := 0, slots := 0, locals := 14 } : Room) s m #[(.int p0)] below meth c T L 0 0) (eT : T.heap = h0) (N : Fr n0 L) (x0 : Int32), Ends p e below s 0 0 (Q2 Z  h0 n0 (F2_26 x0)) (T.setTop (mkF m 26 #[.val (.int x0)] [])) := by
    intro T L X eT N x0
    refine Ends.step (u' := (T.setTop (mkF m 27 #[.val (.int x0)] [(.int x0)]))) ?_ (fun _ k => XS.iloadN X.here hx rfl (hb hby d2_26) rfl k)
    refine Ends.step (u' := (T.setTop (mkF m 29 #[.val (.int x0)] [(.int (123 : Int32)), (.int x0)]))) ?_ (fun _ k => XT.bipushV X.here hx rfl (123 : Int32) (hb hby d2_27) rfl k)
    refine Ends.step (u' := (T.setTop (mkF m 32 #[.val (.int x0)] [(.int (191 : Int32)), (.int (123 : Int32)), (.int x0)]))) ?_ (fun _ k => XT.sipushV X.here hx rfl (191 : Int32) (hb hby d2_29) rfl k)
    refine Ends.callS X hx hZ hown (hw _ (List.mem_of_getElem? (i := 13) rfl)) (hw _ (List.mem_of_getElem? (i := 14) rfl)) (hw _ (List.mem_of_getElem? (i := 10) rfl)) (hw _ (List.mem_of_getElem? (i := 15) rfl)) (by decide) (rm3 l Z a0 hw x0 (123 : Int32) (191 : Int32) h0 n0 Z0) 0 (by decide) (by decide) eT  (g := (mkF m 32 #[.val (.int x0)] [(.int (191 : Int32)), (.int (123 : Int32)), (.int x0)])) rfl (by rw [hml]; rfl)  [(.int x0), (.int (123 : Int32)), (.int (191 : Int32))] [] (lenOf pd_0 rfl) rfl (by show 2 * 0 + _ ≤ _; exact Nat.le_of_eq rfl) (hb hby d2_32) rfl (by decide) (by decide) (fun v9 T9 L9 X9 hQ9 => ?_)
    obtain ⟨rfl, Nq9, e9⟩ := hQ9
    have N9 := Fr.app N Nq9
    show Ends p e below s _ _ _ (T9.setTop (mkF m 35 #[.val (.int x0)] [(.int (F3 x0 (123 : Int32) (191 : Int32)))]))
    by_cases hc35 : (F3 x0 (123 : Int32) (191 : Int32)) = 0
    · refine Eq.mp (congrArg (fun z => Ends p e below s 0 0 (Q2 Z  h0 n0 z) (T9.setTop (mkF m 35 #[.val (.int x0)] [(.int (F3 x0 (123 : Int32) (191 : Int32)))]))) (show (F2_26 x0) = (F2_40 x0) from (if_pos hc35)).symm) ?_
      refine Ends.step (u' := (T9.setTop (mkF m 40 #[.val (.int x0)] []))) ?_ (fun _ k => XS.ifYes X9.here hx rfl (pc0 := 35) (pc' := 40) rfl (hb hby d2_35) rfl (XT.i0_eq_t hc35) (by decide) (by decide) k)
      exact b40 T9 _ X9 e9 N9 x0
    · refine Eq.mp (congrArg (fun z => Ends p e below s 0 0 (Q2 Z  h0 n0 z) (T9.setTop (mkF m 35 #[.val (.int x0)] [(.int (F3 x0 (123 : Int32) (191 : Int32)))]))) (show (F2_26 x0) = F2_38 from (if_neg hc35)).symm) ?_
      refine Ends.step (u' := (T9.setTop (mkF m 38 #[.val (.int x0)] []))) ?_ (fun _ k => XS.ifNo X9.here hx rfl (hb hby d2_35) rfl (XT.i0_eq_f hc35) k)
      exact b38 T9 _ X9 e9 N9 (.val (.int x0)) (Or.inr ⟨_, rfl, rfl⟩)
  have b13 : ∀ (T : State) (L : List Loc) (X : Stand p l e ({ frames := 1, cells := 0, slots := 0, locals := 14 } : Room) s m #[(.int p0)] below meth c T L 0 0) (eT : T.heap = h0) (N : Fr n0 L) (x0 : Int32), Ends p e below s 0 0 (Q2 Z  h0 n0 (F2_13 x0)) (T.setTop (mkF m 13 #[.val (.int x0)] [])) := by
    intro T L X eT N x0
    refine Ends.step (u' := (T.setTop (mkF m 14 #[.val (.int x0)] [(.int x0)]))) ?_ (fun _ k => XS.iloadN X.here hx rfl (hb hby d2_13) rfl k)
    refine Ends.step (u' := (T.setTop (mkF m 16 #[.val (.int x0)] [(.int (91 : Int32)), (.int x0)]))) ?_ (fun _ k => XT.bipushV X.here hx rfl (91 : Int32) (hb hby d2_14) rfl k)
    refine Ends.step (u' := (T.setTop (mkF m 18 #[.val (.int x0)] [(.int (96 : Int32)), (.int (91 : Int32)), (.int x0)]))) ?_ (fun _ k => XT.bipushV X.here hx rfl (96 : Int32) (hb hby d2_16) rfl k)
    refine Ends.callS X hx hZ hown (hw _ (List.mem_of_getElem? (i := 13) rfl)) (hw _ (List.mem_of_getElem? (i := 14) rfl)) (hw _ (List.mem_of_getElem? (i := 10) rfl)) (hw _ (List.mem_of_getElem? (i := 15) rfl)) (by decide) (rm3 l Z a0 hw x0 (91 : Int32) (96 : Int32) h0 n0 Z0) 0 (by decide) (by decide) eT  (g := (mkF m 18 #[.val (.int x0)] [(.int (96 : Int32)), (.int (91 : Int32)), (.int x0)])) rfl (by rw [hml]; rfl)  [(.int x0), (.int (91 : Int32)), (.int (96 : Int32))] [] (lenOf pd_0 rfl) rfl (by show 2 * 0 + _ ≤ _; exact Nat.le_of_eq rfl) (hb hby d2_18) rfl (by decide) (by decide) (fun v10 T10 L10 X10 hQ10 => ?_)
    obtain ⟨rfl, Nq10, e10⟩ := hQ10
    have N10 := Fr.app N Nq10
    show Ends p e below s _ _ _ (T10.setTop (mkF m 21 #[.val (.int x0)] [(.int (F3 x0 (91 : Int32) (96 : Int32)))]))
    by_cases hc21 : (F3 x0 (91 : Int32) (96 : Int32)) = 0
    · refine Eq.mp (congrArg (fun z => Ends p e below s 0 0 (Q2 Z  h0 n0 z) (T10.setTop (mkF m 21 #[.val (.int x0)] [(.int (F3 x0 (91 : Int32) (96 : Int32)))]))) (show (F2_13 x0) = (F2_26 x0) from (if_pos hc21)).symm) ?_
      refine Ends.step (u' := (T10.setTop (mkF m 26 #[.val (.int x0)] []))) ?_ (fun _ k => XS.ifYes X10.here hx rfl (pc0 := 21) (pc' := 26) rfl (hb hby d2_21) rfl (XT.i0_eq_t hc21) (by decide) (by decide) k)
      exact b26 T10 _ X10 e10 N10 x0
    · refine Eq.mp (congrArg (fun z => Ends p e below s 0 0 (Q2 Z  h0 n0 z) (T10.setTop (mkF m 21 #[.val (.int x0)] [(.int (F3 x0 (91 : Int32) (96 : Int32)))]))) (show (F2_13 x0) = F2_24 from (if_neg hc21)).symm) ?_
      refine Ends.step (u' := (T10.setTop (mkF m 24 #[.val (.int x0)] []))) ?_ (fun _ k => XS.ifNo X10.here hx rfl (hb hby d2_21) rfl (XT.i0_eq_f hc21) k)
      exact b24 T10 _ X10 e10 N10 (.val (.int x0)) (Or.inr ⟨_, rfl, rfl⟩)
  refine Ends.step (u' := (s₁.setTop (mkF m 0 #[.val (.int p0)] []))) ?_ (fun _ k => castTop (ef_2 m p0) k)
  refine Ends.step (u' := (s₁.setTop (mkF m 1 #[.val (.int p0)] [(.int p0)]))) ?_ (fun _ k => XS.iloadN X0.here hx rfl (hb hby d2_0) rfl k)
  refine Ends.step (u' := (s₁.setTop (mkF m 3 #[.val (.int p0)] [(.int (65 : Int32)), (.int p0)]))) ?_ (fun _ k => XT.bipushV X0.here hx rfl (65 : Int32) (hb hby d2_1) rfl k)
  refine Ends.step (u' := (s₁.setTop (mkF m 5 #[.val (.int p0)] [(.int (983039 : Int32)), (.int (65 : Int32)), (.int p0)]))) ?_ (fun _ k => X0.ldcI hx hown (mvT hZ (hw _ (List.mem_of_getElem? (i := 12) rfl))) rfl (hb hby d2_3) k)
  refine Ends.callS X0 hx hZ hown (hw _ (List.mem_of_getElem? (i := 13) rfl)) (hw _ (List.mem_of_getElem? (i := 14) rfl)) (hw _ (List.mem_of_getElem? (i := 10) rfl)) (hw _ (List.mem_of_getElem? (i := 15) rfl)) (by decide) (rm3 l Z a0 hw p0 (65 : Int32) (983039 : Int32) h0 n0 Z0) 0 (by decide) (by decide) e0  (g := (mkF m 5 #[.val (.int p0)] [(.int (983039 : Int32)), (.int (65 : Int32)), (.int p0)])) rfl (by rw [hml]; rfl)  [(.int p0), (.int (65 : Int32)), (.int (983039 : Int32))] [] (lenOf pd_0 rfl) rfl (by show 2 * 0 + _ ≤ _; exact Nat.le_of_eq rfl) (hb hby d2_5) rfl (by decide) (by decide) (fun v11 T11 L11 X11 hQ11 => ?_)
  obtain ⟨rfl, Nq11, e11⟩ := hQ11
  have N11 := Fr.app N0 Nq11
  show Ends p e below s _ _ _ (T11.setTop (mkF m 8 #[.val (.int p0)] [(.int (F3 p0 (65 : Int32) (983039 : Int32)))]))
  by_cases hc8 : (F3 p0 (65 : Int32) (983039 : Int32)) = 0
  · refine Eq.mp (congrArg (fun z => Ends p e below s 0 0 (Q2 Z  h0 n0 z) (T11.setTop (mkF m 8 #[.val (.int p0)] [(.int (F3 p0 (65 : Int32) (983039 : Int32)))]))) (show (F2 p0) = F2_11 from (if_pos hc8)).symm) ?_
    refine Ends.step (u' := (T11.setTop (mkF m 11 #[.val (.int p0)] []))) ?_ (fun _ k => XS.ifNo X11.here hx rfl (hb hby d2_8) rfl (XT.i0_ne_f hc8) k)
    exact b11 T11 _ X11 e11 N11 (.val (.int p0)) (Or.inr ⟨_, rfl, rfl⟩)
  · refine Eq.mp (congrArg (fun z => Ends p e below s 0 0 (Q2 Z  h0 n0 z) (T11.setTop (mkF m 8 #[.val (.int p0)] [(.int (F3 p0 (65 : Int32) (983039 : Int32)))]))) (show (F2 p0) = (F2_13 p0) from (if_neg hc8)).symm) ?_
    refine Ends.step (u' := (T11.setTop (mkF m 13 #[.val (.int p0)] []))) ?_ (fun _ k => XS.ifYes X11.here hx rfl (pc0 := 8) (pc' := 13) rfl (hb hby d2_8) rfl (XT.i0_ne_t hc8) (by decide) (by decide) k)
    exact b13 T11 _ X11 e11 N11 p0
theorem pn_0 : plainFor x = true := by first | exact plainFor_of_name (by first | (simp [plainName, overriddenIn]; done) | decide +kernel) | decide +kernel
theorem ef_0 (m : MethodId) (y0 : Int32) (y1 : Int32) : entryFrame m #[(.int y0), (.int y1)] maxLocals = mkF m 0 #[.val (.int y0), .val (.int y1), .unset, .unset] [] := by first | (simp [entryFrame, mkF, argsToLocals, Value.category, maxLocals]; done) | rfl
def Q0 (Z : State)   (h0 : Heap) (n0 : Nat) (ans : Int32) (v : Option Value) (h : Heap) (L : List Loc) : Prop := v = some (.int ans) ∧ Fr n0 L
set_option maxRecDepth 65536 in
set_option maxHeartbeats 40000000 in
theorem rm0 (l : Launch) (Z : State) (a0 : Array Value) (hw : ∀ d ∈ tables_1, d.before a0 Z = true) (p0 : Int32) (p1 : Int32)  (h0 : Heap) (n0 : Nat) (Z0 : n0 ≤ h0.size)  :
    Meets l Z x code maxLocals ret tables_1 room_1 #[(.int p0), (.int p1)] h0 (Q0 Z  h0 n0 (F0 p0 p1)) 0 0 := by
  refine Meets.of pn_0 ?_
  intro p e s m below meth c s₁ hx hby hml hZ hown hnm hret hlk X0 e0
  have hml : c.maxLocals = 4 := hml
  have hown : s.vm.findClass "com/example/taxigraph/taxigraph/NameCharactersIsBasePinLaw" = some m.cls := hown
  have N0 := Fr.nil n0
  have b61 : ∀ (T : State) (L : List Loc) (X : Stand p l e room_1 s m #[(.int p0), (.int p1)] below meth c T L 0 0) (eT : T.heap = h0) (N : Fr n0 L) (t0 : Int32) (d0 : Slot) (od0 : OneS d0) (d1 : Slot) (od1 : OneS d1) (d2 : Slot) (od2 : OneS d2) (d3 : Slot) (od3 : OneS d3), Ends p e below s 0 0 (Q0 Z  h0 n0 (F0_61 t0)) (T.setTop (mkF m 61 #[d0, d1, d2, d3] [(.int t0)])) := by
    intro T L X eT N t0 d0 od0 d1 od1 d2 od2 d3 od3
    exact Ends.ret X (v := some (.int (nar .boolean t0))) (fun q => by rw [hret] at q; cases q) hlk (fun fs hr => retN X hx (t := .boolean) hret (by simp) (hb hby at_61) hr) (by decide) (by decide) ⟨rfl, N⟩
  have b56 : ∀ (T : State) (L : List Loc) (X : Stand p l e room_1 s m #[(.int p0), (.int p1)] below meth c T L 0 0) (eT : T.heap = h0) (N : Fr n0 L) (d0 : Slot) (od0 : OneS d0) (d1 : Slot) (od1 : OneS d1) (d2 : Slot) (od2 : OneS d2) (d3 : Slot) (od3 : OneS d3), Ends p e below s 0 0 (Q0 Z  h0 n0 F0_56) (T.setTop (mkF m 56 #[d0, d1, d2, d3] [])) := by
    intro T L X eT N d0 od0 d1 od1 d2 od2 d3 od3
    refine Ends.step (u' := (T.setTop (mkF m 57 #[d0, d1, d2, d3] [(.int (1 : Int32))]))) ?_ (fun _ k => XT.iconstV X.here hx rfl (1 : Int32) (hb hby at_56) rfl k)
    refine Ends.step (u' := (T.setTop (mkF m 61 #[d0, d1, d2, d3] [(.int (1 : Int32))]))) ?_ (fun _ k => XS.goto X.here hx rfl (pc0 := 57) (pc' := 61) rfl (hb hby at_57) (by decide) (by decide) k)
    exact b61 T _ X eT N (1 : Int32) (d0) od0 (d1) od1 (d2) od2 (d3) od3
  have b60 : ∀ (T : State) (L : List Loc) (X : Stand p l e room_1 s m #[(.int p0), (.int p1)] below meth c T L 0 0) (eT : T.heap = h0) (N : Fr n0 L) (d0 : Slot) (od0 : OneS d0) (d1 : Slot) (od1 : OneS d1) (d2 : Slot) (od2 : OneS d2) (d3 : Slot) (od3 : OneS d3), Ends p e below s 0 0 (Q0 Z  h0 n0 F0_60) (T.setTop (mkF m 60 #[d0, d1, d2, d3] [])) := by
    intro T L X eT N d0 od0 d1 od1 d2 od2 d3 od3
    refine Ends.step (u' := (T.setTop (mkF m 61 #[d0, d1, d2, d3] [(.int (0 : Int32))]))) ?_ (fun _ k => XT.iconstV X.here hx rfl (0 : Int32) (hb hby at_60) rfl k)
    exact b61 T _ X eT N (0 : Int32) (d0) od0 (d1) od1 (d2) od2 (d3) od3
  have b45 : ∀ (T : State) (L : List Loc) (X : Stand p l e room_1 s m #[(.int p0), (.int p1)] below meth c T L 0 0) (eT : T.heap = h0) (N : Fr n0 L) (x3 : Int32) (d0 : Slot) (od0 : OneS d0) (d1 : Slot) (od1 : OneS d1) (d2 : Slot) (od2 : OneS d2), Ends p e below s 0 0 (Q0 Z  h0 n0 (F0_45 x3)) (T.setTop (mkF m 45 #[d0, d1, d2, .val (.int x3)] [])) := by
    intro T L X eT N x3 d0 od0 d1 od1 d2 od2
    refine Ends.step (u' := (T.setTop (mkF m 46 #[d0, d1, d2, .val (.int x3)] [(.int x3)]))) ?_ (fun _ k => XS.iloadN X.here hx rfl (hb hby at_45) rfl k)
    refine Ends.callS X hx hZ hown (hw _ (List.mem_of_getElem? (i := 1) rfl)) (hw _ (List.mem_of_getElem? (i := 2) rfl)) (hw _ (List.mem_of_getElem? (i := 3) rfl)) (hw _ (List.mem_of_getElem? (i := 4) rfl)) (by decide) (rm1 l Z a0 hw x3 h0 n0 Z0) 0 (by decide) (by decide) eT  (g := (mkF m 46 #[d0, d1, d2, .val (.int x3)] [(.int x3)])) rfl (by rw [hml]; rfl)  [(.int x3)] [] (lenOf pd_1 rfl) rfl (by show 2 * 0 + _ ≤ _; exact Nat.le_of_eq rfl) (hb hby at_46) rfl (by decide) (by decide) (fun v1 T1 L1 X1 hQ1 => ?_)
    obtain ⟨rfl, Nq1, e1⟩ := hQ1
    have N1 := Fr.app N Nq1
    show Ends p e below s _ _ _ (T1.setTop (mkF m 49 #[d0, d1, d2, .val (.int x3)] [(.int (F1 x3))]))
    refine Ends.step (u' := (T1.setTop (mkF m 50 #[d0, d1, d2, .val (.int x3)] [(.int x3), (.int (F1 x3))]))) ?_ (fun _ k => XS.iloadN X1.here hx rfl (hb hby at_49) rfl k)
    refine Ends.callS X1 hx hZ hown (hw _ (List.mem_of_getElem? (i := 8) rfl)) (hw _ (List.mem_of_getElem? (i := 9) rfl)) (hw _ (List.mem_of_getElem? (i := 10) rfl)) (hw _ (List.mem_of_getElem? (i := 11) rfl)) (by decide) (rm2 l Z a0 hw x3 h0 n0 Z0) 1 (by decide) (by decide) e1  (g := (mkF m 50 #[d0, d1, d2, .val (.int x3)] [(.int x3), (.int (F1 x3))])) rfl (by rw [hml]; rfl)  [(.int x3)] [(.int (F1 x3))] (lenOf pd_1 rfl) rfl (by show 2 * 0 + _ ≤ _; exact Nat.le_of_eq rfl) (hb hby at_50) rfl (by decide) (by decide) (fun v2 T2 L2 X2 hQ2 => ?_)
    obtain ⟨rfl, Nq2, e2⟩ := hQ2
    have N2 := Fr.app N1 Nq2
    show Ends p e below s _ _ _ (T2.setTop (mkF m 53 #[d0, d1, d2, .val (.int x3)] [(.int (F2 x3)), (.int (F1 x3))]))
    by_cases hc53 : (F1 x3) = (F2 x3)
    · refine Eq.mp (congrArg (fun z => Ends p e below s 0 0 (Q0 Z  h0 n0 z) (T2.setTop (mkF m 53 #[d0, d1, d2, .val (.int x3)] [(.int (F2 x3)), (.int (F1 x3))]))) (show (F0_45 x3) = F0_56 from (if_pos hc53)).symm) ?_
      refine Ends.step (u' := (T2.setTop (mkF m 56 #[d0, d1, d2, .val (.int x3)] []))) ?_ (fun _ k => XS.icmpNo X2.here hx rfl (hb hby at_53) rfl (XT.ii_ne_f hc53) k)
      exact b56 T2 _ X2 e2 N2 (d0) od0 (d1) od1 (d2) od2 (.val (.int x3)) (Or.inr ⟨_, rfl, rfl⟩)
    · refine Eq.mp (congrArg (fun z => Ends p e below s 0 0 (Q0 Z  h0 n0 z) (T2.setTop (mkF m 53 #[d0, d1, d2, .val (.int x3)] [(.int (F2 x3)), (.int (F1 x3))]))) (show (F0_45 x3) = F0_60 from (if_neg hc53)).symm) ?_
      refine Ends.step (u' := (T2.setTop (mkF m 60 #[d0, d1, d2, .val (.int x3)] []))) ?_ (fun _ k => XS.icmpYes X2.here hx rfl (pc0 := 53) (pc' := 60) rfl (hb hby at_53) rfl (XT.ii_ne_t hc53) (by decide) (by decide) k)
      exact b60 T2 _ X2 e2 N2 (d0) od0 (d1) od1 (d2) od2 (.val (.int x3)) (Or.inr ⟨_, rfl, rfl⟩)
  have b8 : ∀ (T : State) (L : List Loc) (X : Stand p l e room_1 s m #[(.int p0), (.int p1)] below meth c T L 0 0) (eT : T.heap = h0) (N : Fr n0 L) (x0 : Int32) (d1 : Slot) (od1 : OneS d1) (d2 : Slot) (od2 : OneS d2), Ends p e below s 0 0 (Q0 Z  h0 n0 (F0_8 x0)) (T.setTop (mkF m 8 #[.val (.int x0), d1, d2, .unset] [])) := by
    intro T L X eT N x0 d1 od1 d2 od2
    refine Ends.step (u' := (T.setTop (mkF m 9 #[.val (.int x0), d1, d2, .unset] [(.int x0)]))) ?_ (fun _ k => XS.iloadN X.here hx rfl (hb hby at_8) rfl k)
    refine Ends.step (u' := (T.setTop (mkF m 10 #[.val (.int x0), d1, d2, .val (.int x0)] []))) ?_ (fun _ k => XS.istoreN X.here hx rfl (hb hby at_9) rfl (l' := #[.val (.int x0), d1, d2, .val (.int x0)]) rfl k)
    refine Ends.step (u' := (T.setTop (mkF m 45 #[.val (.int x0), d1, d2, .val (.int x0)] []))) ?_ (fun _ k => XS.goto X.here hx rfl (pc0 := 10) (pc' := 45) rfl (hb hby at_10) (by decide) (by decide) k)
    exact b45 T _ X eT N x0 (.val (.int x0)) (Or.inr ⟨_, rfl, rfl⟩) (d1) od1 (d2) od2
  have b23 : ∀ (T : State) (L : List Loc) (X : Stand p l e room_1 s m #[(.int p0), (.int p1)] below meth c T L 0 0) (eT : T.heap = h0) (N : Fr n0 L) (x3 : Int32) (d0 : Slot) (od0 : OneS d0) (d1 : Slot) (od1 : OneS d1) (d2 : Slot) (od2 : OneS d2), Ends p e below s 0 0 (Q0 Z  h0 n0 (F0_23 x3)) (T.setTop (mkF m 23 #[d0, d1, d2, .val (.int x3)] [])) := by
    intro T L X eT N x3 d0 od0 d1 od1 d2 od2
    refine Ends.step (u' := (T.setTop (mkF m 45 #[d0, d1, d2, .val (.int x3)] []))) ?_ (fun _ k => XS.goto X.here hx rfl (pc0 := 23) (pc' := 45) rfl (hb hby at_23) (by decide) (by decide) k)
    exact b45 T _ X eT N x3 (d0) od0 (d1) od1 (d2) od2
  have b18 : ∀ (T : State) (L : List Loc) (X : Stand p l e room_1 s m #[(.int p0), (.int p1)] below meth c T L 0 0) (eT : T.heap = h0) (N : Fr n0 L) (x0 : Int32) (d1 : Slot) (od1 : OneS d1) (d2 : Slot) (od2 : OneS d2), Ends p e below s 0 0 (Q0 Z  h0 n0 (F0_18 x0)) (T.setTop (mkF m 18 #[.val (.int x0), d1, d2, .unset] [])) := by
    intro T L X eT N x0 d1 od1 d2 od2
    refine Ends.step (u' := (T.setTop (mkF m 19 #[.val (.int x0), d1, d2, .unset] [(.int x0)]))) ?_ (fun _ k => XS.iloadN X.here hx rfl (hb hby at_18) rfl k)
    refine Ends.step (u' := (T.setTop (mkF m 21 #[.val (.int x0), d1, d2, .unset] [(.int (65535 : Int32)), (.int x0)]))) ?_ (fun _ k => X.ldcI hx hown (mvT hZ (hw _ (List.mem_of_getElem? (i := 16) rfl))) rfl (hb hby at_19) k)
    refine Ends.step (u' := (T.setTop (mkF m 22 #[.val (.int x0), d1, d2, .unset] [(.int (x0 &&& (65535 : Int32)))]))) ?_ (fun _ k => XS.iand X.here hx rfl (hb hby at_21) rfl k)
    refine Ends.step (u' := (T.setTop (mkF m 23 #[.val (.int x0), d1, d2, .val (.int (x0 &&& (65535 : Int32)))] []))) ?_ (fun _ k => XS.istoreN X.here hx rfl (hb hby at_22) rfl (l' := #[.val (.int x0), d1, d2, .val (.int (x0 &&& (65535 : Int32)))]) rfl k)
    exact b23 T _ X eT N (x0 &&& (65535 : Int32)) (.val (.int x0)) (Or.inr ⟨_, rfl, rfl⟩) (d1) od1 (d2) od2
  have b37 : ∀ (T : State) (L : List Loc) (X : Stand p l e room_1 s m #[(.int p0), (.int p1)] below meth c T L 0 0) (eT : T.heap = h0) (N : Fr n0 L) (x3 : Int32) (d0 : Slot) (od0 : OneS d0) (d1 : Slot) (od1 : OneS d1) (d2 : Slot) (od2 : OneS d2), Ends p e below s 0 0 (Q0 Z  h0 n0 (F0_37 x3)) (T.setTop (mkF m 37 #[d0, d1, d2, .val (.int x3)] [])) := by
    intro T L X eT N x3 d0 od0 d1 od1 d2 od2
    refine Ends.step (u' := (T.setTop (mkF m 45 #[d0, d1, d2, .val (.int x3)] []))) ?_ (fun _ k => XS.goto X.here hx rfl (pc0 := 37) (pc' := 45) rfl (hb hby at_37) (by decide) (by decide) k)
    exact b45 T _ X eT N x3 (d0) od0 (d1) od1 (d2) od2
  have b31 : ∀ (T : State) (L : List Loc) (X : Stand p l e room_1 s m #[(.int p0), (.int p1)] below meth c T L 0 0) (eT : T.heap = h0) (N : Fr n0 L) (x0 : Int32) (d1 : Slot) (od1 : OneS d1) (d2 : Slot) (od2 : OneS d2), Ends p e below s 0 0 (Q0 Z  h0 n0 (F0_31 x0)) (T.setTop (mkF m 31 #[.val (.int x0), d1, d2, .unset] [])) := by
    intro T L X eT N x0 d1 od1 d2 od2
    refine Ends.step (u' := (T.setTop (mkF m 32 #[.val (.int x0), d1, d2, .unset] [(.int x0)]))) ?_ (fun _ k => XS.iloadN X.here hx rfl (hb hby at_31) rfl k)
    refine Ends.step (u' := (T.setTop (mkF m 35 #[.val (.int x0), d1, d2, .unset] [(.int (16383 : Int32)), (.int x0)]))) ?_ (fun _ k => XT.sipushV X.here hx rfl (16383 : Int32) (hb hby at_32) rfl k)
    refine Ends.step (u' := (T.setTop (mkF m 36 #[.val (.int x0), d1, d2, .unset] [(.int (x0 &&& (16383 : Int32)))]))) ?_ (fun _ k => XS.iand X.here hx rfl (hb hby at_35) rfl k)
    refine Ends.step (u' := (T.setTop (mkF m 37 #[.val (.int x0), d1, d2, .val (.int (x0 &&& (16383 : Int32)))] []))) ?_ (fun _ k => XS.istoreN X.here hx rfl (hb hby at_36) rfl (l' := #[.val (.int x0), d1, d2, .val (.int (x0 &&& (16383 : Int32)))]) rfl k)
    exact b37 T _ X eT N (x0 &&& (16383 : Int32)) (.val (.int x0)) (Or.inr ⟨_, rfl, rfl⟩) (d1) od1 (d2) od2
  have b40 : ∀ (T : State) (L : List Loc) (X : Stand p l e room_1 s m #[(.int p0), (.int p1)] below meth c T L 0 0) (eT : T.heap = h0) (N : Fr n0 L) (x0 : Int32) (d1 : Slot) (od1 : OneS d1) (d2 : Slot) (od2 : OneS d2), Ends p e below s 0 0 (Q0 Z  h0 n0 (F0_40 x0)) (T.setTop (mkF m 40 #[.val (.int x0), d1, d2, .unset] [])) := by
    intro T L X eT N x0 d1 od1 d2 od2
    refine Ends.step (u' := (T.setTop (mkF m 41 #[.val (.int x0), d1, d2, .unset] [(.int x0)]))) ?_ (fun _ k => XS.iloadN X.here hx rfl (hb hby at_40) rfl k)
    refine Ends.step (u' := (T.setTop (mkF m 43 #[.val (.int x0), d1, d2, .unset] [(.int (1048575 : Int32)), (.int x0)]))) ?_ (fun _ k => X.ldcI hx hown (mvT hZ (hw _ (List.mem_of_getElem? (i := 0) rfl))) rfl (hb hby at_41) k)
    refine Ends.step (u' := (T.setTop (mkF m 44 #[.val (.int x0), d1, d2, .unset] [(.int (x0 &&& (1048575 : Int32)))]))) ?_ (fun _ k => XS.iand X.here hx rfl (hb hby at_43) rfl k)
    refine Ends.step (u' := (T.setTop (mkF m 45 #[.val (.int x0), d1, d2, .val (.int (x0 &&& (1048575 : Int32)))] []))) ?_ (fun _ k => XS.istoreN X.here hx rfl (hb hby at_44) rfl (l' := #[.val (.int x0), d1, d2, .val (.int (x0 &&& (1048575 : Int32)))]) rfl k)
    exact b45 T _ X eT N (x0 &&& (1048575 : Int32)) (.val (.int x0)) (Or.inr ⟨_, rfl, rfl⟩) (d1) od1 (d2) od2
  have b26 : ∀ (T : State) (L : List Loc) (X : Stand p l e room_1 s m #[(.int p0), (.int p1)] below meth c T L 0 0) (eT : T.heap = h0) (N : Fr n0 L) (x0 : Int32) (x2 : Int32) (d1 : Slot) (od1 : OneS d1), Ends p e below s 0 0 (Q0 Z  h0 n0 (F0_26 x0 x2)) (T.setTop (mkF m 26 #[.val (.int x0), d1, .val (.int x2), .unset] [])) := by
    intro T L X eT N x0 x2 d1 od1
    refine Ends.step (u' := (T.setTop (mkF m 27 #[.val (.int x0), d1, .val (.int x2), .unset] [(.int x2)]))) ?_ (fun _ k => XS.iloadN X.here hx rfl (hb hby at_26) rfl k)
    refine Ends.step (u' := (T.setTop (mkF m 28 #[.val (.int x0), d1, .val (.int x2), .unset] [(.int (2 : Int32)), (.int x2)]))) ?_ (fun _ k => XT.iconstV X.here hx rfl (2 : Int32) (hb hby at_27) rfl k)
    by_cases hc28 : x2 = (2 : Int32)
    · refine Eq.mp (congrArg (fun z => Ends p e below s 0 0 (Q0 Z  h0 n0 z) (T.setTop (mkF m 28 #[.val (.int x0), d1, .val (.int x2), .unset] [(.int (2 : Int32)), (.int x2)]))) (show (F0_26 x0 x2) = (F0_31 x0) from (if_pos hc28)).symm) ?_
      refine Ends.step (u' := (T.setTop (mkF m 31 #[.val (.int x0), d1, .val (.int x2), .unset] []))) ?_ (fun _ k => XS.icmpNo X.here hx rfl (hb hby at_28) rfl (XT.ii_ne_f hc28) k)
      exact b31 T _ X eT N x0 (d1) od1 (.val (.int x2)) (Or.inr ⟨_, rfl, rfl⟩)
    · refine Eq.mp (congrArg (fun z => Ends p e below s 0 0 (Q0 Z  h0 n0 z) (T.setTop (mkF m 28 #[.val (.int x0), d1, .val (.int x2), .unset] [(.int (2 : Int32)), (.int x2)]))) (show (F0_26 x0 x2) = (F0_40 x0) from (if_neg hc28)).symm) ?_
      refine Ends.step (u' := (T.setTop (mkF m 40 #[.val (.int x0), d1, .val (.int x2), .unset] []))) ?_ (fun _ k => XS.icmpYes X.here hx rfl (pc0 := 28) (pc' := 40) rfl (hb hby at_28) rfl (XT.ii_ne_t hc28) (by decide) (by decide) k)
      exact b40 T _ X eT N x0 (d1) od1 (.val (.int x2)) (Or.inr ⟨_, rfl, rfl⟩)
  have b13 : ∀ (T : State) (L : List Loc) (X : Stand p l e room_1 s m #[(.int p0), (.int p1)] below meth c T L 0 0) (eT : T.heap = h0) (N : Fr n0 L) (x0 : Int32) (x2 : Int32) (d1 : Slot) (od1 : OneS d1), Ends p e below s 0 0 (Q0 Z  h0 n0 (F0_13 x0 x2)) (T.setTop (mkF m 13 #[.val (.int x0), d1, .val (.int x2), .unset] [])) := by
    intro T L X eT N x0 x2 d1 od1
    refine Ends.step (u' := (T.setTop (mkF m 14 #[.val (.int x0), d1, .val (.int x2), .unset] [(.int x2)]))) ?_ (fun _ k => XS.iloadN X.here hx rfl (hb hby at_13) rfl k)
    refine Ends.step (u' := (T.setTop (mkF m 15 #[.val (.int x0), d1, .val (.int x2), .unset] [(.int (1 : Int32)), (.int x2)]))) ?_ (fun _ k => XT.iconstV X.here hx rfl (1 : Int32) (hb hby at_14) rfl k)
    by_cases hc15 : x2 = (1 : Int32)
    · refine Eq.mp (congrArg (fun z => Ends p e below s 0 0 (Q0 Z  h0 n0 z) (T.setTop (mkF m 15 #[.val (.int x0), d1, .val (.int x2), .unset] [(.int (1 : Int32)), (.int x2)]))) (show (F0_13 x0 x2) = (F0_18 x0) from (if_pos hc15)).symm) ?_
      refine Ends.step (u' := (T.setTop (mkF m 18 #[.val (.int x0), d1, .val (.int x2), .unset] []))) ?_ (fun _ k => XS.icmpNo X.here hx rfl (hb hby at_15) rfl (XT.ii_ne_f hc15) k)
      exact b18 T _ X eT N x0 (d1) od1 (.val (.int x2)) (Or.inr ⟨_, rfl, rfl⟩)
    · refine Eq.mp (congrArg (fun z => Ends p e below s 0 0 (Q0 Z  h0 n0 z) (T.setTop (mkF m 15 #[.val (.int x0), d1, .val (.int x2), .unset] [(.int (1 : Int32)), (.int x2)]))) (show (F0_13 x0 x2) = (F0_26 x0 x2) from (if_neg hc15)).symm) ?_
      refine Ends.step (u' := (T.setTop (mkF m 26 #[.val (.int x0), d1, .val (.int x2), .unset] []))) ?_ (fun _ k => XS.icmpYes X.here hx rfl (pc0 := 15) (pc' := 26) rfl (hb hby at_15) rfl (XT.ii_ne_t hc15) (by decide) (by decide) k)
      exact b26 T _ X eT N x0 x2 (d1) od1
  have b4 : ∀ (T : State) (L : List Loc) (X : Stand p l e room_1 s m #[(.int p0), (.int p1)] below meth c T L 0 0) (eT : T.heap = h0) (N : Fr n0 L) (x0 : Int32) (x2 : Int32) (d1 : Slot) (od1 : OneS d1), Ends p e below s 0 0 (Q0 Z  h0 n0 (F0_4 x0 x2)) (T.setTop (mkF m 4 #[.val (.int x0), d1, .val (.int x2), .unset] [])) := by
    intro T L X eT N x0 x2 d1 od1
    refine Ends.step (u' := (T.setTop (mkF m 5 #[.val (.int x0), d1, .val (.int x2), .unset] [(.int x2)]))) ?_ (fun _ k => XS.iloadN X.here hx rfl (hb hby at_4) rfl k)
    by_cases hc5 : x2 = 0
    · refine Eq.mp (congrArg (fun z => Ends p e below s 0 0 (Q0 Z  h0 n0 z) (T.setTop (mkF m 5 #[.val (.int x0), d1, .val (.int x2), .unset] [(.int x2)]))) (show (F0_4 x0 x2) = (F0_8 x0) from (if_pos hc5)).symm) ?_
      refine Ends.step (u' := (T.setTop (mkF m 8 #[.val (.int x0), d1, .val (.int x2), .unset] []))) ?_ (fun _ k => XS.ifNo X.here hx rfl (hb hby at_5) rfl (XT.i0_ne_f hc5) k)
      exact b8 T _ X eT N x0 (d1) od1 (.val (.int x2)) (Or.inr ⟨_, rfl, rfl⟩)
    · refine Eq.mp (congrArg (fun z => Ends p e below s 0 0 (Q0 Z  h0 n0 z) (T.setTop (mkF m 5 #[.val (.int x0), d1, .val (.int x2), .unset] [(.int x2)]))) (show (F0_4 x0 x2) = (F0_13 x0 x2) from (if_neg hc5)).symm) ?_
      refine Ends.step (u' := (T.setTop (mkF m 13 #[.val (.int x0), d1, .val (.int x2), .unset] []))) ?_ (fun _ k => XS.ifYes X.here hx rfl (pc0 := 5) (pc' := 13) rfl (hb hby at_5) rfl (XT.i0_ne_t hc5) (by decide) (by decide) k)
      exact b13 T _ X eT N x0 x2 (d1) od1
  refine Ends.step (u' := (s₁.setTop (mkF m 0 #[.val (.int p0), .val (.int p1), .unset, .unset] []))) ?_ (fun _ k => castTop (ef_0 m p0 p1) k)
  refine Ends.step (u' := (s₁.setTop (mkF m 1 #[.val (.int p0), .val (.int p1), .unset, .unset] [(.int p1)]))) ?_ (fun _ k => XS.iloadN X0.here hx rfl (hb hby at_0) rfl k)
  refine Ends.step (u' := (s₁.setTop (mkF m 2 #[.val (.int p0), .val (.int p1), .unset, .unset] [(.int (3 : Int32)), (.int p1)]))) ?_ (fun _ k => XT.iconstV X0.here hx rfl (3 : Int32) (hb hby at_1) rfl k)
  refine Ends.step (u' := (s₁.setTop (mkF m 3 #[.val (.int p0), .val (.int p1), .unset, .unset] [(.int (p1 &&& (3 : Int32)))]))) ?_ (fun _ k => XS.iand X0.here hx rfl (hb hby at_2) rfl k)
  refine Ends.step (u' := (s₁.setTop (mkF m 4 #[.val (.int p0), .val (.int p1), .val (.int (p1 &&& (3 : Int32))), .unset] []))) ?_ (fun _ k => XS.istoreN X0.here hx rfl (hb hby at_3) rfl (l' := #[.val (.int p0), .val (.int p1), .val (.int (p1 &&& (3 : Int32))), .unset]) rfl k)
  exact b4 s₁ _ X0 e0 N0 p0 (p1 &&& (3 : Int32)) (.val (.int p1)) (Or.inr ⟨_, rfl, rfl⟩)
theorem own_1 : nar .boolean 1 = 1 := rfl
theorem own_0 : nar .boolean 0 = 0 := rfl
theorem own_ne : ((1 : Int32) = 0) = False := by decide
theorem own_rng (x lo hi : Int32) (A B : Int32) : (if x < lo then A else if hi < x then A else B) = if (lo.toInt ≤ x.toInt ∧ x.toInt ≤ hi.toInt) then B else A := by
  simp only [Int32.lt_iff_toInt_lt]
  split
  · rw [if_neg (by omega)]
  · split
    · rw [if_neg (by omega)]
    · rw [if_pos (by omega)]
theorem own_eq (x c : Int32) (A B : Int32) : (if x = c then A else B) = if x.toInt = c.toInt then A else B := by
  simp only [Int32.toInt_inj]
theorem own_or (p q : Prop) [Decidable p] [Decidable q] : (if p then (1 : Int32) else if q then 1 else 0) = if p ∨ q then 1 else 0 := by
  by_cases hp : p <;> by_cases hq : q <;> simp [hp, hq]
theorem own_and (p q : Prop) [Decidable p] [Decidable q] : (if p then (0 : Int32) else if q then 1 else 0) = if ¬ p ∧ q then 1 else 0 := by
  by_cases hp : p <;> by_cases hq : q <;> simp [hp, hq]
theorem own_no (p : Prop) [Decidable p] : (if p then (0 : Int32) else 1) = if ¬ p then 1 else 0 := by
  by_cases hp : p <;> simp [hp]
theorem own_imp (p q : Prop) [Decidable p] [Decidable q] : (if p then (if q then (1 : Int32) else 0) else 0) = if p ∧ q then 1 else 0 := by
  by_cases hp : p <;> by_cases hq : q <;> simp [hp, hq]
theorem own_F3 (x lo hi : Int32) : F3 x lo hi = if (lo.toInt ≤ x.toInt ∧ x.toInt ≤ hi.toInt) then 1 else 0 := own_rng x lo hi 0 1
theorem own_btw (x lo hi : Int32) (A B : Int32) : (if F3 x lo hi = 0 then A else B) = if (lo.toInt ≤ x.toInt ∧ x.toInt ≤ hi.toInt) then B else A := by
  rw [own_F3]
  by_cases h : (lo.toInt ≤ x.toInt ∧ x.toInt ≤ hi.toInt)
  · rw [if_pos h, if_pos h, if_neg (by decide)]
  · rw [if_neg h, if_neg h, if_pos rfl]
theorem own_C1 (x : Int32) : F1 x = if ((97 ≤ x.toInt ∧ x.toInt ≤ 122) ∨ ((65 ≤ x.toInt ∧ x.toInt ≤ 90) ∨ ((192 ≤ x.toInt ∧ x.toInt ≤ 214) ∨ ((216 ≤ x.toInt ∧ x.toInt ≤ 246) ∨ ((248 ≤ x.toInt ∧ x.toInt ≤ 767) ∨ ((880 ≤ x.toInt ∧ x.toInt ≤ 893) ∨ ((895 ≤ x.toInt ∧ x.toInt ≤ 8191) ∨ ((8204 ≤ x.toInt ∧ x.toInt ≤ 8205) ∨ ((8304 ≤ x.toInt ∧ x.toInt ≤ 8591) ∨ ((11264 ≤ x.toInt ∧ x.toInt ≤ 12271) ∨ ((12289 ≤ x.toInt ∧ x.toInt ≤ 55295) ∨ ((63744 ≤ x.toInt ∧ x.toInt ≤ 64975) ∨ ((65008 ≤ x.toInt ∧ x.toInt ≤ 65533) ∨ (65536 ≤ x.toInt ∧ x.toInt ≤ 983039)))))))))))))) then 1 else 0 := by
  have e_F1 : F1 x = if (97 ≤ x.toInt ∧ x.toInt ≤ 122) then 1 else F1_12 x := own_rng x 97 122 _ _
  have e_F1_12 : F1_12 x = if (65 ≤ x.toInt ∧ x.toInt ≤ 90) then 1 else F1_24 x := own_rng x 65 90 _ _
  have e_F1_24 : F1_24 x = if (192 ≤ x.toInt ∧ x.toInt ≤ 214) then 1 else F1_38 x := own_rng x 192 214 _ _
  have e_F1_38 : F1_38 x = if (216 ≤ x.toInt ∧ x.toInt ≤ 246) then 1 else F1_52 x := own_rng x 216 246 _ _
  have e_F1_52 : F1_52 x = if (248 ≤ x.toInt ∧ x.toInt ≤ 767) then 1 else F1_66 x := own_rng x 248 767 _ _
  have e_F1_66 : F1_66 x = if (880 ≤ x.toInt ∧ x.toInt ≤ 893) then 1 else F1_80 x := own_rng x 880 893 _ _
  have e_F1_80 : F1_80 x = if (895 ≤ x.toInt ∧ x.toInt ≤ 8191) then 1 else F1_94 x := own_rng x 895 8191 _ _
  have e_F1_94 : F1_94 x = if (8204 ≤ x.toInt ∧ x.toInt ≤ 8205) then 1 else F1_108 x := own_rng x 8204 8205 _ _
  have e_F1_108 : F1_108 x = if (8304 ≤ x.toInt ∧ x.toInt ≤ 8591) then 1 else F1_122 x := own_rng x 8304 8591 _ _
  have e_F1_122 : F1_122 x = if (11264 ≤ x.toInt ∧ x.toInt ≤ 12271) then 1 else F1_136 x := own_rng x 11264 12271 _ _
  have e_F1_136 : F1_136 x = if (12289 ≤ x.toInt ∧ x.toInt ≤ 55295) then 1 else F1_149 x := own_rng x 12289 55295 _ _
  have e_F1_149 : F1_149 x = if (63744 ≤ x.toInt ∧ x.toInt ≤ 64975) then 1 else F1_161 x := own_rng x 63744 64975 _ _
  have e_F1_161 : F1_161 x = if (65008 ≤ x.toInt ∧ x.toInt ≤ 65533) then 1 else F1_173 x := own_rng x 65008 65533 _ _
  have e_F1_173 : F1_173 x = if (65536 ≤ x.toInt ∧ x.toInt ≤ 983039) then 1 else 0 := own_rng x 65536 983039 _ _
  rw [e_F1, e_F1_12, e_F1_24, e_F1_38, e_F1_52, e_F1_66, e_F1_80, e_F1_94, e_F1_108, e_F1_122, e_F1_136, e_F1_149, e_F1_161, e_F1_173]
  simp only [own_or, own_and, own_no, own_imp]
theorem own_C2 (x : Int32) : F2 x = if ((65 ≤ x.toInt ∧ x.toInt ≤ 983039) ∧ (¬ (91 ≤ x.toInt ∧ x.toInt ≤ 96) ∧ (¬ (123 ≤ x.toInt ∧ x.toInt ≤ 191) ∧ (¬ x.toInt = 215 ∧ (¬ x.toInt = 247 ∧ (¬ (768 ≤ x.toInt ∧ x.toInt ≤ 879) ∧ (¬ x.toInt = 894 ∧ (¬ (8192 ≤ x.toInt ∧ x.toInt ≤ 8203) ∧ (¬ (8206 ≤ x.toInt ∧ x.toInt ≤ 8303) ∧ (¬ (8592 ≤ x.toInt ∧ x.toInt ≤ 11263) ∧ (¬ (12272 ≤ x.toInt ∧ x.toInt ≤ 12288) ∧ (¬ (55296 ≤ x.toInt ∧ x.toInt ≤ 63743) ∧ (¬ (64976 ≤ x.toInt ∧ x.toInt ≤ 65007) ∧ ¬ (65534 ≤ x.toInt ∧ x.toInt ≤ 65535)))))))))))))) then 1 else 0 := by
  have e_F2 : F2 x = if (65 ≤ x.toInt ∧ x.toInt ≤ 983039) then F2_13 x else 0 := own_btw x 65 983039 _ _
  have e_F2_13 : F2_13 x = if (91 ≤ x.toInt ∧ x.toInt ≤ 96) then 0 else F2_26 x := own_btw x 91 96 _ _
  have e_F2_26 : F2_26 x = if (123 ≤ x.toInt ∧ x.toInt ≤ 191) then 0 else F2_40 x := own_btw x 123 191 _ _
  have e_F2_40 : F2_40 x = if x.toInt = 215 then 0 else F2_47 x := own_eq x 215 0 _
  have e_F2_47 : F2_47 x = if x.toInt = 247 then 0 else F2_56 x := own_eq x 247 0 _
  have e_F2_56 : F2_56 x = if (768 ≤ x.toInt ∧ x.toInt ≤ 879) then 0 else F2_71 x := own_btw x 768 879 _ _
  have e_F2_71 : F2_71 x = if x.toInt = 894 then 0 else F2_80 x := own_eq x 894 0 _
  have e_F2_80 : F2_80 x = if (8192 ≤ x.toInt ∧ x.toInt ≤ 8203) then 0 else F2_95 x := own_btw x 8192 8203 _ _
  have e_F2_95 : F2_95 x = if (8206 ≤ x.toInt ∧ x.toInt ≤ 8303) then 0 else F2_110 x := own_btw x 8206 8303 _ _
  have e_F2_110 : F2_110 x = if (8592 ≤ x.toInt ∧ x.toInt ≤ 11263) then 0 else F2_125 x := own_btw x 8592 11263 _ _
  have e_F2_125 : F2_125 x = if (12272 ≤ x.toInt ∧ x.toInt ≤ 12288) then 0 else F2_140 x := own_btw x 12272 12288 _ _
  have e_F2_140 : F2_140 x = if (55296 ≤ x.toInt ∧ x.toInt ≤ 63743) then 0 else F2_153 x := own_btw x 55296 63743 _ _
  have e_F2_153 : F2_153 x = if (64976 ≤ x.toInt ∧ x.toInt ≤ 65007) then 0 else F2_166 x := own_btw x 64976 65007 _ _
  have e_F2_166 : F2_166 x = if (65534 ≤ x.toInt ∧ x.toInt ≤ 65535) then 0 else 1 := own_btw x 65534 65535 _ _
  rw [e_F2, e_F2_13, e_F2_26, e_F2_40, e_F2_47, e_F2_56, e_F2_71, e_F2_80, e_F2_95, e_F2_110, e_F2_125, e_F2_140, e_F2_153, e_F2_166]
  simp only [own_or, own_and, own_no, own_imp]
theorem own_same (x : Int32) : F1 x = F2 x := by
  rw [own_C1, own_C2]
  generalize x.toInt = k
  congr 1
  apply propext
  constructor
  · intro h; omega
  · intro h; omega
theorem own_45 (x : Int32) : F0_45 x = 1 := by
  simp only [F0_45, own_same, if_true]
  rfl
theorem own_law (i0 : Int32) (i1 : Int32) : F0 i0 i1 = 1 := by
  simp only [F0, F0_4, F0_8, F0_13, F0_18, F0_23, F0_26, F0_31, F0_37, F0_40, own_45, ite_self]
set_option maxRecDepth 65536 in
set_option maxHeartbeats 40000000 in
theorem comes_1 {Post : Tables → Env → Array Value → State → Outcome → State → Prop} (hpost : ∀ tb e args s v u, (limb_1_1.after args s (.returned v) u = true ∧ limb_1_2.after args s (.returned v) u = true ∧ True) → FrameEnd s (.returned v) u (Jvm.fieldLocs frame_1_writes args s ++ Jvm.arrayLocs frame_1_arrays args s ++ Jvm.staticLocs frame_1_statics s) 0 0 → Post tb e args s (.returned v) u) :
    ArmFor flags0 classFile x code maxLocals ret World_1 tables_1 room_1 Calls_1 rest_1 Pre_1 Post := by
  intro l hfl _ _ p e ha hc hk s m args below hf hA hF happ hP
  obtain ⟨hcalls, hrest, hpre⟩ := hP
  obtain ⟨-, -, -, hnamed, -, -, -, hat⟩ := (Spec.applies_iff hf).mp happ
  obtain ⟨hg, hn⟩ := and_e (Cond.before_iff.mp (show (Jvm.Cond.and given_1 narrow_1).before args s = true from hpre))
  obtain ⟨h1, r0⟩ := and_e hg
  obtain ⟨k0, r1⟩ := and_e r0
  obtain ⟨w0, w1, rfl⟩ : ∃ w0 w1 : Value, args = #[w0, w1] := by
    have hs : args.size = 2 := by simpa [Cond.value, given_1] using h1
    obtain ⟨L⟩ := args
    match L, hs with
    | [w0, w1], _ => exact ⟨w0, w1, rfl⟩
  have hw := fun d (hd : d ∈ tables_1) => atoms_spec (ws := Jvm.Cond.code x code maxLocals ret :: tables_1) hat d (List.mem_cons_of_mem _ hd)
  obtain ⟨i0, e0⟩ := is_v k0
  obtain rfl : w0 = (.int i0) := Option.some.inj e0
  obtain ⟨i1, e1⟩ := is_v r1
  obtain rfl : w1 = (.int i1) := Option.some.inj e1
  have val := own_law i0 i1
  obtain ⟨n, o, h1, h2, h3, _, L, rfl, ⟨rfl, N⟩, hq⟩ := rm0 l s _ hw i0 i1 s.heap s.heap.size (Nat.le_refl _)  p e ha hc hk s m _ below hf ((Spec.applies_iff_loose hf).mp happ).1 ⟨rfl, State.Warmed39.refl s, rfl⟩ trivial
  refine ⟨n, _, h1, h2, h3, hpost _ _ _ _ _ _ ⟨Cond.after_iff.mpr rfl, Cond.after_iff.mpr (eq_i res_at (Term.int_eval (1)) (by rw [val])), trivial⟩ ⟨hq.1, hq.2.1, (hq.2.2.sift fun y hy => Or.inr (N y hy)).mono (by decide) (by decide)⟩⟩
theorem main_1_1 : Claimed_1_1 := comes_1 fun _ _ _ _ _ _ h hF => ⟨h.1, hF⟩
theorem main_1_2 : Claimed_1_2 := comes_1 fun _ _ _ _ _ _ h hF => ⟨h.2.1, hF⟩
end Jvm.Pilot.@@N@@
namespace Jvm.Pilot.@@N@@
open Jvm Jvm.ClassFile Sem Op Lib Jvm.Free Jvm.Stand Jvm.Pilot.@@N@@.Jvm.D
/-! MADE BY PROGRAM (witnessworld.py) out of the Statement's table words and the real class files: 9 classes; the members and pool entries that the words name. The judged class is class 1, her method 3. -/
namespace start1
open Jvm.ClassFile
def u (s : String) : CpInfo := .utf8 (stringToUtf16 s)
/-- a pool by its gaps: so many unusable entries, then the entry; so many at the end -/
def gap : Nat → List CpInfo → List CpInfo
  | 0, r => r
  | n + 1, r => .unusable :: gap n r
def poolList (es : List (Nat × CpInfo)) (last : Nat) : List CpInfo := es.foldr (fun e r => gap e.1 (e.2 :: r)) (gap last [])
def pool (es : List (Nat × CpInfo)) (last : Nat) : Array CpInfo := ⟨poolList es last⟩
def fileOf (pool : Array CpInfo) (this : Nat) (attrs : Array Attribute := #[]) (ms : Array MethodInfo := #[]) (fl : Nat := 33) (sup : Nat := 0) (ifs : Array Nat := #[]) (fds : Array FieldInfo := #[]) : ClassFile where
  minorVersion := 0
  majorVersion := 65
  constantPool := pool
  accessFlags := fl
  thisClass := this
  superClass := sup
  interfaces := ifs
  fields := fds
  methods := ms
  attributes := attrs
def plain (name : String) (sup : Option ClassId) : Class where
  name := name
  kind := .ordinary
  loader := none
  accessFlags := 33
  super := sup
  interfaces := #[]
  cf := none
  fields := #[]
  methods := #[]
  instanceTypes := #[]
  staticTypes := #[]
  resolved := #[]
  callSites := []
  init := .initialized
  statics := none
  mirror := none

def pool0 : Array CpInfo := pool [(5, u "<init>"), (0, u "()V"), (1, .class_ 10), (1, u "java/lang/Object")] 113

def k0m0 : Method := { name := "<init>", desc := "()V", sig := { parameters := [], returnType := none }, accessFlags := 1, code := none }
/-- java/lang/Object -/
def k0 : Class := { plain "java/lang/Object" none with
  accessFlags := 33
  interfaces := #[]
  cf := some (fileOf pool0 8 #[] #[{ accessFlags := 1, nameIndex := 5, descriptorIndex := 6, attributes := #[] }] 33 0 #[] #[])
  fields := #[]
  methods := #[k0m0]
  instanceTypes := #[]
  staticTypes := #[]
  resolved := Array.replicate 124 none
  statics := none }

def pool1 : Array CpInfo := pool [(2, .class_ 4), (1, u "java/lang/Object"), (0, u "<init>"), (0, u "()V"), (0, .integer 983039), (0, .methodref 9 10), (0, .class_ 11), (0, .nameAndType 12 13), (0, u "com/example/taxigraph/taxigraph/NameCharactersIsBasePinLaw"), (0, u "between"), (0, u "(III)Z"), (0, .integer 55296), (0, .integer 63743), (0, .integer 64976), (0, .integer 65007), (0, .integer 65534), (0, .integer 65535), (0, .integer 1048575), (0, .methodref 22 23), (0, .class_ 24), (0, .nameAndType 25 26), (0, u "com/example/taxigraph/taxigraph/NameCharacters"), (0, u "isBase"), (0, u "(I)Z"), (0, .methodref 9 28), (0, .nameAndType 29 26), (0, u "expected"), (3, u "law"), (0, u "(II)Z")] 2

def k1m0 : Method := { name := "<init>", desc := "()V", sig := { parameters := [], returnType := none }, accessFlags := 2, code := none }
def k1c1 : Code := { maxStack := 2, maxLocals := 3, code := method_2_code, exceptionTable := #[], attributes := #[] }
def k1m1 : Method := { name := "between", desc := "(III)Z", sig := { parameters := [.int, .int, .int], returnType := some .boolean }, accessFlags := 10, code := some k1c1 }
def k1c2 : Code := { maxStack := 3, maxLocals := 1, code := method_3_code, exceptionTable := #[], attributes := #[] }
def k1m2 : Method := { name := "expected", desc := "(I)Z", sig := { parameters := [.int], returnType := some .boolean }, accessFlags := 10, code := some k1c2 }
def k1c3 : Code := { maxStack := 2, maxLocals := 4, code := code, exceptionTable := #[], attributes := #[] }
def k1m3 : Method := { name := "law", desc := "(II)Z", sig := { parameters := [.int, .int], returnType := some .boolean }, accessFlags := 9, code := some k1c3 }
/-- com/example/taxigraph/taxigraph/NameCharactersIsBasePinLaw -/
def k1 : Class := { plain "com/example/taxigraph/taxigraph/NameCharactersIsBasePinLaw" (some 0) with
  accessFlags := 49
  interfaces := #[]
  cf := some (fileOf pool1 9 #[] #[{ accessFlags := 2, nameIndex := 5, descriptorIndex := 6, attributes := #[] }, { accessFlags := 10, nameIndex := 12, descriptorIndex := 13, attributes := #[] }, { accessFlags := 10, nameIndex := 29, descriptorIndex := 26, attributes := #[] }, { accessFlags := 9, nameIndex := 33, descriptorIndex := 34, attributes := #[] }] 49 2 #[] #[])
  fields := #[]
  methods := #[k1m0, k1m1, k1m2, k1m3]
  instanceTypes := #[]
  staticTypes := #[]
  resolved := Array.replicate 37 none
  statics := none }

def pool2 : Array CpInfo := pool [(2, .class_ 4), (1, u "java/lang/Object"), (0, u "<init>"), (0, u "()V"), (0, .integer 55295), (0, .integer 63744), (0, .integer 64975), (0, .integer 65008), (0, .integer 65533), (0, .integer 65536), (0, .integer 983039), (11, .class_ 27), (1, u "com/example/taxigraph/taxigraph/NameCharacters"), (0, u "isBase"), (0, u "(I)Z")] 19

def k2m0 : Method := { name := "<init>", desc := "()V", sig := { parameters := [], returnType := none }, accessFlags := 2, code := none }
def k2c1 : Code := { maxStack := 2, maxLocals := 1, code := prog_70_method_2_code, exceptionTable := #[], attributes := #[] }
def k2m1 : Method := { name := "isBase", desc := "(I)Z", sig := { parameters := [.int], returnType := some .boolean }, accessFlags := 8, code := some k2c1 }
/-- com/example/taxigraph/taxigraph/NameCharacters -/
def k2 : Class := { plain "com/example/taxigraph/taxigraph/NameCharacters" (some 0) with
  accessFlags := 48
  interfaces := #[]
  cf := some (fileOf pool2 25 #[] #[{ accessFlags := 2, nameIndex := 5, descriptorIndex := 6, attributes := #[] }, { accessFlags := 8, nameIndex := 28, descriptorIndex := 29, attributes := #[] }] 48 2 #[] #[])
  fields := #[]
  methods := #[k2m0, k2m1]
  instanceTypes := #[]
  staticTypes := #[]
  resolved := Array.replicate 49 none
  statics := none }

def pool3 : Array CpInfo := pool [(1, u "java/lang/Cloneable"), (0, .class_ 1), (0, u "java/lang/Object"), (0, .class_ 3)] 3

/-- java/lang/Cloneable -/
def k3 : Class := { plain "java/lang/Cloneable" (some 0) with
  accessFlags := 1537
  interfaces := #[]
  cf := some (fileOf pool3 2 #[] #[] 1537 4 #[] #[])
  fields := #[]
  methods := #[]
  instanceTypes := #[]
  staticTypes := #[]
  resolved := Array.replicate 8 none
  statics := none }

def pool4 : Array CpInfo := pool [(1, u "java/io/Serializable"), (0, .class_ 1), (0, u "java/lang/Object"), (0, .class_ 3)] 3

/-- java/io/Serializable -/
def k4 : Class := { plain "java/io/Serializable" (some 0) with
  accessFlags := 1537
  interfaces := #[]
  cf := some (fileOf pool4 2 #[] #[] 1537 4 #[] #[])
  fields := #[]
  methods := #[]
  instanceTypes := #[]
  staticTypes := #[]
  resolved := Array.replicate 8 none
  statics := none }

/-- the primitive byte -/
def k5 : Class := { plain "byte" none with kind := .primitive 'B', accessFlags := 0x411 }
/-- [B -/
def k6 : Class := { plain "[B" (some 0) with kind := .array 5 .byte, interfaces := #[3, 4], accessFlags := 1041 }

/-- the primitive int -/
def k7 : Class := { plain "int" none with kind := .primitive 'I', accessFlags := 0x411 }
/-- [I -/
def k8 : Class := { plain "[I" (some 0) with kind := .array 7 .int, interfaces := #[3, 4], accessFlags := 1041 }

def heap : Heap := #[]
def classes : Array Class := #[k0, k1, k2, k3, k4, k5, k6, k7, k8]
def interned : List (Array UInt16 × Addr) := []
def slotsUsed : Nat := 0
def theMethod : MethodId := ⟨1, 3⟩
def args0 : Array Value := #[.int 5, .int 7]
def aboutOver (below : List Frame) : State where
  vm := { classes := classes, interned := interned.toArray }
  heap := heap
  slotsUsed := slotsUsed
  threads := #[{ frames := .invoking theMethod args0 :: below }]
def below0 : List Frame := [.native { method := ⟨0, 0⟩, args := #[] }]
def about1 : State := aboutOver below0
def p0 : Program := .bare "" "" ""
def e0 : Env := launch0.env 0 0 0
theorem w_frames : about1.frames = Frame.invoking theMethod args0 :: below0 := rfl
set_option maxRecDepth 65536 in
theorem w_args : argsFit about1.vm theMethod args0 = true := by decide +kernel
set_option maxRecDepth 65536 in
theorem w_heap : heapFits about1 = true := by decide +kernel
set_option maxRecDepth 65536 in
theorem w_runnable : about1.curStatus? = some .runnable := by decide +kernel
set_option maxRecDepth 65536 in
theorem w_alone : about1.alone = true := by decide +kernel
set_option maxRecDepth 65536 in
theorem w_named : about1.methodNamed? x = some theMethod := by decide +kernel
set_option maxRecDepth 65536 in
theorem w_hears : about1.hears theMethod below0 = true := by decide +kernel
set_option maxRecDepth 65536 in
theorem w_ripe : about1.ripe theMethod args0 below0 = true := by decide +kernel
theorem w_running : about1.status = .running := rfl
set_option maxRecDepth 65536 in
theorem w_room : about1.hasRoom e0.platform room_1 = true :=
  launch0.hasRoom_least _ room_1 (by decide +kernel) (by decide +kernel) (by decide +kernel) (by decide +kernel) (by decide +kernel) (by decide +kernel)
theorem allAtoms_all (ts : List Jvm.Cond) (a : Array Jvm.Value) (st : Jvm.State) : (allAtoms ts).before a st = ts.all (fun c => c.before a st) := by
  induction ts with
  | nil => rfl
  | cons c t ih =>
    show (Jvm.Cond.and c (allAtoms t)).before a st = _
    rw [Jvm.Cond.before_and, ih, List.all_cons]
def words1 : List Jvm.Cond := Jvm.Cond.code x code maxLocals ret :: tables_1
/-- a 'code' word, met by the world's own term for the bytes: nothing is compared byte by byte -/
theorem code_word {y : MethodName} {bytes : ByteArray} {mx : Nat} {rt : Option FieldType} {a : Array Value} {s : State} {m : MethodId} {meth : Method} {c : Code} (h1 : s.methodNamed? y = some m) (h2 : s.vm.method? m = some meth) (h3 : meth.code = some c) (h4 : c.code = bytes)
    (h5 : (c.maxLocals == mx && c.exceptionTable.isEmpty && decide (c.maxStack ≤ mostOperands) && decide (meth.sig.returnType = rt) && !meth.locks && decide (parseMethodDescriptor y.desc = some meth.sig)) = true) : (Jvm.Cond.code y bytes mx rt).before a s = true := by
  simp only [Bool.and_eq_true, beq_iff_eq, Bool.not_eq_true', decide_eq_true_eq] at h5
  obtain ⟨⟨⟨⟨⟨g1, g2⟩, g3⟩, g4⟩, g5⟩, g6⟩ := h5
  simp [Cond.before, Cond.holds, Cond.value, h1, h2, h3, h4, g1, g2, g3, g4, g5, g6]
def isCode : Jvm.Cond → Bool
  | .code _ _ _ _ => true
  | _ => false
theorem all_split {L : List Jvm.Cond} {P : Jvm.Cond → Bool} (h1 : L.all (fun c => isCode c || P c) = true) (h2 : ∀ c ∈ L.filter isCode, P c = true) : L.all P = true := by
  refine List.all_eq_true.mpr fun c hc => ?_
  have h := List.all_eq_true.mp h1 c hc
  rcases Bool.eq_false_or_eq_true (isCode c) with hi | hi
  · exact h2 c (List.mem_filter.mpr ⟨hc, hi⟩)
  · simpa [hi] using h
set_option maxRecDepth 65536 in
theorem w_c0 : (Jvm.Cond.code x code maxLocals ret).before args0 about1 = true := code_word (m := ⟨1, 3⟩) (meth := k1m3) (c := k1c3) (by decide +kernel) rfl rfl rfl (by decide +kernel)
set_option maxRecDepth 65536 in
theorem w_c1 : (Jvm.Cond.code ({ cls := "com/example/taxigraph/taxigraph/NameCharacters", name := "isBase", desc := "(I)Z" } : Jvm.MethodName) prog_70_method_2_code (1 : Nat) (Option.some Jvm.ClassFile.FieldType.boolean)).before args0 about1 = true := code_word (m := ⟨2, 1⟩) (meth := k2m1) (c := k2c1) (by decide +kernel) rfl rfl rfl (by decide +kernel)
set_option maxRecDepth 65536 in
theorem w_c2 : (Jvm.Cond.code ({ cls := "com/example/taxigraph/taxigraph/NameCharactersIsBasePinLaw", name := "expected", desc := "(I)Z" } : Jvm.MethodName) method_3_code (1 : Nat) (Option.some Jvm.ClassFile.FieldType.boolean)).before args0 about1 = true := code_word (m := ⟨1, 2⟩) (meth := k1m2) (c := k1c2) (by decide +kernel) rfl rfl rfl (by decide +kernel)
set_option maxRecDepth 65536 in
theorem w_c3 : (Jvm.Cond.code ({ cls := "com/example/taxigraph/taxigraph/NameCharactersIsBasePinLaw", name := "between", desc := "(III)Z" } : Jvm.MethodName) method_2_code (3 : Nat) (Option.some Jvm.ClassFile.FieldType.boolean)).before args0 about1 = true := code_word (m := ⟨1, 1⟩) (meth := k1m1) (c := k1c1) (by decide +kernel) rfl rfl rfl (by decide +kernel)
def codes1 : List Jvm.Cond := [Jvm.Cond.code x code maxLocals ret, Jvm.Cond.code ({ cls := "com/example/taxigraph/taxigraph/NameCharacters", name := "isBase", desc := "(I)Z" } : Jvm.MethodName) prog_70_method_2_code (1 : Nat) (Option.some Jvm.ClassFile.FieldType.boolean), Jvm.Cond.code ({ cls := "com/example/taxigraph/taxigraph/NameCharactersIsBasePinLaw", name := "expected", desc := "(I)Z" } : Jvm.MethodName) method_3_code (1 : Nat) (Option.some Jvm.ClassFile.FieldType.boolean), Jvm.Cond.code ({ cls := "com/example/taxigraph/taxigraph/NameCharactersIsBasePinLaw", name := "between", desc := "(III)Z" } : Jvm.MethodName) method_2_code (3 : Nat) (Option.some Jvm.ClassFile.FieldType.boolean)]
set_option maxRecDepth 65536 in
theorem codes_eq : words1.filter isCode = codes1 := rfl
theorem w_codes : ∀ c ∈ words1.filter isCode, c.before args0 about1 = true := by
  rw [codes_eq]
  intro c hc
  simp only [codes1, List.mem_cons, List.not_mem_nil, or_false] at hc
  rcases hc with rfl | rfl | rfl | rfl
  · exact w_c0
  · exact w_c1
  · exact w_c2
  · exact w_c3
set_option maxRecDepth 65536 in
theorem w_t1 : (words1.take 24).all (fun c => isCode c || c.before args0 about1) = true := by decide +kernel
set_option maxRecDepth 65536 in
theorem w_t2 : (words1.drop 24).all (fun c => isCode c || c.before args0 about1) = true := by decide +kernel
theorem w_tables : (allAtoms (Jvm.Cond.code x code maxLocals ret :: tables_1)).before args0 about1 = true := by
  rw [allAtoms_all]
  show words1.all (fun c => c.before args0 about1) = true
  refine all_split ?_ w_codes
  rw [← List.take_append_drop 24 words1, List.all_append, w_t1, w_t2]
  rfl
set_option maxRecDepth 65536 in
theorem w_case : (Jvm.Cond.and given_1 narrow_1).before args0 about1 = true := by decide +kernel
theorem w_applies : (headSpec (Jvm.Cond.code x code maxLocals ret :: tables_1) room_1).applies x e0.platform about1 = true :=
  (Spec.applies_iff w_frames).mpr ⟨w_running, w_runnable, w_alone, w_named, w_hears, w_ripe, w_room, w_tables⟩
theorem atStart : AtStart classFile x code maxLocals ret World_1 tables_1 room_1 Calls_1 rest_1 Pre_1 launch0 p0 e0 about1 theMethod args0 below0 :=
  ⟨lists_1, trivial, launch0.admits_env _ _ _, launch0.least_env, fairChoices_fair.cas, fairChoices_fair.clock, w_frames, w_args, w_heap, w_applies, trivial, trivial, w_case⟩
end start1
theorem witness_1 : WitnessClaimed_1 := ⟨start1.p0, start1.e0, start1.about1, start1.theMethod, start1.args0, start1.below0, start1.atStart⟩
end Jvm.Pilot.@@N@@
