import JvmDerived
import JvmDerived.Pilot.@@N@@Statement
import JvmDerived.Pilot.@@N@@Code
set_option linter.unusedVariables false
set_option linter.unusedSimpArgs false
namespace Jvm.RoadKit
open Sem ClassFile Op Lib Jvm.Stand Jvm.Free Jvm.LawKit
section New
variable {p : Program} {l : Launch} {e : Env} {R : Room} {s : State} {m : MethodId} {args : Array Value} {below : List Frame} {meth : Method} {c : Code} {T : State} {locs : List Loc} {cells slots : Nat}
theorem retI (X : Stand p l e R s m args below meth c T locs cells slots) (hx : p.tables.exec = Jvm.exec) {pc : Nat} {Ls : Array Slot} {z : Int32} {rest : List Value} (hret : meth.sig.returnType = some .int) (hd : decode c.code pc = .ok (.ireturn, 1)) {fs : List Frame}
    (hl : ∀ (f : JFrame) (acts : List Action), f.method = m → f.locked = none → f.entered = [] → (doReturn e (T.setTop f) acts (some (.int z))).1 = T.setFrames fs) : Steps p.tables e below (T.setTop (mkF m pc Ls (.int z :: rest))) (T.setFrames fs) := by
  have hm' : T.vm.method? m = some meth := X.method'
  have hn : narrow .int (.int z) = .int z := rfl
  show Steps p.tables e below (T.setTop { method := m, pc := pc, locals := Ls, stack := _ :: rest, locked := none }) _
  jvm_step X.here [X.here.top, hx, hd, hm', hret, hn]
  first | (intro acts; rw [hl _ acts rfl rfl rfl]) | rw [hl _ _ rfl rfl rfl]
  exact Steps.refl _
end New
end Jvm.RoadKit
namespace Jvm.Pilot.@@N@@
open Jvm Jvm.ClassFile Sem Op Lib Jvm.Free Jvm.Stand Jvm.LawKit Jvm.RoadKit Bundle Jvm.Pilot.@@N@@.Jvm.D
/-! ### the frame of this text: 'Ends': the run from u ends in a return that Q says -/
section OwnFrame
variable {p : Program} {l : Launch} {e : Env} {R : Room} {s : State} {m : MethodId} {args : Array Value} {below : List Frame} {meth : Method} {c : Code} {T : State} {locs : List Loc} {cells slots cs ss : Nat} {Z : State} {a0 : Array Value} {h h' : Heap} {Q : Option Value → Heap → List Loc → Prop} {u u' : State}
def Ends (p : Program) (e : Env) (below : List Frame) (s : State) (cs ss : Nat) (Q : Option Value → Heap → List Loc → Prop) (u : State) : Prop :=
  ∃ t v L, Steps p.tables e below u t ∧ t.status = .running ∧ Ended t below (.returned v) ∧ Q v t.heap L ∧ s.WarmedH t.vm ∧ s.sameButNew ({ t with vm := s.vm } : State) L cs ss
theorem Ends.step (h : Ends p e below s cs ss Q u') (k : ∀ t, Steps p.tables e below u' t → Steps p.tables e below u t) : Ends p e below s cs ss Q u := by
  obtain ⟨t, v, L, h1, r⟩ := h; exact ⟨t, v, L, k t h1, r⟩
theorem Ends.ret (X : Stand p l e R s m args below meth c T locs cells slots) {v : Option Value} (hv : meth.sig.returnType = none → v = none) (hlk : meth.locks = false)
    (k : ∀ fs, (∀ (f : JFrame) (acts : List Action), f.method = m → f.locked = none → f.entered = [] → (doReturn e (T.setTop f) acts v).1 = T.setFrames fs) → Steps p.tables e below u (T.setFrames fs))
    (hc : cells ≤ cs) (hs : slots ≤ ss) (hq : Q v T.heap locs) : Ends p e below s cs ss Q u := by
  obtain ⟨fs, hr, hrun, hended, hW, hsame⟩ := X.leave (v := v) hv hlk
  exact ⟨T.setFrames fs, v, locs, k fs hr, hrun, hended, hq, hW, hsame.mono hc hs⟩
/-- what a body promises -/
abbrev Meets (l : Launch) (Z : State) (y : MethodName) (bytes : ByteArray) (maxL : Nat) (ret : Option FieldType) (ws : List Jvm.Cond) (rm : Room) (as' : Array Value) (h : Heap) (Q : Option Value → Heap → List Loc → Prop) (cs ss : Nat) : Prop :=
  MetFree l y (head1 (Jvm.Cond.code y bytes maxL ret :: ws) rm) (fun a U => a = as' ∧ Z.Warmed39 U.vm ∧ U.heap = h) (fun _ _ _ _ _ => True) (fun _ U o U' => ∃ v L, o = .returned v ∧ Q v U'.heap L ∧ FrameEnd U o U' L cs ss)
theorem Meets.of {y : MethodName} {bytes : ByteArray} {maxL : Nat} {ret : Option FieldType} {ws : List Jvm.Cond} {rm : Room} {as' : Array Value} (pn : plainFor y = true)
    (k : ∀ (p : Program) (e : Env) (s : State) (m : MethodId) (below : List Frame) (meth : Method) (c : Code) (s₁ : State), p.tables.exec = Jvm.exec → c.code = bytes → c.maxLocals = maxL → Z.Warmed39 s.vm → s.vm.findClass y.cls = some m.cls → meth.name = y.name → meth.sig.returnType = ret → meth.locks = false →
      Stand p l e rm s m as' below meth c s₁ [] 0 0 → s₁.heap = h → Ends p e below s cs ss Q (s₁.setTop (entryFrame m as' maxL))) : Meets l Z y bytes maxL ret ws rm as' h Q cs ss := by
  refine MetFree.of_bodySF pn hisR ?_
  intro p e s m args below meth c s₁ Bd hml0 hP hK
  obtain ⟨rfl, hZ, hh⟩ := hP
  obtain ⟨t, v, L, h1, h2, h3, h4, h5, h6⟩ := k p e s m below meth c s₁ Bd.exec Bd.bytes hml0 hZ (findClass_of_methodNamed Bd.named) (name_of_methodNamed Bd.named Bd.method).1 Bd.returns (BodyLoose.notSynchronized Bd) (Stand.of_body Bd) (by rw [← hh, Bd.state]; rfl)
  exact ⟨t, .returned v, h1, h2, h3, v, L, rfl, h4, ⟨_, rfl⟩, h5, h6⟩
theorem Ends.callS (X : Stand p l e R s m args below meth c T locs cells slots) (hx : p.tables.exec = Jvm.exec) (hZ : Z.Warmed39 s.vm) {own : String} {index : Nat} {y : MethodName} {bytes : ByteArray} {maxL : Nat} {ret : Option FieldType}
    (hown : s.vm.findClass own = some m.cls) (w1 : (Jvm.Cond.methodLink own index y).before a0 Z = true) (w2 : (Jvm.Cond.static y).before a0 Z = true) (w3 : (Jvm.Cond.initialized y.cls).before a0 Z = true) (w4 : (Jvm.Cond.code y bytes maxL ret).before a0 Z = true)
    (hy : y.cls ≠ "java/lang/invoke/MethodHandle" ∧ y.cls ≠ "java/lang/invoke/VarHandle") {rm : Room} {as' : Array Value} {Q' : Option Value → Heap → List Loc → Prop} (hM : Meets l Z y bytes maxL ret [] rm as' h Q' rm.cells rm.slots)
    (W : Nat) (hf : rm.frames + 1 ≤ R.frames) (hl : W + (maxL + 11) + rm.locals ≤ R.locals) (eT : T.heap = h) {g : JFrame} (hg : g.method = m) (hsize : g.locals.size = c.maxLocals) (argsL rest : List Value)
    (hlen : ∀ sig, parseMethodDescriptor y.desc = some sig → argsL.length = sig.parameters.length) (hstack : g.stack = argsL.reverse ++ rest) (hW : 2 * g.monitorRoom + (rest.map fun v => v.category).sum ≤ W) (hdg : decode c.code g.pc = .ok (.invokestatic index, 3))
    (ha : argsL.toArray = as') (hc : cells + rm.cells ≤ R.cells) (hs : slots + rm.slots ≤ R.slots)
    (k : ∀ v T' L, Stand p l e R s m args below meth c T' (locs ++ L) (cells + rm.cells) (slots + rm.slots) → Q' v T'.heap L → Ends p e below s cs ss Q (T'.setTop { g with pc := g.pc + 3, stack := v.toList ++ rest })) : Ends p e below s cs ss Q (T.setTop g) := by
  obtain ⟨v, _, ⟨T', L', k', n'⟩, -, X', ⟨Lc, hQ, rfl, rfl, rfl⟩, st⟩ := Jvm.LawKit.callS X hx (y := y) hown (mvT hZ w1) (mvT hZ w2) (mvT hZ w3) (mvT hZ w4) hy (backOf (W := W) hM hZ w4 w3 hf hl) hg hsize (argsL := argsL) (rest := rest) hlen hstack hW hdg (fun _ _ => ⟨ha, eT, hc, hs⟩)
  exact (k v T' Lc X' hQ).step st
theorem Ends.callC (X : Stand p l e R s m args below meth c T locs cells slots) (hx : p.tables.exec = Jvm.exec) (hZ : Z.Warmed39 s.vm) {own : String} {index : Nat} {y : MethodName} {bytes : ByteArray} {maxL : Nat} (hy1 : y.name = "<init>")
    (hown : s.vm.findClass own = some m.cls) (w1 : (Jvm.Cond.methodLink own index y).before a0 Z = true) (w2 : (Jvm.Cond.instanceMethod y).before a0 Z = true) (w3 : (Jvm.Cond.initialized y.cls).before a0 Z = true) (w4 : (Jvm.Cond.code y bytes maxL none).before a0 Z = true)
    (hy : y.cls ≠ "java/lang/invoke/MethodHandle" ∧ y.cls ≠ "java/lang/invoke/VarHandle") {rm : Room} {as' : Array Value} {Q' : Option Value → Heap → List Loc → Prop} (hM : Meets l Z y bytes maxL none [] rm as' h Q' rm.cells rm.slots)
    (W : Nat) (hf : rm.frames + 1 ≤ R.frames) (hl : W + (maxL + 11) + rm.locals ≤ R.locals) (eT : T.heap = h) {g : JFrame} (hg : g.method = m) (hsize : g.locals.size = c.maxLocals) (a : Addr) (argsL rest : List Value)
    (hlen : ∀ sig, parseMethodDescriptor y.desc = some sig → argsL.length = sig.parameters.length) (hstack : g.stack = argsL.reverse ++ .ref a :: rest) (hW : 2 * g.monitorRoom + (rest.map fun v => v.category).sum ≤ W) (hdg : decode c.code g.pc = .ok (.invokespecial index, 3))
    (ha : (.ref a :: argsL).toArray = as') (hc : cells + rm.cells ≤ R.cells) (hs : slots + rm.slots ≤ R.slots)
    (k : ∀ v T' L, Stand p l e R s m args below meth c T' (locs ++ L) (cells + rm.cells) (slots + rm.slots) → Q' v T'.heap L → Ends p e below s cs ss Q (T'.setTop { g with pc := g.pc + 3, stack := v.toList ++ rest })) : Ends p e below s cs ss Q (T.setTop g) := by
  obtain ⟨v, _, ⟨T', L', k', n'⟩, -, X', ⟨Lc, hQ, rfl, rfl, rfl⟩, st⟩ := X.specialBack hx (y := y) hy1 hown (mvT hZ w1) (mvT hZ w2) (mvT hZ w4) hy (backOf (W := W) hM hZ w4 w3 hf hl) hg hsize (Steps.refl _) (a := a) (argsL := argsL) (rest := rest) hlen hstack hW hdg (fun _ _ => ⟨ha, eT, hc, hs⟩)
  exact (k v T' Lc X' hQ).step (fun _ q => st.trans q)
theorem Ends.callV (X : Stand p l e R s m args below meth c T locs cells slots) (hx : p.tables.exec = Jvm.exec) (hZ : Z.Warmed39 s.vm) {own C : String} {index : Nat} {y : MethodName} {bytes : ByteArray} {maxL : Nat} {ret : Option FieldType}
    (hown : s.vm.findClass own = some m.cls) (w1 : (Jvm.Cond.methodLink own index y).before a0 Z = true) (wd : (Jvm.Cond.declares y).before a0 Z = true) (wsel : (Jvm.Cond.selects C y y).before a0 Z = true) (w2 : (Jvm.Cond.instanceMethod y).before a0 Z = true) (w3 : (Jvm.Cond.initialized y.cls).before a0 Z = true) (w4 : (Jvm.Cond.code y bytes maxL ret).before a0 Z = true)
    (hy : y.cls ≠ "java/lang/invoke/MethodHandle" ∧ y.cls ≠ "java/lang/invoke/VarHandle") {rm : Room} {as' : Array Value} {Q' : Option Value → Heap → List Loc → Prop} (hM : Meets l Z y bytes maxL ret [] rm as' h Q' rm.cells rm.slots)
    (W : Nat) (hf : rm.frames + 1 ≤ R.frames) (hl : W + (maxL + 11) + rm.locals ≤ R.locals) (eT : T.heap = h) (a : Addr) (E : Exa Z h a C) {g : JFrame} (hg : g.method = m) (hsize : g.locals.size = c.maxLocals) (argsL rest : List Value)
    (hlen : ∀ sig, parseMethodDescriptor y.desc = some sig → argsL.length = sig.parameters.length) (hstack : g.stack = argsL.reverse ++ .ref a :: rest) (hW : 2 * g.monitorRoom + (rest.map fun v => v.category).sum ≤ W) (hdg : decode c.code g.pc = .ok (.invokevirtual index, 3))
    (ha : (.ref a :: argsL).toArray = as') (hc : cells + rm.cells ≤ R.cells) (hs : slots + rm.slots ≤ R.slots)
    (k : ∀ v T' L, Stand p l e R s m args below meth c T' (locs ++ L) (cells + rm.cells) (slots + rm.slots) → Q' v T'.heap L → Ends p e below s cs ss Q (T'.setTop { g with pc := g.pc + 3, stack := v.toList ++ rest })) : Ends p e below s cs ss Q (T.setTop g) := by
  obtain ⟨cq, kq, q1, q2, q3⟩ := isOf (T := T) hZ eT E
  obtain ⟨v, _, ⟨T', L', k', n'⟩, -, X', ⟨Lc, hQ, rfl, rfl, rfl⟩, st⟩ := X.virtualBack hx (y := y) (z := y) hown (mvT hZ w1) (mvT hZ wd) (notFace_of_selects (args := #[]) (mvT hZ wsel)) (mvT hZ wsel) (mvT hZ w2) hy (backOf (W := W) hM hZ w4 w3 hf hl) q1 q3 hg hsize (Steps.refl _) (argsL := argsL) (rest := rest) hlen hstack hW hdg (fun _ _ => ⟨ha, eT, hc, hs⟩)
  exact (k v T' Lc X' hQ).step (fun _ q => st.trans q)
/-! ### arrays of small numbers: what each place holds, as a function -/
def Ar (Z : State) (h : Heap) (a : Addr) (ty : FieldType) (n : Nat) (f : Nat → Int32) : Prop := ∃ cl : Cell, Arr Z h a cl ty ∧ cl.slots.size = n ∧ n < 2 ^ 31 ∧ ∀ i, i < n → cl.slots[i]? = some (.int (f i))
def upd (f : Nat → Int32) (j : Nat) (v : Int32) : Nat → Int32 := fun i => if i = j then v else f i
def inb (j : Int32) (n : Nat) : Prop := ¬ (j < 0 ∨ n ≤ j.toNatClampNeg)
variable {a b : Addr} {ty : FieldType} {n sl : Nat} {f : Nat → Int32} {v : Value} {wsA : List Addr}
theorem Ar.lt (A : Ar Z h a ty n f) : a < h.size := by obtain ⟨cl, A1, -⟩ := A; exact A1.lt
theorem Ar.ext (A : Ar Z h a ty n f) (E : Ext h h') : Ar Z h' a ty n f := by obtain ⟨cl, A1, r⟩ := A; exact ⟨cl, A1.ext E, r⟩
theorem Ar.other (A : Ar Z h b ty n f) (W : Wr h h' a sl v) (q : b ≠ a) : Ar Z h' b ty n f := by obtain ⟨cl, A1, r⟩ := A; exact ⟨cl, A1.other W q, r⟩
theorem Ar.keep (A : Ar Z h a ty n f) (K : Keep h h' wsA) (q : a ∉ wsA) : Ar Z h' a ty n f := by obtain ⟨cl, A1, r⟩ := A; exact ⟨cl, ⟨K.2.1 a cl A1.1 q, A1.2⟩, r⟩
theorem Ar.small (A : Ar Z h a ty n f) : n < 2 ^ 31 := by obtain ⟨cl, A1, -, r, -⟩ := A; exact r
theorem Ar.set {j : Int32} {x : Int32} (A : Ar Z h a ty n f) (W : Wr h h' a j.toNatClampNeg (.int x)) : Ar Z h' a ty n (upd f j.toNatClampNeg x) := by
  obtain ⟨cl, A1, r1, r2, r3⟩ := A
  refine ⟨_, A1.same W, by rw [sz_set]; exact r1, r2, fun i hi => ?_⟩
  by_cases q : i = j.toNatClampNeg
  · subst q; simp [Cell.setSlot, upd, r1, hi]
  · simp only [Cell.setSlot, upd, if_neg q]; rw [Array.getElem?_setIfInBounds_ne (fun z => q z.symm)]; exact r3 i hi
theorem Ar.new {cA : ClassId} {k : Int32} (A : Arr Z h a (newA cA ty k) ty) (q : ¬ k < 0) (hd : defaultValue ty = .int 0) : Ar Z h a ty k.toNatClampNeg (fun _ => 0) :=
  ⟨_, A, sz_new _ _ _, (back32 q).2, fun i hi => by simp [newA, hi, hd]⟩
theorem Ends.newA (X : Stand p l e R s m args below meth c T locs cells slots) (hx : p.tables.exec = Jvm.exec) (hZ : Z.Warmed39 s.vm) {aty : ArrayType} (w : (Jvm.Cond.arrayClass (newarray.typeOf aty)).before a0 Z = true) (eT : T.heap = h) {g : JFrame} (hg : g.method = m) (hd : decode c.code g.pc = .ok (.newarray aty, 2)) {k : Int32} {rest : List Value} (hs : g.stack = .int k :: rest)
    (hdf : defaultValue (newarray.typeOf aty) = .int 0) (hn : ¬ k < 0) (cap : Nat) (hcap : k.toNatClampNeg ≤ cap) (hb : cap * 8 ≤ 536870912) (hc : cells + 1 ≤ R.cells) (hl : slots + cap ≤ R.slots)
    (kk : ∀ T' h' a, Stand p l e R s m args below meth c T' locs (cells + 1) (slots + cap) → T'.heap = h' → Ext h h' → h.size = a → Ar Z h' a (newarray.typeOf aty) k.toNatClampNeg (fun _ => 0) → Ends p e below s cs ss Q (T'.setTop { g with pc := g.pc + 2, stack := .ref a :: rest })) : Ends p e below s cs ss Q (T.setTop g) := by
  obtain ⟨T', h', cA, X', e', E, A, st⟩ := newP X hx hZ w eT hg hd hs hn hcap hb hc hl
  exact (kk T' h' h.size X' e' E rfl (Ar.new A hn hdf)).step st
theorem Ends.iaload (X : Stand p l e R s m args below meth c T locs cells slots) (hx : p.tables.exec = Jvm.exec) (hZ : Z.Warmed39 s.vm) (eT : T.heap = h) (A : Ar Z h a .int n f) {j : Int32} (hj : inb j n) {g : JFrame} (hg : g.method = m) {rest : List Value} (hs : g.stack = .int j :: .ref a :: rest) (hd : decode c.code g.pc = .ok (.iaload, 1))
    (k : Ends p e below s cs ss Q (T.setTop { g with pc := g.pc + 1, stack := .int (f j.toNatClampNeg) :: rest })) : Ends p e below s cs ss Q (T.setTop g) := by
  obtain ⟨cl, A1, r1, -, r3⟩ := A
  subst r1
  exact k.step (X.iaload hx (by rw [eT]; exact A1.1) (State.isArrayOf_alike hZ.alike A1.2.1) A1.2.2 hj (r3 _ (Nat.lt_of_not_le fun q => hj (Or.inr q))) hg hs hd)
theorem Ends.baload (X : Stand p l e R s m args below meth c T locs cells slots) (hx : p.tables.exec = Jvm.exec) (hZ : Z.Warmed39 s.vm) (eT : T.heap = h) (A : Ar Z h a .byte n f) {j : Int32} (hj : inb j n) {g : JFrame} (hg : g.method = m) {rest : List Value} (hs : g.stack = .int j :: .ref a :: rest) (hd : decode c.code g.pc = .ok (.baload, 1))
    (k : Ends p e below s cs ss Q (T.setTop { g with pc := g.pc + 1, stack := .int (f j.toNatClampNeg) :: rest })) : Ends p e below s cs ss Q (T.setTop g) := by
  obtain ⟨cl, A1, r1, -, r3⟩ := A
  subst r1
  exact k.step (X.baloadBytes hx (by rw [eT]; exact A1.1) (State.isArrayOf_alike hZ.alike A1.2.1) A1.2.2 hj (r3 _ (Nat.lt_of_not_le fun q => hj (Or.inr q))) hg hs hd)
theorem Ends.arrlen (X : Stand p l e R s m args below meth c T locs cells slots) (hx : p.tables.exec = Jvm.exec) (hZ : Z.Warmed39 s.vm) (eT : T.heap = h) (A : Ar Z h a ty n f) {g : JFrame} (hg : g.method = m) {rest : List Value} (hs : g.stack = .ref a :: rest) (hd : decode c.code g.pc = .ok (.arraylength, 1))
    (k : Ends p e below s cs ss Q (T.setTop { g with pc := g.pc + 1, stack := .int (Nat.toInt32 n) :: rest })) : Ends p e below s cs ss Q (T.setTop g) := by
  obtain ⟨cl, A1, r1, -, r3⟩ := A
  subst r1
  exact k.step (X.arraylength hx (by rw [eT]; exact A1.1) (State.isArrayOf_alike hZ.alike A1.2.1) hg hs hd)
theorem Ends.iastore (X : Stand p l e R s m args below meth c T locs cells slots) (hx : p.tables.exec = Jvm.exec) (hZ : Z.Warmed39 s.vm) (eT : T.heap = h) (A : Ar Z h a .int n f) {j x : Int32} (hj : inb j n) {n0 : Nat} (N : Fr n0 locs) (ge : n0 ≤ a) {g : JFrame} (hg : g.method = m) {rest : List Value} (hs : g.stack = .int x :: .int j :: .ref a :: rest) (hd : decode c.code g.pc = .ok (.iastore, 1))
    (k : ∀ T' h' sl, Stand p l e R s m args below meth c T' (locs ++ [⟨a, sl⟩]) cells slots → T'.heap = h' → Fr n0 (locs ++ [⟨a, sl⟩]) → Wr h h' a sl (.int x) → Ar Z h' a .int n (upd f j.toNatClampNeg x) → Ends p e below s cs ss Q (T'.setTop { g with pc := g.pc + 1, stack := rest })) : Ends p e below s cs ss Q (T.setTop g) := by
  obtain ⟨cl, A1, r1, r2, r3⟩ := A
  obtain ⟨T', h', X', e', W, st⟩ := stI X hx hZ eT A1 (by rw [r1]; exact hj) hg hs hd
  exact (k T' h' _ X' e' (Fr.snoc X' N ge) W (Ar.set ⟨cl, A1, r1, r2, r3⟩ W)).step st
theorem Ends.bastore (X : Stand p l e R s m args below meth c T locs cells slots) (hx : p.tables.exec = Jvm.exec) (hZ : Z.Warmed39 s.vm) (eT : T.heap = h) (A : Ar Z h a .byte n f) {j x : Int32} (hj : inb j n) {n0 : Nat} (N : Fr n0 locs) (ge : n0 ≤ a) {g : JFrame} (hg : g.method = m) {rest : List Value} (hs : g.stack = .int x :: .int j :: .ref a :: rest) (hd : decode c.code g.pc = .ok (.bastore, 1))
    (k : ∀ T' h' sl, Stand p l e R s m args below meth c T' (locs ++ [⟨a, sl⟩]) cells slots → T'.heap = h' → Fr n0 (locs ++ [⟨a, sl⟩]) → Wr h h' a sl (.int (nar .byte x)) → Ar Z h' a .byte n (upd f j.toNatClampNeg (nar .byte x)) → Ends p e below s cs ss Q (T'.setTop { g with pc := g.pc + 1, stack := rest })) : Ends p e below s cs ss Q (T.setTop g) := by
  obtain ⟨cl, A1, r1, r2, r3⟩ := A
  obtain ⟨T', h', X', e', W, st⟩ := stB X hx hZ eT A1 (by rw [r1]; exact hj) hg hs hd
  exact (k T' h' _ X' e' (Fr.snoc X' N ge) W (Ar.set ⟨cl, A1, r1, r2, r3⟩ W)).step st
theorem Ends.getF (X : Stand p l e R s m args below meth c T locs cells slots) (hx : p.tables.exec = Jvm.exec) (hZ : Z.Warmed39 s.vm) {own O fn d : String} {index : Nat} (hown : s.vm.findClass own = some m.cls) (w : (Jvm.Cond.fieldLink own index O fn d).before a0 Z = true) (eT : T.heap = h) (F : Fld Z h a O fn d v) {g : JFrame} (hg : g.method = m) {rest : List Value} (hs : g.stack = .ref a :: rest) (hd : decode c.code g.pc = .ok (.getfield index, 3))
    (k : ∀ T', Stand p l e R s m args below meth c T' locs cells slots → T'.heap = h → Ends p e below s cs ss Q (T'.setTop { g with pc := g.pc + 3, stack := v :: rest })) : Ends p e below s cs ss Q (T.setTop g) := by
  obtain ⟨T', X', e', st⟩ := Jvm.RoadKit.getF X hx hZ hown (host := "") (Or.inl w) Via.refl eT F hg hs hd
  exact (k T' X' e').step st
theorem Ends.putF (X : Stand p l e R s m args below meth c T locs cells slots) (hx : p.tables.exec = Jvm.exec) (hZ : Z.Warmed39 s.vm) {own O fn d : String} {index kk : Nat} {tf : FieldType} {old : Value} (hown : s.vm.findClass own = some m.cls) (w : (Jvm.Cond.fieldLink own index O fn d).before a0 Z = true) (eT : T.heap = h) (F : Fld Z h a O fn d old) (E : Exa Z h a O) (L : (Jvm.Cond.lays O O fn d).before a0 Z = true ∨ ((Jvm.Cond.laysFinal O O fn d).before a0 Z = true ∧ own = O ∧ meth.name = "<init>")) (wi : (Jvm.Cond.instantiable O kk).before a0 Z = true)
    (hty : parseFieldDescriptor d = some tf) (hn : narrow tf v = v) (hf : fits tf v = true) {n0 : Nat} (N : Fr n0 locs) (ge : n0 ≤ a) {g : JFrame} (hg : g.method = m) {rest : List Value} (hs : g.stack = v :: .ref a :: rest) (hd : decode c.code g.pc = .ok (.putfield index, 3))
    (k : ∀ T' h', Stand p l e R s m args below meth c T' (locs ++ [⟨a, Jvm.RoadKit.slotOf Z O fn d⟩]) cells slots → T'.heap = h' → Fr n0 (locs ++ [⟨a, Jvm.RoadKit.slotOf Z O fn d⟩]) → Wr h h' a (Jvm.RoadKit.slotOf Z O fn d) v → Ends p e below s cs ss Q (T'.setTop { g with pc := g.pc + 3, stack := rest })) : Ends p e below s cs ss Q (T.setTop g) := by
  obtain ⟨T', h', X', e', W, st⟩ := Jvm.RoadKit.putF X hx hZ hown (host := "") (Or.inl w) Via.refl eT F E L wi hty hn hf hg hs hd
  exact (k T' h' X' e' (Fr.snoc X' N ge) W).step st
theorem Ends.newO (X : Stand p l e R s m args below meth c T locs cells slots) (hx : p.tables.exec = Jvm.exec) (hZ : Z.Warmed39 s.vm) {own C : String} {index k : Nat} (hown : s.vm.findClass own = some m.cls) (w : (Jvm.Cond.classLink own index C).before a0 Z = true) (wi : (Jvm.Cond.instantiable C k).before a0 Z = true) (wz : (Jvm.Cond.initialized C).before a0 Z = true) (eT : T.heap = h)
    {g : JFrame} (hg : g.method = m) (hd : decode c.code g.pc = .ok (.new index, 3)) (hc : cells + 1 ≤ R.cells) (hl : slots + k ≤ R.slots)
    (kk : ∀ T' h' a, Stand p l e R s m args below meth c T' locs (cells + 1) (slots + k) → T'.heap = h' → Ext h h' → h.size = a → Exa Z h' a C → (∀ {O nm d : String} {ty : FieldType}, Laid Z a0 C O nm d → parseFieldDescriptor d = some ty → Fld Z h' a O nm d (defaultValue ty)) → Ends p e below s cs ss Q (T'.setTop { g with pc := g.pc + 3, stack := .ref a :: g.stack })) : Ends p e below s cs ss Q (T.setTop g) := by
  obtain ⟨T', h', X', e', E, A, D, -, st⟩ := Jvm.RoadKit.newO X hx hZ hown w wi wz eT hg hd hc hl
  exact (kk T' h' _ X' e' E rfl A D).step st
theorem Ends.initO (X : Stand p l e R s m args below meth c T locs cells slots) (hx : p.tables.exec = Jvm.exec) (hZ : Z.Warmed39 s.vm) {own : String} {idx : Nat} (hown : s.vm.findClass own = some m.cls) (w1 : (Jvm.Cond.methodLink own idx Lib.objectInit).before a0 Z = true) (w2 : (Jvm.Cond.instanceMethod Lib.objectInit).before a0 Z = true)
    (w3 : (Jvm.Cond.code Lib.objectInit ⟨#[0xb1]⟩ 1 none).before a0 Z = true) (eT : T.heap = h) {g : JFrame} (hg : g.method = m) (hsize : g.locals.size = c.maxLocals) {rest : List Value} (hs : g.stack = .ref a :: rest) (hd : decode c.code g.pc = .ok (.invokespecial idx, 3))
    (hf : 1 ≤ R.frames) (W : Nat) (hW : 2 * g.monitorRoom + (rest.map fun v => v.category).sum ≤ W) (hl : W + 12 ≤ R.locals)
    (k : ∀ T', Stand p l e R s m args below meth c T' locs cells slots → T'.heap = h → Ends p e below s cs ss Q (T'.setTop { g with pc := g.pc + 3, stack := rest })) : Ends p e below s cs ss Q (T.setTop g) := by
  obtain ⟨T', X', e', st⟩ := Jvm.RoadKit.initO X hx hZ hown w1 w2 w3 eT hg hsize hs hd hf hW hl
  exact (k T' X' e').step st
def OneS (o : Slot) : Prop := o = .unset ∨ ∃ w, o = .val w ∧ w.category = 1
theorem storeL {ls : Array Slot} {i : Nat} {x : Int64} {o o' : Slot} (h1 : ls[i]? = some o) (h2 : ls[i + 1]? = some o') (p1 : OneS o) (p2 : OneS o') : storeLocals ls i (.long x) = some ((ls.setIfInBounds i (.val (.long x))).setIfInBounds (i + 1) .second) := by
  have l1 : i < ls.size := (Array.getElem?_eq_some_iff.mp h1).1
  have l2 : i + 1 < ls.size := (Array.getElem?_eq_some_iff.mp h2).1
  have e2 : (ls.setIfInBounds i (.val (.long x)))[i + 1]? = some o' := by rw [Array.getElem?_setIfInBounds_ne (by omega)]; exact h2
  have q : storeSelf ls i (.long x) = some ((ls.setIfInBounds i (.val (.long x))).setIfInBounds (i + 1) .second) := by
    have cat : (Value.long x).category = 2 := rfl
    simp only [storeSelf, setAt, if_pos l1, cat, if_true, Option.bind_eq_bind, Option.bind_some, e2]
    rcases p2 with rfl | ⟨w, rfl, hw⟩
    · simp [l2]
    · simp [l2, hw]
  simp only [storeLocals, h1, Option.bind_eq_bind, Option.bind_some]
  rcases p1 with rfl | ⟨w, rfl, hw⟩
  · exact q
  · simp only [hw]; exact q
end OwnFrame
-- body 1
def F1_64 (K : Nat) (n_o0 : Nat) (f_o0 : Nat → Int32) (x2 : Int32) : Int32 := x2
def F1_57 (K : Nat) (n_o0 : Nat) (f_o0 : Nat → Int32) (x2 : Int32) : Int32 := (F1_64 K n_o0 f_o0 (x2 ^^^ (XT.ushr x2 (16 : Int32))))
def F1_51 (K : Nat) (n_o0 : Nat) (f_o0 : Nat → Int32) (x2 : Int32) : Int32 := (F1_57 K n_o0 f_o0 (x2 * (-1028477387 : Int32)))
def F1_44 (K : Nat) (n_o0 : Nat) (f_o0 : Nat → Int32) (x2 : Int32) : Int32 := (F1_51 K n_o0 f_o0 (x2 ^^^ (XT.ushr x2 (13 : Int32))))
def F1_38 (K : Nat) (n_o0 : Nat) (f_o0 : Nat → Int32) (x2 : Int32) : Int32 := (F1_44 K n_o0 f_o0 (x2 * (-2048144789 : Int32)))
def F1_31 (K : Nat) (n_o0 : Nat) (f_o0 : Nat → Int32) (x2 : Int32) : Int32 := (F1_38 K n_o0 f_o0 (x2 ^^^ (XT.ushr x2 (16 : Int32))))
def F1_25 (K : Nat) (rec : Nat → (Nat → Int32) → Int32 → Int32 → Int32 → Int32) (n_o0 : Nat) (f_o0 : Nat → Int32) (x1 : Int32) (x2 : Int32) (x3 : Int32) : Int32 := (rec n_o0 f_o0 x1 x2 (x3 + (1 : Int32)))
def O1_25 (K : Nat) (rec : Nat → (Nat → Int32) → Int32 → Int32 → Int32 → Prop) (n_o0 : Nat) (f_o0 : Nat → Int32) (x1 : Int32) (x2 : Int32) (x3 : Int32) : Prop := (rec n_o0 f_o0 x1 x2 (x3 + (1 : Int32)))
def F1_11 (K : Nat) (rec : Nat → (Nat → Int32) → Int32 → Int32 → Int32 → Int32) (n_o0 : Nat) (f_o0 : Nat → Int32) (x1 : Int32) (x2 : Int32) (x3 : Int32) : Int32 := (F1_25 K rec n_o0 f_o0 x1 ((x2 ^^^ ((f_o0 (x3).toNatClampNeg) &&& (255 : Int32))) * (16777619 : Int32)) x3)
def O1_11 (K : Nat) (rec : Nat → (Nat → Int32) → Int32 → Int32 → Int32 → Prop) (n_o0 : Nat) (f_o0 : Nat → Int32) (x1 : Int32) (x2 : Int32) (x3 : Int32) : Prop := (inb x3 n_o0) ∧ (O1_25 K rec n_o0 f_o0 x1 ((x2 ^^^ ((f_o0 (x3).toNatClampNeg) &&& (255 : Int32))) * (16777619 : Int32)) x3)
def F1_6 (K : Nat) : Nat → Nat → (Nat → Int32) → Int32 → Int32 → Int32 → Int32
  | 0, _, _, _, _, _ => default
  | j + 1, n_o0, f_o0, x1, x2, x3 => if x3 < x1 then (F1_11 K (F1_6 K j) n_o0 f_o0 x1 x2 x3) else (F1_31 K n_o0 f_o0 x2)
def O1_6 (K : Nat) : Nat → Nat → (Nat → Int32) → Int32 → Int32 → Int32 → Prop
  | 0, _, _, _, _, _ => False
  | j + 1, n_o0, f_o0, x1, x2, x3 => (x3 < x1 → (O1_11 K (O1_6 K j) n_o0 f_o0 x1 x2 x3)) ∧ (¬ x3 < x1 → True)
def F1 (K : Nat) (p1 : Int32) (n_o0 : Nat) (f_o0 : Nat → Int32) : Int32 := (F1_6 K K n_o0 f_o0 p1 (-2128831035 : Int32) (0 : Int32))
def O1 (K : Nat) (p1 : Int32) (n_o0 : Nat) (f_o0 : Nat → Int32) : Prop := (O1_6 K K n_o0 f_o0 p1 (-2128831035 : Int32) (0 : Int32))
-- body 2
def F2_36 (x0 : Int32) : Int32 := x0
def F2_29 (x0 : Int32) : Int32 := (F2_36 (x0 ^^^ (XT.ushr x0 (16 : Int32))))
def F2_24 (x0 : Int32) : Int32 := (F2_29 (x0 * (-1513385405 : Int32)))
def F2_12 (x0 : Int32) : Int32 := (F2_24 (x0 ^^^ ((XT.ushr x0 (13 : Int32)) ^^^ (XT.ushr x0 (26 : Int32)))))
def F2_7 (x0 : Int32) : Int32 := (F2_12 (x0 * (2127672349 : Int32)))
def F2 (p0 : Int32) : Int32 := (F2_7 (p0 ^^^ (XT.ushr p0 (16 : Int32))))
-- body 3
def F3_25 (t0 : Int32) : Int32 := (nar .boolean t0)
def F3_20  : Int32 := (F3_25 (1 : Int32))
def F3_24  : Int32 := (F3_25 (0 : Int32))
def F3 (p0 : Int32) (p1 : Int32) (p2 : Int32) : Int32 := if (F2 p1) = (((F2 p0) ^^^ (p2 &&& (255 : Int32))) * (16777619 : Int32)) then F3_20 else F3_24
-- body 0
def F0_194 (K : Nat) (t0 : Int32) : Int32 := (nar .boolean t0)
def F0_189 (K : Nat)  : Int32 := (F0_194 K (1 : Int32))
def F0_193 (K : Nat)  : Int32 := (F0_194 K (0 : Int32))
def F0_175 (K : Nat) (cf_q2 : Nat → Int32) (x12 : Int32) (x13 : Int32) : Int32 := if (F3 x12 x13 (cf_q2 ((5 : Int32)).toNatClampNeg)) = 0 then (F0_193 K) else (F0_189 K)
def F0_161 (K : Nat) (cf_q2 : Nat → Int32) (x11 : Int32) (x12 : Int32) (x13 : Int32) : Int32 := if (F3 x11 x12 (cf_q2 ((4 : Int32)).toNatClampNeg)) = 0 then (F0_193 K) else (F0_175 K cf_q2 x12 x13)
def F0_147 (K : Nat) (cf_q2 : Nat → Int32) (x10 : Int32) (x11 : Int32) (x12 : Int32) (x13 : Int32) : Int32 := if (F3 x10 x11 (cf_q2 ((3 : Int32)).toNatClampNeg)) = 0 then (F0_193 K) else (F0_161 K cf_q2 x11 x12 x13)
def F0_133 (K : Nat) (cf_q2 : Nat → Int32) (x9 : Int32) (x10 : Int32) (x11 : Int32) (x12 : Int32) (x13 : Int32) : Int32 := if (F3 x9 x10 (cf_q2 ((2 : Int32)).toNatClampNeg)) = 0 then (F0_193 K) else (F0_147 K cf_q2 x10 x11 x12 x13)
def F0_119 (K : Nat) (cf_q2 : Nat → Int32) (x8 : Int32) (x9 : Int32) (x10 : Int32) (x11 : Int32) (x12 : Int32) (x13 : Int32) : Int32 := if (F3 x8 x9 (cf_q2 ((1 : Int32)).toNatClampNeg)) = 0 then (F0_193 K) else (F0_133 K cf_q2 x9 x10 x11 x12 x13)
def F0_105 (K : Nat) (cf_q2 : Nat → Int32) (x7 : Int32) (x8 : Int32) (x9 : Int32) (x10 : Int32) (x11 : Int32) (x12 : Int32) (x13 : Int32) : Int32 := if (F3 x7 x8 (cf_q2 ((0 : Int32)).toNatClampNeg)) = 0 then (F0_193 K) else (F0_119 K cf_q2 x8 x9 x10 x11 x12 x13)
def F0_95 (K : Nat) (cf_q2 : Nat → Int32) (x7 : Int32) (x8 : Int32) (x9 : Int32) (x10 : Int32) (x11 : Int32) (x12 : Int32) (x13 : Int32) : Int32 := if (F2 x7) = (-2128831035 : Int32) then (F0_105 K cf_q2 x7 x8 x9 x10 x11 x12 x13) else (F0_193 K)
def F0_86 (K : Nat) (cf_q2 : Nat → Int32) (x7 : Int32) (x8 : Int32) (x9 : Int32) (x10 : Int32) (x11 : Int32) (x12 : Int32) : Int32 := (F0_95 K cf_q2 x7 x8 x9 x10 x11 x12 (F1 K (6 : Int32) 6 cf_q2))
def O0_86 (K : Nat) (cf_q2 : Nat → Int32) (x7 : Int32) (x8 : Int32) (x9 : Int32) (x10 : Int32) (x11 : Int32) (x12 : Int32) : Prop := (O1 K (6 : Int32) 6 cf_q2) ∧ True
def F0_78 (K : Nat) (cf_q2 : Nat → Int32) (x7 : Int32) (x8 : Int32) (x9 : Int32) (x10 : Int32) (x11 : Int32) : Int32 := (F0_86 K cf_q2 x7 x8 x9 x10 x11 (F1 K (5 : Int32) 6 cf_q2))
def O0_78 (K : Nat) (cf_q2 : Nat → Int32) (x7 : Int32) (x8 : Int32) (x9 : Int32) (x10 : Int32) (x11 : Int32) : Prop := (O1 K (5 : Int32) 6 cf_q2) ∧ (O0_86 K cf_q2 x7 x8 x9 x10 x11 (F1 K (5 : Int32) 6 cf_q2))
def F0_70 (K : Nat) (cf_q2 : Nat → Int32) (x7 : Int32) (x8 : Int32) (x9 : Int32) (x10 : Int32) : Int32 := (F0_78 K cf_q2 x7 x8 x9 x10 (F1 K (4 : Int32) 6 cf_q2))
def O0_70 (K : Nat) (cf_q2 : Nat → Int32) (x7 : Int32) (x8 : Int32) (x9 : Int32) (x10 : Int32) : Prop := (O1 K (4 : Int32) 6 cf_q2) ∧ (O0_78 K cf_q2 x7 x8 x9 x10 (F1 K (4 : Int32) 6 cf_q2))
def F0_62 (K : Nat) (cf_q2 : Nat → Int32) (x7 : Int32) (x8 : Int32) (x9 : Int32) : Int32 := (F0_70 K cf_q2 x7 x8 x9 (F1 K (3 : Int32) 6 cf_q2))
def O0_62 (K : Nat) (cf_q2 : Nat → Int32) (x7 : Int32) (x8 : Int32) (x9 : Int32) : Prop := (O1 K (3 : Int32) 6 cf_q2) ∧ (O0_70 K cf_q2 x7 x8 x9 (F1 K (3 : Int32) 6 cf_q2))
def F0_54 (K : Nat) (cf_q2 : Nat → Int32) (x7 : Int32) (x8 : Int32) : Int32 := (F0_62 K cf_q2 x7 x8 (F1 K (2 : Int32) 6 cf_q2))
def O0_54 (K : Nat) (cf_q2 : Nat → Int32) (x7 : Int32) (x8 : Int32) : Prop := (O1 K (2 : Int32) 6 cf_q2) ∧ (O0_62 K cf_q2 x7 x8 (F1 K (2 : Int32) 6 cf_q2))
def F0_46 (K : Nat) (cf_q2 : Nat → Int32) (x7 : Int32) : Int32 := (F0_54 K cf_q2 x7 (F1 K (1 : Int32) 6 cf_q2))
def O0_46 (K : Nat) (cf_q2 : Nat → Int32) (x7 : Int32) : Prop := (O1 K (1 : Int32) 6 cf_q2) ∧ (O0_54 K cf_q2 x7 (F1 K (1 : Int32) 6 cf_q2))
def F0_38 (K : Nat) (cf_q2 : Nat → Int32) : Int32 := (F0_46 K cf_q2 (F1 K (0 : Int32) 6 cf_q2))
def O0_38 (K : Nat) (cf_q2 : Nat → Int32) : Prop := (O1 K (0 : Int32) 6 cf_q2) ∧ (O0_46 K cf_q2 (F1 K (0 : Int32) 6 cf_q2))
def F0 (K : Nat) (p0 : Int32) (p1 : Int32) (p2 : Int32) (p3 : Int32) (p4 : Int32) (p5 : Int32) : Int32 := (F0_38 K (upd (upd (upd (upd (upd (upd (fun _ => 0) 0 (nar .byte ((p0).toInt8.toInt32))) 1 (nar .byte ((p1).toInt8.toInt32))) 2 (nar .byte ((p2).toInt8.toInt32))) 3 (nar .byte ((p3).toInt8.toInt32))) 4 (nar .byte ((p4).toInt8.toInt32))) 5 (nar .byte ((p5).toInt8.toInt32))))
def O0 (K : Nat) (p0 : Int32) (p1 : Int32) (p2 : Int32) (p3 : Int32) (p4 : Int32) (p5 : Int32) : Prop := (O0_38 K (upd (upd (upd (upd (upd (upd (fun _ => 0) 0 (nar .byte ((p0).toInt8.toInt32))) 1 (nar .byte ((p1).toInt8.toInt32))) 2 (nar .byte ((p2).toInt8.toInt32))) 3 (nar .byte ((p3).toInt8.toInt32))) 4 (nar .byte ((p4).toInt8.toInt32))) 5 (nar .byte ((p5).toInt8.toInt32))))
theorem pd_0 : parseMethodDescriptor "(I)I" = some ⟨[.int], (some .int)⟩ := by decide +kernel
theorem pd_1 : parseMethodDescriptor "([BI)I" = some ⟨[(.array .byte), .int], (some .int)⟩ := by decide +kernel
theorem pd_2 : parseMethodDescriptor "(IIB)Z" = some ⟨[.int, .int, .byte], (some .boolean)⟩ := by decide +kernel
theorem d1_0 : decode prog_128_method_25_code 0 = .ok (.ldc_w 335, 3) := by decide +kernel
theorem d1_3 : decode prog_128_method_25_code 3 = .ok (.istore_n 2, 1) := by decide +kernel
theorem d1_4 : decode prog_128_method_25_code 4 = .ok (.iconst 0, 1) := by decide +kernel
theorem d1_5 : decode prog_128_method_25_code 5 = .ok (.istore_n 3, 1) := by decide +kernel
theorem d1_6 : decode prog_128_method_25_code 6 = .ok (.iload_n 3, 1) := by decide +kernel
theorem d1_7 : decode prog_128_method_25_code 7 = .ok (.iload_n 1, 1) := by decide +kernel
theorem d1_8 : decode prog_128_method_25_code 8 = .ok (.if_icmp .ge 23, 3) := by decide +kernel
theorem d1_11 : decode prog_128_method_25_code 11 = .ok (.iload_n 2, 1) := by decide +kernel
theorem d1_12 : decode prog_128_method_25_code 12 = .ok (.aload_n 0, 1) := by decide +kernel
theorem d1_13 : decode prog_128_method_25_code 13 = .ok (.iload_n 3, 1) := by decide +kernel
theorem d1_14 : decode prog_128_method_25_code 14 = .ok (.baload, 1) := by decide +kernel
theorem d1_15 : decode prog_128_method_25_code 15 = .ok (.sipush 255, 3) := by decide +kernel
theorem d1_18 : decode prog_128_method_25_code 18 = .ok (.iand, 1) := by decide +kernel
theorem d1_19 : decode prog_128_method_25_code 19 = .ok (.ixor, 1) := by decide +kernel
theorem d1_20 : decode prog_128_method_25_code 20 = .ok (.ldc_w 336, 3) := by decide +kernel
theorem d1_23 : decode prog_128_method_25_code 23 = .ok (.imul, 1) := by decide +kernel
theorem d1_24 : decode prog_128_method_25_code 24 = .ok (.istore_n 2, 1) := by decide +kernel
theorem d1_25 : decode prog_128_method_25_code 25 = .ok (.iinc 3 1, 3) := by decide +kernel
theorem d1_28 : decode prog_128_method_25_code 28 = .ok (.goto (-22), 3) := by decide +kernel
theorem d1_31 : decode prog_128_method_25_code 31 = .ok (.iload_n 2, 1) := by decide +kernel
theorem d1_32 : decode prog_128_method_25_code 32 = .ok (.iload_n 2, 1) := by decide +kernel
theorem d1_33 : decode prog_128_method_25_code 33 = .ok (.bipush 16, 2) := by decide +kernel
theorem d1_35 : decode prog_128_method_25_code 35 = .ok (.iushr, 1) := by decide +kernel
theorem d1_36 : decode prog_128_method_25_code 36 = .ok (.ixor, 1) := by decide +kernel
theorem d1_37 : decode prog_128_method_25_code 37 = .ok (.istore_n 2, 1) := by decide +kernel
theorem d1_38 : decode prog_128_method_25_code 38 = .ok (.iload_n 2, 1) := by decide +kernel
theorem d1_39 : decode prog_128_method_25_code 39 = .ok (.ldc_w 337, 3) := by decide +kernel
theorem d1_42 : decode prog_128_method_25_code 42 = .ok (.imul, 1) := by decide +kernel
theorem d1_43 : decode prog_128_method_25_code 43 = .ok (.istore_n 2, 1) := by decide +kernel
theorem d1_44 : decode prog_128_method_25_code 44 = .ok (.iload_n 2, 1) := by decide +kernel
theorem d1_45 : decode prog_128_method_25_code 45 = .ok (.iload_n 2, 1) := by decide +kernel
theorem d1_46 : decode prog_128_method_25_code 46 = .ok (.bipush 13, 2) := by decide +kernel
theorem d1_48 : decode prog_128_method_25_code 48 = .ok (.iushr, 1) := by decide +kernel
theorem d1_49 : decode prog_128_method_25_code 49 = .ok (.ixor, 1) := by decide +kernel
theorem d1_50 : decode prog_128_method_25_code 50 = .ok (.istore_n 2, 1) := by decide +kernel
theorem d1_51 : decode prog_128_method_25_code 51 = .ok (.iload_n 2, 1) := by decide +kernel
theorem d1_52 : decode prog_128_method_25_code 52 = .ok (.ldc_w 338, 3) := by decide +kernel
theorem d1_55 : decode prog_128_method_25_code 55 = .ok (.imul, 1) := by decide +kernel
theorem d1_56 : decode prog_128_method_25_code 56 = .ok (.istore_n 2, 1) := by decide +kernel
theorem d1_57 : decode prog_128_method_25_code 57 = .ok (.iload_n 2, 1) := by decide +kernel
theorem d1_58 : decode prog_128_method_25_code 58 = .ok (.iload_n 2, 1) := by decide +kernel
theorem d1_59 : decode prog_128_method_25_code 59 = .ok (.bipush 16, 2) := by decide +kernel
theorem d1_61 : decode prog_128_method_25_code 61 = .ok (.iushr, 1) := by decide +kernel
theorem d1_62 : decode prog_128_method_25_code 62 = .ok (.ixor, 1) := by decide +kernel
theorem d1_63 : decode prog_128_method_25_code 63 = .ok (.istore_n 2, 1) := by decide +kernel
theorem d1_64 : decode prog_128_method_25_code 64 = .ok (.iload_n 2, 1) := by decide +kernel
theorem d1_65 : decode prog_128_method_25_code 65 = .ok (.ireturn, 1) := by decide +kernel
theorem pn_1 : plainFor (⟨"com/example/taxigraph/taxigraph/Terms", "hash", "([BI)I"⟩ : MethodName) = true := by first | exact plainFor_of_name (by first | (simp [plainName, overriddenIn]; done) | decide +kernel) | decide +kernel
theorem ef_1 (m : MethodId) (y0 : Addr) (y1 : Int32) : entryFrame m #[(.ref y0), (.int y1)] 4 = mkF m 0 #[.val (.ref y0), .val (.int y1), .unset, .unset] [] := by first | (simp [entryFrame, mkF, argsToLocals, Value.category]; done) | rfl
def Q1 (Z : State) (a_o0 : Addr) (n_o0 : Nat) (f_o0 : Nat → Int32) (h0 : Heap) (n0 : Nat) (ans : Int32) (v : Option Value) (h : Heap) (L : List Loc) : Prop := v = some (.int ans) ∧ Fr n0 L ∧ h = h0
set_option maxRecDepth 65536 in
set_option maxHeartbeats 40000000 in
theorem rm1 (l : Launch) (Z : State) (a0 : Array Value) (hw : ∀ d ∈ tables_1, d.before a0 Z = true) (K : Nat) (p1 : Int32) (n_o0 : Nat) (f_o0 : Nat → Int32) (a_o0 : Addr) (h0 : Heap) (n0 : Nat) (Z0 : n0 ≤ h0.size) (A_o0 : Ar Z h0 a_o0 .byte n_o0 f_o0) (ok : O1 K p1 n_o0 f_o0) :
    Meets l Z (⟨"com/example/taxigraph/taxigraph/Terms", "hash", "([BI)I"⟩ : MethodName) prog_128_method_25_code 4 (some .int) [] ({ frames := 0, cells := 0, slots := 0, locals := 0 } : Room) #[(.ref a_o0), (.int p1)] h0 (Q1 Z a_o0 n_o0 f_o0 h0 n0 (F1 K p1 n_o0 f_o0)) 0 0 := by
  refine Meets.of pn_1 ?_
  intro p e s m below meth c s₁ hx hby hml hZ hown hnm hret hlk X0 e0
  have hml : c.maxLocals = 4 := hml
  have hown : s.vm.findClass "com/example/taxigraph/taxigraph/Terms" = some m.cls := hown
  have N0 := Fr.nil n0
  have b64 : ∀ (T : State) (L : List Loc) (X : Stand p l e ({ frames := 0, cells := 0, slots := 0, locals := 0 } : Room) s m #[(.ref a_o0), (.int p1)] below meth c T L 0 0) (eT : T.heap = h0) (N : Fr n0 L) (x2 : Int32) (d0 : Slot) (od0 : OneS d0) (d1 : Slot) (od1 : OneS d1) (d3 : Slot) (od3 : OneS d3), Ends p e below s 0 0 (Q1 Z a_o0 n_o0 f_o0 h0 n0 (F1_64 K n_o0 f_o0 x2)) (T.setTop (mkF m 64 #[d0, d1, .val (.int x2), d3] [])) := by
    intro T L X eT N x2 d0 od0 d1 od1 d3 od3
    refine Ends.step (u' := (T.setTop (mkF m 65 #[d0, d1, .val (.int x2), d3] [(.int x2)]))) ?_ (fun _ k => XS.iloadN X.here hx rfl (hb hby d1_64) rfl k)
    exact Ends.ret X (v := some (.int x2)) (fun q => by rw [hret] at q; cases q) hlk (fun fs hr => retI X hx hret (hb hby d1_65) hr) (by decide) (by decide) ⟨rfl, N, eT⟩
  have b57 : ∀ (T : State) (L : List Loc) (X : Stand p l e ({ frames := 0, cells := 0, slots := 0, locals := 0 } : Room) s m #[(.ref a_o0), (.int p1)] below meth c T L 0 0) (eT : T.heap = h0) (N : Fr n0 L) (x2 : Int32) (d0 : Slot) (od0 : OneS d0) (d1 : Slot) (od1 : OneS d1) (d3 : Slot) (od3 : OneS d3), Ends p e below s 0 0 (Q1 Z a_o0 n_o0 f_o0 h0 n0 (F1_57 K n_o0 f_o0 x2)) (T.setTop (mkF m 57 #[d0, d1, .val (.int x2), d3] [])) := by
    intro T L X eT N x2 d0 od0 d1 od1 d3 od3
    refine Ends.step (u' := (T.setTop (mkF m 58 #[d0, d1, .val (.int x2), d3] [(.int x2)]))) ?_ (fun _ k => XS.iloadN X.here hx rfl (hb hby d1_57) rfl k)
    refine Ends.step (u' := (T.setTop (mkF m 59 #[d0, d1, .val (.int x2), d3] [(.int x2), (.int x2)]))) ?_ (fun _ k => XS.iloadN X.here hx rfl (hb hby d1_58) rfl k)
    refine Ends.step (u' := (T.setTop (mkF m 61 #[d0, d1, .val (.int x2), d3] [(.int (16 : Int32)), (.int x2), (.int x2)]))) ?_ (fun _ k => XT.bipushV X.here hx rfl (16 : Int32) (hb hby d1_59) rfl k)
    refine Ends.step (u' := (T.setTop (mkF m 62 #[d0, d1, .val (.int x2), d3] [(.int (XT.ushr x2 (16 : Int32))), (.int x2)]))) ?_ (fun _ k => XT.iushr X.here hx rfl (hb hby d1_61) rfl k)
    refine Ends.step (u' := (T.setTop (mkF m 63 #[d0, d1, .val (.int x2), d3] [(.int (x2 ^^^ (XT.ushr x2 (16 : Int32))))]))) ?_ (fun _ k => XT.ixor X.here hx rfl (hb hby d1_62) rfl k)
    refine Ends.step (u' := (T.setTop (mkF m 64 #[d0, d1, .val (.int (x2 ^^^ (XT.ushr x2 (16 : Int32)))), d3] []))) ?_ (fun _ k => XS.istoreN X.here hx rfl (hb hby d1_63) rfl (l' := #[d0, d1, .val (.int (x2 ^^^ (XT.ushr x2 (16 : Int32)))), d3]) rfl k)
    exact b64 T _ X eT N (x2 ^^^ (XT.ushr x2 (16 : Int32))) (d0) od0 (d1) od1 (d3) od3
  have b51 : ∀ (T : State) (L : List Loc) (X : Stand p l e ({ frames := 0, cells := 0, slots := 0, locals := 0 } : Room) s m #[(.ref a_o0), (.int p1)] below meth c T L 0 0) (eT : T.heap = h0) (N : Fr n0 L) (x2 : Int32) (d0 : Slot) (od0 : OneS d0) (d1 : Slot) (od1 : OneS d1) (d3 : Slot) (od3 : OneS d3), Ends p e below s 0 0 (Q1 Z a_o0 n_o0 f_o0 h0 n0 (F1_51 K n_o0 f_o0 x2)) (T.setTop (mkF m 51 #[d0, d1, .val (.int x2), d3] [])) := by
    intro T L X eT N x2 d0 od0 d1 od1 d3 od3
    refine Ends.step (u' := (T.setTop (mkF m 52 #[d0, d1, .val (.int x2), d3] [(.int x2)]))) ?_ (fun _ k => XS.iloadN X.here hx rfl (hb hby d1_51) rfl k)
    refine Ends.step (u' := (T.setTop (mkF m 55 #[d0, d1, .val (.int x2), d3] [(.int (-1028477387 : Int32)), (.int x2)]))) ?_ (fun _ k => X.ldcWI hx hown (mvT hZ (hw _ (List.mem_of_getElem? (i := 7) rfl))) rfl (hb hby d1_52) k)
    refine Ends.step (u' := (T.setTop (mkF m 56 #[d0, d1, .val (.int x2), d3] [(.int (x2 * (-1028477387 : Int32)))]))) ?_ (fun _ k => XS.imul X.here hx rfl (hb hby d1_55) rfl k)
    refine Ends.step (u' := (T.setTop (mkF m 57 #[d0, d1, .val (.int (x2 * (-1028477387 : Int32))), d3] []))) ?_ (fun _ k => XS.istoreN X.here hx rfl (hb hby d1_56) rfl (l' := #[d0, d1, .val (.int (x2 * (-1028477387 : Int32))), d3]) rfl k)
    exact b57 T _ X eT N (x2 * (-1028477387 : Int32)) (d0) od0 (d1) od1 (d3) od3
  have b44 : ∀ (T : State) (L : List Loc) (X : Stand p l e ({ frames := 0, cells := 0, slots := 0, locals := 0 } : Room) s m #[(.ref a_o0), (.int p1)] below meth c T L 0 0) (eT : T.heap = h0) (N : Fr n0 L) (x2 : Int32) (d0 : Slot) (od0 : OneS d0) (d1 : Slot) (od1 : OneS d1) (d3 : Slot) (od3 : OneS d3), Ends p e below s 0 0 (Q1 Z a_o0 n_o0 f_o0 h0 n0 (F1_44 K n_o0 f_o0 x2)) (T.setTop (mkF m 44 #[d0, d1, .val (.int x2), d3] [])) := by
    intro T L X eT N x2 d0 od0 d1 od1 d3 od3
    refine Ends.step (u' := (T.setTop (mkF m 45 #[d0, d1, .val (.int x2), d3] [(.int x2)]))) ?_ (fun _ k => XS.iloadN X.here hx rfl (hb hby d1_44) rfl k)
    refine Ends.step (u' := (T.setTop (mkF m 46 #[d0, d1, .val (.int x2), d3] [(.int x2), (.int x2)]))) ?_ (fun _ k => XS.iloadN X.here hx rfl (hb hby d1_45) rfl k)
    refine Ends.step (u' := (T.setTop (mkF m 48 #[d0, d1, .val (.int x2), d3] [(.int (13 : Int32)), (.int x2), (.int x2)]))) ?_ (fun _ k => XT.bipushV X.here hx rfl (13 : Int32) (hb hby d1_46) rfl k)
    refine Ends.step (u' := (T.setTop (mkF m 49 #[d0, d1, .val (.int x2), d3] [(.int (XT.ushr x2 (13 : Int32))), (.int x2)]))) ?_ (fun _ k => XT.iushr X.here hx rfl (hb hby d1_48) rfl k)
    refine Ends.step (u' := (T.setTop (mkF m 50 #[d0, d1, .val (.int x2), d3] [(.int (x2 ^^^ (XT.ushr x2 (13 : Int32))))]))) ?_ (fun _ k => XT.ixor X.here hx rfl (hb hby d1_49) rfl k)
    refine Ends.step (u' := (T.setTop (mkF m 51 #[d0, d1, .val (.int (x2 ^^^ (XT.ushr x2 (13 : Int32)))), d3] []))) ?_ (fun _ k => XS.istoreN X.here hx rfl (hb hby d1_50) rfl (l' := #[d0, d1, .val (.int (x2 ^^^ (XT.ushr x2 (13 : Int32)))), d3]) rfl k)
    exact b51 T _ X eT N (x2 ^^^ (XT.ushr x2 (13 : Int32))) (d0) od0 (d1) od1 (d3) od3
  have b38 : ∀ (T : State) (L : List Loc) (X : Stand p l e ({ frames := 0, cells := 0, slots := 0, locals := 0 } : Room) s m #[(.ref a_o0), (.int p1)] below meth c T L 0 0) (eT : T.heap = h0) (N : Fr n0 L) (x2 : Int32) (d0 : Slot) (od0 : OneS d0) (d1 : Slot) (od1 : OneS d1) (d3 : Slot) (od3 : OneS d3), Ends p e below s 0 0 (Q1 Z a_o0 n_o0 f_o0 h0 n0 (F1_38 K n_o0 f_o0 x2)) (T.setTop (mkF m 38 #[d0, d1, .val (.int x2), d3] [])) := by
    intro T L X eT N x2 d0 od0 d1 od1 d3 od3
    refine Ends.step (u' := (T.setTop (mkF m 39 #[d0, d1, .val (.int x2), d3] [(.int x2)]))) ?_ (fun _ k => XS.iloadN X.here hx rfl (hb hby d1_38) rfl k)
    refine Ends.step (u' := (T.setTop (mkF m 42 #[d0, d1, .val (.int x2), d3] [(.int (-2048144789 : Int32)), (.int x2)]))) ?_ (fun _ k => X.ldcWI hx hown (mvT hZ (hw _ (List.mem_of_getElem? (i := 6) rfl))) rfl (hb hby d1_39) k)
    refine Ends.step (u' := (T.setTop (mkF m 43 #[d0, d1, .val (.int x2), d3] [(.int (x2 * (-2048144789 : Int32)))]))) ?_ (fun _ k => XS.imul X.here hx rfl (hb hby d1_42) rfl k)
    refine Ends.step (u' := (T.setTop (mkF m 44 #[d0, d1, .val (.int (x2 * (-2048144789 : Int32))), d3] []))) ?_ (fun _ k => XS.istoreN X.here hx rfl (hb hby d1_43) rfl (l' := #[d0, d1, .val (.int (x2 * (-2048144789 : Int32))), d3]) rfl k)
    exact b44 T _ X eT N (x2 * (-2048144789 : Int32)) (d0) od0 (d1) od1 (d3) od3
  have b31 : ∀ (T : State) (L : List Loc) (X : Stand p l e ({ frames := 0, cells := 0, slots := 0, locals := 0 } : Room) s m #[(.ref a_o0), (.int p1)] below meth c T L 0 0) (eT : T.heap = h0) (N : Fr n0 L) (x2 : Int32) (d0 : Slot) (od0 : OneS d0) (d1 : Slot) (od1 : OneS d1) (d3 : Slot) (od3 : OneS d3), Ends p e below s 0 0 (Q1 Z a_o0 n_o0 f_o0 h0 n0 (F1_31 K n_o0 f_o0 x2)) (T.setTop (mkF m 31 #[d0, d1, .val (.int x2), d3] [])) := by
    intro T L X eT N x2 d0 od0 d1 od1 d3 od3
    refine Ends.step (u' := (T.setTop (mkF m 32 #[d0, d1, .val (.int x2), d3] [(.int x2)]))) ?_ (fun _ k => XS.iloadN X.here hx rfl (hb hby d1_31) rfl k)
    refine Ends.step (u' := (T.setTop (mkF m 33 #[d0, d1, .val (.int x2), d3] [(.int x2), (.int x2)]))) ?_ (fun _ k => XS.iloadN X.here hx rfl (hb hby d1_32) rfl k)
    refine Ends.step (u' := (T.setTop (mkF m 35 #[d0, d1, .val (.int x2), d3] [(.int (16 : Int32)), (.int x2), (.int x2)]))) ?_ (fun _ k => XT.bipushV X.here hx rfl (16 : Int32) (hb hby d1_33) rfl k)
    refine Ends.step (u' := (T.setTop (mkF m 36 #[d0, d1, .val (.int x2), d3] [(.int (XT.ushr x2 (16 : Int32))), (.int x2)]))) ?_ (fun _ k => XT.iushr X.here hx rfl (hb hby d1_35) rfl k)
    refine Ends.step (u' := (T.setTop (mkF m 37 #[d0, d1, .val (.int x2), d3] [(.int (x2 ^^^ (XT.ushr x2 (16 : Int32))))]))) ?_ (fun _ k => XT.ixor X.here hx rfl (hb hby d1_36) rfl k)
    refine Ends.step (u' := (T.setTop (mkF m 38 #[d0, d1, .val (.int (x2 ^^^ (XT.ushr x2 (16 : Int32)))), d3] []))) ?_ (fun _ k => XS.istoreN X.here hx rfl (hb hby d1_37) rfl (l' := #[d0, d1, .val (.int (x2 ^^^ (XT.ushr x2 (16 : Int32)))), d3]) rfl k)
    exact b38 T _ X eT N (x2 ^^^ (XT.ushr x2 (16 : Int32))) (d0) od0 (d1) od1 (d3) od3
  have b6 : ∀ (j : Nat) (T : State) (L : List Loc) (X : Stand p l e ({ frames := 0, cells := 0, slots := 0, locals := 0 } : Room) s m #[(.ref a_o0), (.int p1)] below meth c T L 0 0) (eT : T.heap = h0) (N : Fr n0 L) (x1 : Int32) (x2 : Int32) (x3 : Int32) (ok : (O1_6 K j n_o0 f_o0 x1 x2 x3)), Ends p e below s 0 0 (Q1 Z a_o0 n_o0 f_o0 h0 n0 (F1_6 K j n_o0 f_o0 x1 x2 x3)) (T.setTop (mkF m 6 #[.val (.ref a_o0), .val (.int x1), .val (.int x2), .val (.int x3)] [])) := by
    intro j
    induction j with
    | zero => intro T L X eT N x1 x2 x3 ok; exact ok.elim
    | succ j ih =>
      have b25 : ∀ (T : State) (L : List Loc) (X : Stand p l e ({ frames := 0, cells := 0, slots := 0, locals := 0 } : Room) s m #[(.ref a_o0), (.int p1)] below meth c T L 0 0) (eT : T.heap = h0) (N : Fr n0 L) (x1 : Int32) (x2 : Int32) (x3 : Int32) (ok : (O1_25 K (O1_6 K j) n_o0 f_o0 x1 x2 x3)), Ends p e below s 0 0 (Q1 Z a_o0 n_o0 f_o0 h0 n0 (F1_25 K (F1_6 K j) n_o0 f_o0 x1 x2 x3)) (T.setTop (mkF m 25 #[.val (.ref a_o0), .val (.int x1), .val (.int x2), .val (.int x3)] [])) := by
        intro T L X eT N x1 x2 x3 ok
        refine Ends.step (u' := (T.setTop (mkF m 28 #[.val (.ref a_o0), .val (.int x1), .val (.int x2), .val (.int (x3 + (1 : Int32)))] []))) ?_ (fun _ k => XT.iincV X.here hx rfl (1 : Int32) (hb hby d1_25) rfl rfl (l' := #[.val (.ref a_o0), .val (.int x1), .val (.int x2), .val (.int (x3 + (1 : Int32)))]) rfl k)
        refine Ends.step (u' := (T.setTop (mkF m 6 #[.val (.ref a_o0), .val (.int x1), .val (.int x2), .val (.int (x3 + (1 : Int32)))] []))) ?_ (fun _ k => XS.goto X.here hx rfl (pc0 := 28) (pc' := 6) rfl (hb hby d1_28) (by decide) (by decide) k)
        exact ih T _ X eT N x1 x2 (x3 + (1 : Int32)) ok
      have b11 : ∀ (T : State) (L : List Loc) (X : Stand p l e ({ frames := 0, cells := 0, slots := 0, locals := 0 } : Room) s m #[(.ref a_o0), (.int p1)] below meth c T L 0 0) (eT : T.heap = h0) (N : Fr n0 L) (x1 : Int32) (x2 : Int32) (x3 : Int32) (ok : (O1_11 K (O1_6 K j) n_o0 f_o0 x1 x2 x3)), Ends p e below s 0 0 (Q1 Z a_o0 n_o0 f_o0 h0 n0 (F1_11 K (F1_6 K j) n_o0 f_o0 x1 x2 x3)) (T.setTop (mkF m 11 #[.val (.ref a_o0), .val (.int x1), .val (.int x2), .val (.int x3)] [])) := by
        intro T L X eT N x1 x2 x3 ok
        obtain ⟨o1, ok⟩ := ok
        refine Ends.step (u' := (T.setTop (mkF m 12 #[.val (.ref a_o0), .val (.int x1), .val (.int x2), .val (.int x3)] [(.int x2)]))) ?_ (fun _ k => XS.iloadN X.here hx rfl (hb hby d1_11) rfl k)
        refine Ends.step (u' := (T.setTop (mkF m 13 #[.val (.ref a_o0), .val (.int x1), .val (.int x2), .val (.int x3)] [(.ref a_o0), (.int x2)]))) ?_ (fun _ k => XS.aloadN X.here hx rfl (hb hby d1_12) rfl rfl k)
        refine Ends.step (u' := (T.setTop (mkF m 14 #[.val (.ref a_o0), .val (.int x1), .val (.int x2), .val (.int x3)] [(.int x3), (.ref a_o0), (.int x2)]))) ?_ (fun _ k => XS.iloadN X.here hx rfl (hb hby d1_13) rfl k)
        refine Ends.baload X hx hZ eT A_o0 o1 (g := (mkF m 14 #[.val (.ref a_o0), .val (.int x1), .val (.int x2), .val (.int x3)] [(.int x3), (.ref a_o0), (.int x2)])) rfl rfl (hb hby d1_14) ?_
        show Ends p e below s _ _ _ (T.setTop (mkF m 15 #[.val (.ref a_o0), .val (.int x1), .val (.int x2), .val (.int x3)] [(.int (f_o0 (x3).toNatClampNeg)), (.int x2)]))
        refine Ends.step (u' := (T.setTop (mkF m 18 #[.val (.ref a_o0), .val (.int x1), .val (.int x2), .val (.int x3)] [(.int (255 : Int32)), (.int (f_o0 (x3).toNatClampNeg)), (.int x2)]))) ?_ (fun _ k => XT.sipushV X.here hx rfl (255 : Int32) (hb hby d1_15) rfl k)
        refine Ends.step (u' := (T.setTop (mkF m 19 #[.val (.ref a_o0), .val (.int x1), .val (.int x2), .val (.int x3)] [(.int ((f_o0 (x3).toNatClampNeg) &&& (255 : Int32))), (.int x2)]))) ?_ (fun _ k => XS.iand X.here hx rfl (hb hby d1_18) rfl k)
        refine Ends.step (u' := (T.setTop (mkF m 20 #[.val (.ref a_o0), .val (.int x1), .val (.int x2), .val (.int x3)] [(.int (x2 ^^^ ((f_o0 (x3).toNatClampNeg) &&& (255 : Int32))))]))) ?_ (fun _ k => XT.ixor X.here hx rfl (hb hby d1_19) rfl k)
        refine Ends.step (u' := (T.setTop (mkF m 23 #[.val (.ref a_o0), .val (.int x1), .val (.int x2), .val (.int x3)] [(.int (16777619 : Int32)), (.int (x2 ^^^ ((f_o0 (x3).toNatClampNeg) &&& (255 : Int32))))]))) ?_ (fun _ k => X.ldcWI hx hown (mvT hZ (hw _ (List.mem_of_getElem? (i := 8) rfl))) rfl (hb hby d1_20) k)
        refine Ends.step (u' := (T.setTop (mkF m 24 #[.val (.ref a_o0), .val (.int x1), .val (.int x2), .val (.int x3)] [(.int ((x2 ^^^ ((f_o0 (x3).toNatClampNeg) &&& (255 : Int32))) * (16777619 : Int32)))]))) ?_ (fun _ k => XS.imul X.here hx rfl (hb hby d1_23) rfl k)
        refine Ends.step (u' := (T.setTop (mkF m 25 #[.val (.ref a_o0), .val (.int x1), .val (.int ((x2 ^^^ ((f_o0 (x3).toNatClampNeg) &&& (255 : Int32))) * (16777619 : Int32))), .val (.int x3)] []))) ?_ (fun _ k => XS.istoreN X.here hx rfl (hb hby d1_24) rfl (l' := #[.val (.ref a_o0), .val (.int x1), .val (.int ((x2 ^^^ ((f_o0 (x3).toNatClampNeg) &&& (255 : Int32))) * (16777619 : Int32))), .val (.int x3)]) rfl k)
        exact b25 T _ X eT N x1 ((x2 ^^^ ((f_o0 (x3).toNatClampNeg) &&& (255 : Int32))) * (16777619 : Int32)) x3 ok
      intro T L X eT N x1 x2 x3 ok
      obtain ⟨okt, okf⟩ := ok
      refine Ends.step (u' := (T.setTop (mkF m 7 #[.val (.ref a_o0), .val (.int x1), .val (.int x2), .val (.int x3)] [(.int x3)]))) ?_ (fun _ k => XS.iloadN X.here hx rfl (hb hby d1_6) rfl k)
      refine Ends.step (u' := (T.setTop (mkF m 8 #[.val (.ref a_o0), .val (.int x1), .val (.int x2), .val (.int x3)] [(.int x1), (.int x3)]))) ?_ (fun _ k => XS.iloadN X.here hx rfl (hb hby d1_7) rfl k)
      by_cases hc8 : x3 < x1
      · refine Eq.mp (congrArg (fun z => Ends p e below s 0 0 (Q1 Z a_o0 n_o0 f_o0 h0 n0 z) (T.setTop (mkF m 8 #[.val (.ref a_o0), .val (.int x1), .val (.int x2), .val (.int x3)] [(.int x1), (.int x3)]))) (show (F1_6 K (j + 1) n_o0 f_o0 x1 x2 x3) = (F1_11 K (F1_6 K j) n_o0 f_o0 x1 x2 x3) from (if_pos hc8)).symm) ?_
        refine Ends.step (u' := (T.setTop (mkF m 11 #[.val (.ref a_o0), .val (.int x1), .val (.int x2), .val (.int x3)] []))) ?_ (fun _ k => XS.icmpNo X.here hx rfl (hb hby d1_8) rfl (XT.ii_ge_f hc8) k)
        exact b11 T _ X eT N x1 x2 x3 (okt hc8)
      · refine Eq.mp (congrArg (fun z => Ends p e below s 0 0 (Q1 Z a_o0 n_o0 f_o0 h0 n0 z) (T.setTop (mkF m 8 #[.val (.ref a_o0), .val (.int x1), .val (.int x2), .val (.int x3)] [(.int x1), (.int x3)]))) (show (F1_6 K (j + 1) n_o0 f_o0 x1 x2 x3) = (F1_31 K n_o0 f_o0 x2) from (if_neg hc8)).symm) ?_
        refine Ends.step (u' := (T.setTop (mkF m 31 #[.val (.ref a_o0), .val (.int x1), .val (.int x2), .val (.int x3)] []))) ?_ (fun _ k => XS.icmpYes X.here hx rfl (pc0 := 8) (pc' := 31) rfl (hb hby d1_8) rfl (XT.ii_ge_t hc8) (by decide) (by decide) k)
        exact b31 T _ X eT N x2 (.val (.ref a_o0)) (Or.inr ⟨_, rfl, rfl⟩) (.val (.int x1)) (Or.inr ⟨_, rfl, rfl⟩) (.val (.int x3)) (Or.inr ⟨_, rfl, rfl⟩)
  refine Ends.step (u' := (s₁.setTop (mkF m 0 #[.val (.ref a_o0), .val (.int p1), .unset, .unset] []))) ?_ (fun _ k => castTop (ef_1 m a_o0 p1) k)
  refine Ends.step (u' := (s₁.setTop (mkF m 3 #[.val (.ref a_o0), .val (.int p1), .unset, .unset] [(.int (-2128831035 : Int32))]))) ?_ (fun _ k => X0.ldcWI hx hown (mvT hZ (hw _ (List.mem_of_getElem? (i := 5) rfl))) rfl (hb hby d1_0) k)
  refine Ends.step (u' := (s₁.setTop (mkF m 4 #[.val (.ref a_o0), .val (.int p1), .val (.int (-2128831035 : Int32)), .unset] []))) ?_ (fun _ k => XS.istoreN X0.here hx rfl (hb hby d1_3) rfl (l' := #[.val (.ref a_o0), .val (.int p1), .val (.int (-2128831035 : Int32)), .unset]) rfl k)
  refine Ends.step (u' := (s₁.setTop (mkF m 5 #[.val (.ref a_o0), .val (.int p1), .val (.int (-2128831035 : Int32)), .unset] [(.int (0 : Int32))]))) ?_ (fun _ k => XT.iconstV X0.here hx rfl (0 : Int32) (hb hby d1_4) rfl k)
  refine Ends.step (u' := (s₁.setTop (mkF m 6 #[.val (.ref a_o0), .val (.int p1), .val (.int (-2128831035 : Int32)), .val (.int (0 : Int32))] []))) ?_ (fun _ k => XS.istoreN X0.here hx rfl (hb hby d1_5) rfl (l' := #[.val (.ref a_o0), .val (.int p1), .val (.int (-2128831035 : Int32)), .val (.int (0 : Int32))]) rfl k)
  exact b6 K s₁ _ X0 e0 N0 p1 (-2128831035 : Int32) (0 : Int32) ok
theorem d2_0 : decode method_2_code 0 = .ok (.iload_n 0, 1) := by decide +kernel
theorem d2_1 : decode method_2_code 1 = .ok (.iload_n 0, 1) := by decide +kernel
theorem d2_2 : decode method_2_code 2 = .ok (.bipush 16, 2) := by decide +kernel
theorem d2_4 : decode method_2_code 4 = .ok (.iushr, 1) := by decide +kernel
theorem d2_5 : decode method_2_code 5 = .ok (.ixor, 1) := by decide +kernel
theorem d2_6 : decode method_2_code 6 = .ok (.istore_n 0, 1) := by decide +kernel
theorem d2_7 : decode method_2_code 7 = .ok (.iload_n 0, 1) := by decide +kernel
theorem d2_8 : decode method_2_code 8 = .ok (.ldc 7, 2) := by decide +kernel
theorem d2_10 : decode method_2_code 10 = .ok (.imul, 1) := by decide +kernel
theorem d2_11 : decode method_2_code 11 = .ok (.istore_n 0, 1) := by decide +kernel
theorem d2_12 : decode method_2_code 12 = .ok (.iload_n 0, 1) := by decide +kernel
theorem d2_13 : decode method_2_code 13 = .ok (.iload_n 0, 1) := by decide +kernel
theorem d2_14 : decode method_2_code 14 = .ok (.bipush 13, 2) := by decide +kernel
theorem d2_16 : decode method_2_code 16 = .ok (.iushr, 1) := by decide +kernel
theorem d2_17 : decode method_2_code 17 = .ok (.iload_n 0, 1) := by decide +kernel
theorem d2_18 : decode method_2_code 18 = .ok (.bipush 26, 2) := by decide +kernel
theorem d2_20 : decode method_2_code 20 = .ok (.iushr, 1) := by decide +kernel
theorem d2_21 : decode method_2_code 21 = .ok (.ixor, 1) := by decide +kernel
theorem d2_22 : decode method_2_code 22 = .ok (.ixor, 1) := by decide +kernel
theorem d2_23 : decode method_2_code 23 = .ok (.istore_n 0, 1) := by decide +kernel
theorem d2_24 : decode method_2_code 24 = .ok (.iload_n 0, 1) := by decide +kernel
theorem d2_25 : decode method_2_code 25 = .ok (.ldc 8, 2) := by decide +kernel
theorem d2_27 : decode method_2_code 27 = .ok (.imul, 1) := by decide +kernel
theorem d2_28 : decode method_2_code 28 = .ok (.istore_n 0, 1) := by decide +kernel
theorem d2_29 : decode method_2_code 29 = .ok (.iload_n 0, 1) := by decide +kernel
theorem d2_30 : decode method_2_code 30 = .ok (.iload_n 0, 1) := by decide +kernel
theorem d2_31 : decode method_2_code 31 = .ok (.bipush 16, 2) := by decide +kernel
theorem d2_33 : decode method_2_code 33 = .ok (.iushr, 1) := by decide +kernel
theorem d2_34 : decode method_2_code 34 = .ok (.ixor, 1) := by decide +kernel
theorem d2_35 : decode method_2_code 35 = .ok (.istore_n 0, 1) := by decide +kernel
theorem d2_36 : decode method_2_code 36 = .ok (.iload_n 0, 1) := by decide +kernel
theorem d2_37 : decode method_2_code 37 = .ok (.ireturn, 1) := by decide +kernel
theorem pn_2 : plainFor (⟨"com/example/taxigraph/taxigraph/TermsHashPinLaw", "unmix", "(I)I"⟩ : MethodName) = true := by first | exact plainFor_of_name (by first | (simp [plainName, overriddenIn]; done) | decide +kernel) | decide +kernel
theorem ef_2 (m : MethodId) (y0 : Int32) : entryFrame m #[(.int y0)] 1 = mkF m 0 #[.val (.int y0)] [] := by first | (simp [entryFrame, mkF, argsToLocals, Value.category]; done) | rfl
def Q2 (Z : State)   (h0 : Heap) (n0 : Nat) (ans : Int32) (v : Option Value) (h : Heap) (L : List Loc) : Prop := v = some (.int ans) ∧ Fr n0 L ∧ h = h0
set_option maxRecDepth 65536 in
set_option maxHeartbeats 40000000 in
theorem rm2 (l : Launch) (Z : State) (a0 : Array Value) (hw : ∀ d ∈ tables_1, d.before a0 Z = true) (p0 : Int32)  (h0 : Heap) (n0 : Nat) (Z0 : n0 ≤ h0.size)  :
    Meets l Z (⟨"com/example/taxigraph/taxigraph/TermsHashPinLaw", "unmix", "(I)I"⟩ : MethodName) method_2_code 1 (some .int) [] ({ frames := 0, cells := 0, slots := 0, locals := 0 } : Room) #[(.int p0)] h0 (Q2 Z  h0 n0 (F2 p0)) 0 0 := by
  refine Meets.of pn_2 ?_
  intro p e s m below meth c s₁ hx hby hml hZ hown hnm hret hlk X0 e0
  have hml : c.maxLocals = 1 := hml
  have hown : s.vm.findClass "com/example/taxigraph/taxigraph/TermsHashPinLaw" = some m.cls := hown
  have N0 := Fr.nil n0
  have b36 : ∀ (T : State) (L : List Loc) (X : Stand p l e ({ frames := 0, cells := 0, slots := 0, locals := 0 } : Room) s m #[(.int p0)] below meth c T L 0 0) (eT : T.heap = h0) (N : Fr n0 L) (x0 : Int32), Ends p e below s 0 0 (Q2 Z  h0 n0 (F2_36 x0)) (T.setTop (mkF m 36 #[.val (.int x0)] [])) := by
    intro T L X eT N x0
    refine Ends.step (u' := (T.setTop (mkF m 37 #[.val (.int x0)] [(.int x0)]))) ?_ (fun _ k => XS.iloadN X.here hx rfl (hb hby d2_36) rfl k)
    exact Ends.ret X (v := some (.int x0)) (fun q => by rw [hret] at q; cases q) hlk (fun fs hr => retI X hx hret (hb hby d2_37) hr) (by decide) (by decide) ⟨rfl, N, eT⟩
  have b29 : ∀ (T : State) (L : List Loc) (X : Stand p l e ({ frames := 0, cells := 0, slots := 0, locals := 0 } : Room) s m #[(.int p0)] below meth c T L 0 0) (eT : T.heap = h0) (N : Fr n0 L) (x0 : Int32), Ends p e below s 0 0 (Q2 Z  h0 n0 (F2_29 x0)) (T.setTop (mkF m 29 #[.val (.int x0)] [])) := by
    intro T L X eT N x0
    refine Ends.step (u' := (T.setTop (mkF m 30 #[.val (.int x0)] [(.int x0)]))) ?_ (fun _ k => XS.iloadN X.here hx rfl (hb hby d2_29) rfl k)
    refine Ends.step (u' := (T.setTop (mkF m 31 #[.val (.int x0)] [(.int x0), (.int x0)]))) ?_ (fun _ k => XS.iloadN X.here hx rfl (hb hby d2_30) rfl k)
    refine Ends.step (u' := (T.setTop (mkF m 33 #[.val (.int x0)] [(.int (16 : Int32)), (.int x0), (.int x0)]))) ?_ (fun _ k => XT.bipushV X.here hx rfl (16 : Int32) (hb hby d2_31) rfl k)
    refine Ends.step (u' := (T.setTop (mkF m 34 #[.val (.int x0)] [(.int (XT.ushr x0 (16 : Int32))), (.int x0)]))) ?_ (fun _ k => XT.iushr X.here hx rfl (hb hby d2_33) rfl k)
    refine Ends.step (u' := (T.setTop (mkF m 35 #[.val (.int x0)] [(.int (x0 ^^^ (XT.ushr x0 (16 : Int32))))]))) ?_ (fun _ k => XT.ixor X.here hx rfl (hb hby d2_34) rfl k)
    refine Ends.step (u' := (T.setTop (mkF m 36 #[.val (.int (x0 ^^^ (XT.ushr x0 (16 : Int32))))] []))) ?_ (fun _ k => XS.istoreN X.here hx rfl (hb hby d2_35) rfl (l' := #[.val (.int (x0 ^^^ (XT.ushr x0 (16 : Int32))))]) rfl k)
    exact b36 T _ X eT N (x0 ^^^ (XT.ushr x0 (16 : Int32)))
  have b24 : ∀ (T : State) (L : List Loc) (X : Stand p l e ({ frames := 0, cells := 0, slots := 0, locals := 0 } : Room) s m #[(.int p0)] below meth c T L 0 0) (eT : T.heap = h0) (N : Fr n0 L) (x0 : Int32), Ends p e below s 0 0 (Q2 Z  h0 n0 (F2_24 x0)) (T.setTop (mkF m 24 #[.val (.int x0)] [])) := by
    intro T L X eT N x0
    refine Ends.step (u' := (T.setTop (mkF m 25 #[.val (.int x0)] [(.int x0)]))) ?_ (fun _ k => XS.iloadN X.here hx rfl (hb hby d2_24) rfl k)
    refine Ends.step (u' := (T.setTop (mkF m 27 #[.val (.int x0)] [(.int (-1513385405 : Int32)), (.int x0)]))) ?_ (fun _ k => X.ldcI hx hown (mvT hZ (hw _ (List.mem_of_getElem? (i := 14) rfl))) rfl (hb hby d2_25) k)
    refine Ends.step (u' := (T.setTop (mkF m 28 #[.val (.int x0)] [(.int (x0 * (-1513385405 : Int32)))]))) ?_ (fun _ k => XS.imul X.here hx rfl (hb hby d2_27) rfl k)
    refine Ends.step (u' := (T.setTop (mkF m 29 #[.val (.int (x0 * (-1513385405 : Int32)))] []))) ?_ (fun _ k => XS.istoreN X.here hx rfl (hb hby d2_28) rfl (l' := #[.val (.int (x0 * (-1513385405 : Int32)))]) rfl k)
    exact b29 T _ X eT N (x0 * (-1513385405 : Int32))
  have b12 : ∀ (T : State) (L : List Loc) (X : Stand p l e ({ frames := 0, cells := 0, slots := 0, locals := 0 } : Room) s m #[(.int p0)] below meth c T L 0 0) (eT : T.heap = h0) (N : Fr n0 L) (x0 : Int32), Ends p e below s 0 0 (Q2 Z  h0 n0 (F2_12 x0)) (T.setTop (mkF m 12 #[.val (.int x0)] [])) := by
    intro T L X eT N x0
    refine Ends.step (u' := (T.setTop (mkF m 13 #[.val (.int x0)] [(.int x0)]))) ?_ (fun _ k => XS.iloadN X.here hx rfl (hb hby d2_12) rfl k)
    refine Ends.step (u' := (T.setTop (mkF m 14 #[.val (.int x0)] [(.int x0), (.int x0)]))) ?_ (fun _ k => XS.iloadN X.here hx rfl (hb hby d2_13) rfl k)
    refine Ends.step (u' := (T.setTop (mkF m 16 #[.val (.int x0)] [(.int (13 : Int32)), (.int x0), (.int x0)]))) ?_ (fun _ k => XT.bipushV X.here hx rfl (13 : Int32) (hb hby d2_14) rfl k)
    refine Ends.step (u' := (T.setTop (mkF m 17 #[.val (.int x0)] [(.int (XT.ushr x0 (13 : Int32))), (.int x0)]))) ?_ (fun _ k => XT.iushr X.here hx rfl (hb hby d2_16) rfl k)
    refine Ends.step (u' := (T.setTop (mkF m 18 #[.val (.int x0)] [(.int x0), (.int (XT.ushr x0 (13 : Int32))), (.int x0)]))) ?_ (fun _ k => XS.iloadN X.here hx rfl (hb hby d2_17) rfl k)
    refine Ends.step (u' := (T.setTop (mkF m 20 #[.val (.int x0)] [(.int (26 : Int32)), (.int x0), (.int (XT.ushr x0 (13 : Int32))), (.int x0)]))) ?_ (fun _ k => XT.bipushV X.here hx rfl (26 : Int32) (hb hby d2_18) rfl k)
    refine Ends.step (u' := (T.setTop (mkF m 21 #[.val (.int x0)] [(.int (XT.ushr x0 (26 : Int32))), (.int (XT.ushr x0 (13 : Int32))), (.int x0)]))) ?_ (fun _ k => XT.iushr X.here hx rfl (hb hby d2_20) rfl k)
    refine Ends.step (u' := (T.setTop (mkF m 22 #[.val (.int x0)] [(.int ((XT.ushr x0 (13 : Int32)) ^^^ (XT.ushr x0 (26 : Int32)))), (.int x0)]))) ?_ (fun _ k => XT.ixor X.here hx rfl (hb hby d2_21) rfl k)
    refine Ends.step (u' := (T.setTop (mkF m 23 #[.val (.int x0)] [(.int (x0 ^^^ ((XT.ushr x0 (13 : Int32)) ^^^ (XT.ushr x0 (26 : Int32)))))]))) ?_ (fun _ k => XT.ixor X.here hx rfl (hb hby d2_22) rfl k)
    refine Ends.step (u' := (T.setTop (mkF m 24 #[.val (.int (x0 ^^^ ((XT.ushr x0 (13 : Int32)) ^^^ (XT.ushr x0 (26 : Int32)))))] []))) ?_ (fun _ k => XS.istoreN X.here hx rfl (hb hby d2_23) rfl (l' := #[.val (.int (x0 ^^^ ((XT.ushr x0 (13 : Int32)) ^^^ (XT.ushr x0 (26 : Int32)))))]) rfl k)
    exact b24 T _ X eT N (x0 ^^^ ((XT.ushr x0 (13 : Int32)) ^^^ (XT.ushr x0 (26 : Int32))))
  have b7 : ∀ (T : State) (L : List Loc) (X : Stand p l e ({ frames := 0, cells := 0, slots := 0, locals := 0 } : Room) s m #[(.int p0)] below meth c T L 0 0) (eT : T.heap = h0) (N : Fr n0 L) (x0 : Int32), Ends p e below s 0 0 (Q2 Z  h0 n0 (F2_7 x0)) (T.setTop (mkF m 7 #[.val (.int x0)] [])) := by
    intro T L X eT N x0
    refine Ends.step (u' := (T.setTop (mkF m 8 #[.val (.int x0)] [(.int x0)]))) ?_ (fun _ k => XS.iloadN X.here hx rfl (hb hby d2_7) rfl k)
    refine Ends.step (u' := (T.setTop (mkF m 10 #[.val (.int x0)] [(.int (2127672349 : Int32)), (.int x0)]))) ?_ (fun _ k => X.ldcI hx hown (mvT hZ (hw _ (List.mem_of_getElem? (i := 13) rfl))) rfl (hb hby d2_8) k)
    refine Ends.step (u' := (T.setTop (mkF m 11 #[.val (.int x0)] [(.int (x0 * (2127672349 : Int32)))]))) ?_ (fun _ k => XS.imul X.here hx rfl (hb hby d2_10) rfl k)
    refine Ends.step (u' := (T.setTop (mkF m 12 #[.val (.int (x0 * (2127672349 : Int32)))] []))) ?_ (fun _ k => XS.istoreN X.here hx rfl (hb hby d2_11) rfl (l' := #[.val (.int (x0 * (2127672349 : Int32)))]) rfl k)
    exact b12 T _ X eT N (x0 * (2127672349 : Int32))
  refine Ends.step (u' := (s₁.setTop (mkF m 0 #[.val (.int p0)] []))) ?_ (fun _ k => castTop (ef_2 m p0) k)
  refine Ends.step (u' := (s₁.setTop (mkF m 1 #[.val (.int p0)] [(.int p0)]))) ?_ (fun _ k => XS.iloadN X0.here hx rfl (hb hby d2_0) rfl k)
  refine Ends.step (u' := (s₁.setTop (mkF m 2 #[.val (.int p0)] [(.int p0), (.int p0)]))) ?_ (fun _ k => XS.iloadN X0.here hx rfl (hb hby d2_1) rfl k)
  refine Ends.step (u' := (s₁.setTop (mkF m 4 #[.val (.int p0)] [(.int (16 : Int32)), (.int p0), (.int p0)]))) ?_ (fun _ k => XT.bipushV X0.here hx rfl (16 : Int32) (hb hby d2_2) rfl k)
  refine Ends.step (u' := (s₁.setTop (mkF m 5 #[.val (.int p0)] [(.int (XT.ushr p0 (16 : Int32))), (.int p0)]))) ?_ (fun _ k => XT.iushr X0.here hx rfl (hb hby d2_4) rfl k)
  refine Ends.step (u' := (s₁.setTop (mkF m 6 #[.val (.int p0)] [(.int (p0 ^^^ (XT.ushr p0 (16 : Int32))))]))) ?_ (fun _ k => XT.ixor X0.here hx rfl (hb hby d2_5) rfl k)
  refine Ends.step (u' := (s₁.setTop (mkF m 7 #[.val (.int (p0 ^^^ (XT.ushr p0 (16 : Int32))))] []))) ?_ (fun _ k => XS.istoreN X0.here hx rfl (hb hby d2_6) rfl (l' := #[.val (.int (p0 ^^^ (XT.ushr p0 (16 : Int32))))]) rfl k)
  exact b7 s₁ _ X0 e0 N0 (p0 ^^^ (XT.ushr p0 (16 : Int32)))
theorem d3_0 : decode method_3_code 0 = .ok (.iload_n 1, 1) := by decide +kernel
theorem d3_1 : decode method_3_code 1 = .ok (.invokestatic 9, 3) := by decide +kernel
theorem d3_4 : decode method_3_code 4 = .ok (.iload_n 0, 1) := by decide +kernel
theorem d3_5 : decode method_3_code 5 = .ok (.invokestatic 9, 3) := by decide +kernel
theorem d3_8 : decode method_3_code 8 = .ok (.iload_n 2, 1) := by decide +kernel
theorem d3_9 : decode method_3_code 9 = .ok (.sipush 255, 3) := by decide +kernel
theorem d3_12 : decode method_3_code 12 = .ok (.iand, 1) := by decide +kernel
theorem d3_13 : decode method_3_code 13 = .ok (.ixor, 1) := by decide +kernel
theorem d3_14 : decode method_3_code 14 = .ok (.ldc 15, 2) := by decide +kernel
theorem d3_16 : decode method_3_code 16 = .ok (.imul, 1) := by decide +kernel
theorem d3_17 : decode method_3_code 17 = .ok (.if_icmp .ne 7, 3) := by decide +kernel
theorem d3_20 : decode method_3_code 20 = .ok (.iconst 1, 1) := by decide +kernel
theorem d3_21 : decode method_3_code 21 = .ok (.goto 4, 3) := by decide +kernel
theorem d3_24 : decode method_3_code 24 = .ok (.iconst 0, 1) := by decide +kernel
theorem d3_25 : decode method_3_code 25 = .ok (.ireturn, 1) := by decide +kernel
theorem pn_3 : plainFor (⟨"com/example/taxigraph/taxigraph/TermsHashPinLaw", "step", "(IIB)Z"⟩ : MethodName) = true := by first | exact plainFor_of_name (by first | (simp [plainName, overriddenIn]; done) | decide +kernel) | decide +kernel
theorem ef_3 (m : MethodId) (y0 : Int32) (y1 : Int32) (y2 : Int32) : entryFrame m #[(.int y0), (.int y1), (.int y2)] 3 = mkF m 0 #[.val (.int y0), .val (.int y1), .val (.int y2)] [] := by first | (simp [entryFrame, mkF, argsToLocals, Value.category]; done) | rfl
def Q3 (Z : State)   (h0 : Heap) (n0 : Nat) (ans : Int32) (v : Option Value) (h : Heap) (L : List Loc) : Prop := v = some (.int ans) ∧ Fr n0 L ∧ h = h0
set_option maxRecDepth 65536 in
set_option maxHeartbeats 40000000 in
theorem rm3 (l : Launch) (Z : State) (a0 : Array Value) (hw : ∀ d ∈ tables_1, d.before a0 Z = true) (p0 : Int32) (p1 : Int32) (p2 : Int32)  (h0 : Heap) (n0 : Nat) (Z0 : n0 ≤ h0.size)  :
    Meets l Z (⟨"com/example/taxigraph/taxigraph/TermsHashPinLaw", "step", "(IIB)Z"⟩ : MethodName) method_3_code 3 (some .boolean) [] ({ frames := 1, cells := 0, slots := 0, locals := 13 } : Room) #[(.int p0), (.int p1), (.int p2)] h0 (Q3 Z  h0 n0 (F3 p0 p1 p2)) 0 0 := by
  refine Meets.of pn_3 ?_
  intro p e s m below meth c s₁ hx hby hml hZ hown hnm hret hlk X0 e0
  have hml : c.maxLocals = 3 := hml
  have hown : s.vm.findClass "com/example/taxigraph/taxigraph/TermsHashPinLaw" = some m.cls := hown
  have N0 := Fr.nil n0
  have b25 : ∀ (T : State) (L : List Loc) (X : Stand p l e ({ frames := 1, cells := 0, slots := 0, locals := 13 } : Room) s m #[(.int p0), (.int p1), (.int p2)] below meth c T L 0 0) (eT : T.heap = h0) (N : Fr n0 L) (t0 : Int32) (d0 : Slot) (od0 : OneS d0) (d1 : Slot) (od1 : OneS d1) (d2 : Slot) (od2 : OneS d2), Ends p e below s 0 0 (Q3 Z  h0 n0 (F3_25 t0)) (T.setTop (mkF m 25 #[d0, d1, d2] [(.int t0)])) := by
    intro T L X eT N t0 d0 od0 d1 od1 d2 od2
    exact Ends.ret X (v := some (.int (nar .boolean t0))) (fun q => by rw [hret] at q; cases q) hlk (fun fs hr => retN X hx (t := .boolean) hret (by simp) (hb hby d3_25) hr) (by decide) (by decide) ⟨rfl, N, eT⟩
  have b20 : ∀ (T : State) (L : List Loc) (X : Stand p l e ({ frames := 1, cells := 0, slots := 0, locals := 13 } : Room) s m #[(.int p0), (.int p1), (.int p2)] below meth c T L 0 0) (eT : T.heap = h0) (N : Fr n0 L) (d0 : Slot) (od0 : OneS d0) (d1 : Slot) (od1 : OneS d1) (d2 : Slot) (od2 : OneS d2), Ends p e below s 0 0 (Q3 Z  h0 n0 F3_20) (T.setTop (mkF m 20 #[d0, d1, d2] [])) := by
    intro T L X eT N d0 od0 d1 od1 d2 od2
    refine Ends.step (u' := (T.setTop (mkF m 21 #[d0, d1, d2] [(.int (1 : Int32))]))) ?_ (fun _ k => XT.iconstV X.here hx rfl (1 : Int32) (hb hby d3_20) rfl k)
    refine Ends.step (u' := (T.setTop (mkF m 25 #[d0, d1, d2] [(.int (1 : Int32))]))) ?_ (fun _ k => XS.goto X.here hx rfl (pc0 := 21) (pc' := 25) rfl (hb hby d3_21) (by decide) (by decide) k)
    exact b25 T _ X eT N (1 : Int32) (d0) od0 (d1) od1 (d2) od2
  have b24 : ∀ (T : State) (L : List Loc) (X : Stand p l e ({ frames := 1, cells := 0, slots := 0, locals := 13 } : Room) s m #[(.int p0), (.int p1), (.int p2)] below meth c T L 0 0) (eT : T.heap = h0) (N : Fr n0 L) (d0 : Slot) (od0 : OneS d0) (d1 : Slot) (od1 : OneS d1) (d2 : Slot) (od2 : OneS d2), Ends p e below s 0 0 (Q3 Z  h0 n0 F3_24) (T.setTop (mkF m 24 #[d0, d1, d2] [])) := by
    intro T L X eT N d0 od0 d1 od1 d2 od2
    refine Ends.step (u' := (T.setTop (mkF m 25 #[d0, d1, d2] [(.int (0 : Int32))]))) ?_ (fun _ k => XT.iconstV X.here hx rfl (0 : Int32) (hb hby d3_24) rfl k)
    exact b25 T _ X eT N (0 : Int32) (d0) od0 (d1) od1 (d2) od2
  refine Ends.step (u' := (s₁.setTop (mkF m 0 #[.val (.int p0), .val (.int p1), .val (.int p2)] []))) ?_ (fun _ k => castTop (ef_3 m p0 p1 p2) k)
  refine Ends.step (u' := (s₁.setTop (mkF m 1 #[.val (.int p0), .val (.int p1), .val (.int p2)] [(.int p1)]))) ?_ (fun _ k => XS.iloadN X0.here hx rfl (hb hby d3_0) rfl k)
  refine Ends.callS X0 hx hZ hown (hw _ (List.mem_of_getElem? (i := 9) rfl)) (hw _ (List.mem_of_getElem? (i := 10) rfl)) (hw _ (List.mem_of_getElem? (i := 11) rfl)) (hw _ (List.mem_of_getElem? (i := 12) rfl)) (by decide) (rm2 l Z a0 hw p1 h0 n0 Z0) 0 (by decide) (by decide) e0  (g := (mkF m 1 #[.val (.int p0), .val (.int p1), .val (.int p2)] [(.int p1)])) rfl (by rw [hml]; rfl)  [(.int p1)] [] (lenOf pd_0 rfl) rfl (by show 2 * 0 + _ ≤ _; exact Nat.le_of_eq rfl) (hb hby d3_1) rfl (by decide) (by decide) (fun v1 T1 L1 X1 hQ1 => ?_)
  obtain ⟨rfl, Nq1, e1⟩ := hQ1
  have N1 := Fr.app N0 Nq1
  show Ends p e below s _ _ _ (T1.setTop (mkF m 4 #[.val (.int p0), .val (.int p1), .val (.int p2)] [(.int (F2 p1))]))
  refine Ends.step (u' := (T1.setTop (mkF m 5 #[.val (.int p0), .val (.int p1), .val (.int p2)] [(.int p0), (.int (F2 p1))]))) ?_ (fun _ k => XS.iloadN X1.here hx rfl (hb hby d3_4) rfl k)
  refine Ends.callS X1 hx hZ hown (hw _ (List.mem_of_getElem? (i := 9) rfl)) (hw _ (List.mem_of_getElem? (i := 10) rfl)) (hw _ (List.mem_of_getElem? (i := 11) rfl)) (hw _ (List.mem_of_getElem? (i := 12) rfl)) (by decide) (rm2 l Z a0 hw p0 h0 n0 Z0) 1 (by decide) (by decide) e1  (g := (mkF m 5 #[.val (.int p0), .val (.int p1), .val (.int p2)] [(.int p0), (.int (F2 p1))])) rfl (by rw [hml]; rfl)  [(.int p0)] [(.int (F2 p1))] (lenOf pd_0 rfl) rfl (by show 2 * 0 + _ ≤ _; exact Nat.le_of_eq rfl) (hb hby d3_5) rfl (by decide) (by decide) (fun v2 T2 L2 X2 hQ2 => ?_)
  obtain ⟨rfl, Nq2, e2⟩ := hQ2
  have N2 := Fr.app N1 Nq2
  show Ends p e below s _ _ _ (T2.setTop (mkF m 8 #[.val (.int p0), .val (.int p1), .val (.int p2)] [(.int (F2 p0)), (.int (F2 p1))]))
  refine Ends.step (u' := (T2.setTop (mkF m 9 #[.val (.int p0), .val (.int p1), .val (.int p2)] [(.int p2), (.int (F2 p0)), (.int (F2 p1))]))) ?_ (fun _ k => XS.iloadN X2.here hx rfl (hb hby d3_8) rfl k)
  refine Ends.step (u' := (T2.setTop (mkF m 12 #[.val (.int p0), .val (.int p1), .val (.int p2)] [(.int (255 : Int32)), (.int p2), (.int (F2 p0)), (.int (F2 p1))]))) ?_ (fun _ k => XT.sipushV X2.here hx rfl (255 : Int32) (hb hby d3_9) rfl k)
  refine Ends.step (u' := (T2.setTop (mkF m 13 #[.val (.int p0), .val (.int p1), .val (.int p2)] [(.int (p2 &&& (255 : Int32))), (.int (F2 p0)), (.int (F2 p1))]))) ?_ (fun _ k => XS.iand X2.here hx rfl (hb hby d3_12) rfl k)
  refine Ends.step (u' := (T2.setTop (mkF m 14 #[.val (.int p0), .val (.int p1), .val (.int p2)] [(.int ((F2 p0) ^^^ (p2 &&& (255 : Int32)))), (.int (F2 p1))]))) ?_ (fun _ k => XT.ixor X2.here hx rfl (hb hby d3_13) rfl k)
  refine Ends.step (u' := (T2.setTop (mkF m 16 #[.val (.int p0), .val (.int p1), .val (.int p2)] [(.int (16777619 : Int32)), (.int ((F2 p0) ^^^ (p2 &&& (255 : Int32)))), (.int (F2 p1))]))) ?_ (fun _ k => X2.ldcI hx hown (mvT hZ (hw _ (List.mem_of_getElem? (i := 19) rfl))) rfl (hb hby d3_14) k)
  refine Ends.step (u' := (T2.setTop (mkF m 17 #[.val (.int p0), .val (.int p1), .val (.int p2)] [(.int (((F2 p0) ^^^ (p2 &&& (255 : Int32))) * (16777619 : Int32))), (.int (F2 p1))]))) ?_ (fun _ k => XS.imul X2.here hx rfl (hb hby d3_16) rfl k)
  by_cases hc17 : (F2 p1) = (((F2 p0) ^^^ (p2 &&& (255 : Int32))) * (16777619 : Int32))
  · refine Eq.mp (congrArg (fun z => Ends p e below s 0 0 (Q3 Z  h0 n0 z) (T2.setTop (mkF m 17 #[.val (.int p0), .val (.int p1), .val (.int p2)] [(.int (((F2 p0) ^^^ (p2 &&& (255 : Int32))) * (16777619 : Int32))), (.int (F2 p1))]))) (show (F3 p0 p1 p2) = F3_20 from (if_pos hc17)).symm) ?_
    refine Ends.step (u' := (T2.setTop (mkF m 20 #[.val (.int p0), .val (.int p1), .val (.int p2)] []))) ?_ (fun _ k => XS.icmpNo X2.here hx rfl (hb hby d3_17) rfl (XT.ii_ne_f hc17) k)
    exact b20 T2 _ X2 e2 N2 (.val (.int p0)) (Or.inr ⟨_, rfl, rfl⟩) (.val (.int p1)) (Or.inr ⟨_, rfl, rfl⟩) (.val (.int p2)) (Or.inr ⟨_, rfl, rfl⟩)
  · refine Eq.mp (congrArg (fun z => Ends p e below s 0 0 (Q3 Z  h0 n0 z) (T2.setTop (mkF m 17 #[.val (.int p0), .val (.int p1), .val (.int p2)] [(.int (((F2 p0) ^^^ (p2 &&& (255 : Int32))) * (16777619 : Int32))), (.int (F2 p1))]))) (show (F3 p0 p1 p2) = F3_24 from (if_neg hc17)).symm) ?_
    refine Ends.step (u' := (T2.setTop (mkF m 24 #[.val (.int p0), .val (.int p1), .val (.int p2)] []))) ?_ (fun _ k => XS.icmpYes X2.here hx rfl (pc0 := 17) (pc' := 24) rfl (hb hby d3_17) rfl (XT.ii_ne_t hc17) (by decide) (by decide) k)
    exact b24 T2 _ X2 e2 N2 (.val (.int p0)) (Or.inr ⟨_, rfl, rfl⟩) (.val (.int p1)) (Or.inr ⟨_, rfl, rfl⟩) (.val (.int p2)) (Or.inr ⟨_, rfl, rfl⟩)
theorem pn_0 : plainFor x = true := by first | exact plainFor_of_name (by first | (simp [plainName, overriddenIn]; done) | decide +kernel) | decide +kernel
theorem ef_0 (m : MethodId) (y0 : Int32) (y1 : Int32) (y2 : Int32) (y3 : Int32) (y4 : Int32) (y5 : Int32) : entryFrame m #[(.int y0), (.int y1), (.int y2), (.int y3), (.int y4), (.int y5)] maxLocals = mkF m 0 #[.val (.int y0), .val (.int y1), .val (.int y2), .val (.int y3), .val (.int y4), .val (.int y5), .unset, .unset, .unset, .unset, .unset, .unset, .unset, .unset] [] := by first | (simp [entryFrame, mkF, argsToLocals, Value.category, maxLocals]; done) | rfl
def Q0 (Z : State)   (h0 : Heap) (n0 : Nat) (ans : Int32) (v : Option Value) (h : Heap) (L : List Loc) : Prop := v = some (.int ans) ∧ Fr n0 L
set_option maxRecDepth 65536 in
set_option maxHeartbeats 40000000 in
theorem rm0 (l : Launch) (Z : State) (a0 : Array Value) (hw : ∀ d ∈ tables_1, d.before a0 Z = true) (K : Nat) (p0 : Int32) (p1 : Int32) (p2 : Int32) (p3 : Int32) (p4 : Int32) (p5 : Int32)  (h0 : Heap) (n0 : Nat) (Z0 : n0 ≤ h0.size)  (ok : O0 K p0 p1 p2 p3 p4 p5) :
    Meets l Z x code maxLocals ret tables_1 room_1 #[(.int p0), (.int p1), (.int p2), (.int p3), (.int p4), (.int p5)] h0 (Q0 Z  h0 n0 (F0 K p0 p1 p2 p3 p4 p5)) 1 6 := by
  refine Meets.of pn_0 ?_
  intro p e s m below meth c s₁ hx hby hml hZ hown hnm hret hlk X0 e0
  have hml : c.maxLocals = 14 := hml
  have hown : s.vm.findClass "com/example/taxigraph/taxigraph/TermsHashPinLaw" = some m.cls := hown
  have N0 := Fr.nil n0
  have b194 : ∀ (T : State) (L : List Loc) (h : Heap) (X : Stand p l e room_1 s m #[(.int p0), (.int p1), (.int p2), (.int p3), (.int p4), (.int p5)] below meth c T L 1 6) (eT : T.heap = h) (N : Fr n0 L) (Zs : n0 ≤ h.size) (t0 : Int32) (d0 : Slot) (od0 : OneS d0) (d1 : Slot) (od1 : OneS d1) (d2 : Slot) (od2 : OneS d2) (d3 : Slot) (od3 : OneS d3) (d4 : Slot) (od4 : OneS d4) (d5 : Slot) (od5 : OneS d5) (d6 : Slot) (od6 : OneS d6) (d7 : Slot) (od7 : OneS d7) (d8 : Slot) (od8 : OneS d8) (d9 : Slot) (od9 : OneS d9) (d10 : Slot) (od10 : OneS d10) (d11 : Slot) (od11 : OneS d11) (d12 : Slot) (od12 : OneS d12) (d13 : Slot) (od13 : OneS d13), Ends p e below s 1 6 (Q0 Z  h0 n0 (F0_194 K t0)) (T.setTop (mkF m 194 #[d0, d1, d2, d3, d4, d5, d6, d7, d8, d9, d10, d11, d12, d13] [(.int t0)])) := by
    intro T L h X eT N Zs t0 d0 od0 d1 od1 d2 od2 d3 od3 d4 od4 d5 od5 d6 od6 d7 od7 d8 od8 d9 od9 d10 od10 d11 od11 d12 od12 d13 od13
    exact Ends.ret X (v := some (.int (nar .boolean t0))) (fun q => by rw [hret] at q; cases q) hlk (fun fs hr => retN X hx (t := .boolean) hret (by simp) (hb hby at_194) hr) (by decide) (by decide) ⟨rfl, N⟩
  have b189 : ∀ (T : State) (L : List Loc) (h : Heap) (X : Stand p l e room_1 s m #[(.int p0), (.int p1), (.int p2), (.int p3), (.int p4), (.int p5)] below meth c T L 1 6) (eT : T.heap = h) (N : Fr n0 L) (Zs : n0 ≤ h.size) (d0 : Slot) (od0 : OneS d0) (d1 : Slot) (od1 : OneS d1) (d2 : Slot) (od2 : OneS d2) (d3 : Slot) (od3 : OneS d3) (d4 : Slot) (od4 : OneS d4) (d5 : Slot) (od5 : OneS d5) (d6 : Slot) (od6 : OneS d6) (d7 : Slot) (od7 : OneS d7) (d8 : Slot) (od8 : OneS d8) (d9 : Slot) (od9 : OneS d9) (d10 : Slot) (od10 : OneS d10) (d11 : Slot) (od11 : OneS d11) (d12 : Slot) (od12 : OneS d12) (d13 : Slot) (od13 : OneS d13), Ends p e below s 1 6 (Q0 Z  h0 n0 (F0_189 K)) (T.setTop (mkF m 189 #[d0, d1, d2, d3, d4, d5, d6, d7, d8, d9, d10, d11, d12, d13] [])) := by
    intro T L h X eT N Zs d0 od0 d1 od1 d2 od2 d3 od3 d4 od4 d5 od5 d6 od6 d7 od7 d8 od8 d9 od9 d10 od10 d11 od11 d12 od12 d13 od13
    refine Ends.step (u' := (T.setTop (mkF m 190 #[d0, d1, d2, d3, d4, d5, d6, d7, d8, d9, d10, d11, d12, d13] [(.int (1 : Int32))]))) ?_ (fun _ k => XT.iconstV X.here hx rfl (1 : Int32) (hb hby at_189) rfl k)
    refine Ends.step (u' := (T.setTop (mkF m 194 #[d0, d1, d2, d3, d4, d5, d6, d7, d8, d9, d10, d11, d12, d13] [(.int (1 : Int32))]))) ?_ (fun _ k => XS.goto X.here hx rfl (pc0 := 190) (pc' := 194) rfl (hb hby at_190) (by decide) (by decide) k)
    exact b194 T _ _ X eT N Zs (1 : Int32) (d0) od0 (d1) od1 (d2) od2 (d3) od3 (d4) od4 (d5) od5 (d6) od6 (d7) od7 (d8) od8 (d9) od9 (d10) od10 (d11) od11 (d12) od12 (d13) od13
  have b193 : ∀ (T : State) (L : List Loc) (h : Heap) (X : Stand p l e room_1 s m #[(.int p0), (.int p1), (.int p2), (.int p3), (.int p4), (.int p5)] below meth c T L 1 6) (eT : T.heap = h) (N : Fr n0 L) (Zs : n0 ≤ h.size) (d0 : Slot) (od0 : OneS d0) (d1 : Slot) (od1 : OneS d1) (d2 : Slot) (od2 : OneS d2) (d3 : Slot) (od3 : OneS d3) (d4 : Slot) (od4 : OneS d4) (d5 : Slot) (od5 : OneS d5) (d6 : Slot) (od6 : OneS d6) (d7 : Slot) (od7 : OneS d7) (d8 : Slot) (od8 : OneS d8) (d9 : Slot) (od9 : OneS d9) (d10 : Slot) (od10 : OneS d10) (d11 : Slot) (od11 : OneS d11) (d12 : Slot) (od12 : OneS d12) (d13 : Slot) (od13 : OneS d13), Ends p e below s 1 6 (Q0 Z  h0 n0 (F0_193 K)) (T.setTop (mkF m 193 #[d0, d1, d2, d3, d4, d5, d6, d7, d8, d9, d10, d11, d12, d13] [])) := by
    intro T L h X eT N Zs d0 od0 d1 od1 d2 od2 d3 od3 d4 od4 d5 od5 d6 od6 d7 od7 d8 od8 d9 od9 d10 od10 d11 od11 d12 od12 d13 od13
    refine Ends.step (u' := (T.setTop (mkF m 194 #[d0, d1, d2, d3, d4, d5, d6, d7, d8, d9, d10, d11, d12, d13] [(.int (0 : Int32))]))) ?_ (fun _ k => XT.iconstV X.here hx rfl (0 : Int32) (hb hby at_193) rfl k)
    exact b194 T _ _ X eT N Zs (0 : Int32) (d0) od0 (d1) od1 (d2) od2 (d3) od3 (d4) od4 (d5) od5 (d6) od6 (d7) od7 (d8) od8 (d9) od9 (d10) od10 (d11) od11 (d12) od12 (d13) od13
  have b175 : ∀ (T : State) (L : List Loc) (h : Heap) (X : Stand p l e room_1 s m #[(.int p0), (.int p1), (.int p2), (.int p3), (.int p4), (.int p5)] below meth c T L 1 6) (eT : T.heap = h) (N : Fr n0 L) (Zs : n0 ≤ h.size) (cf_q2 : Nat → Int32) (x12 : Int32) (x13 : Int32) (d0 : Slot) (od0 : OneS d0) (d1 : Slot) (od1 : OneS d1) (d2 : Slot) (od2 : OneS d2) (d3 : Slot) (od3 : OneS d3) (d4 : Slot) (od4 : OneS d4) (d5 : Slot) (od5 : OneS d5) (d7 : Slot) (od7 : OneS d7) (d8 : Slot) (od8 : OneS d8) (d9 : Slot) (od9 : OneS d9) (d10 : Slot) (od10 : OneS d10) (d11 : Slot) (od11 : OneS d11) (a_q2 : Addr) (g_q2 : n0 ≤ a_q2) (A_q2 : Ar Z h a_q2 .byte 6 cf_q2), Ends p e below s 1 6 (Q0 Z  h0 n0 (F0_175 K cf_q2 x12 x13)) (T.setTop (mkF m 175 #[d0, d1, d2, d3, d4, d5, .val (.ref a_q2), d7, d8, d9, d10, d11, .val (.int x12), .val (.int x13)] [])) := by
    intro T L h X eT N Zs cf_q2 x12 x13 d0 od0 d1 od1 d2 od2 d3 od3 d4 od4 d5 od5 d7 od7 d8 od8 d9 od9 d10 od10 d11 od11 a_q2 g_q2 A_q2
    refine Ends.step (u' := (T.setTop (mkF m 177 #[d0, d1, d2, d3, d4, d5, .val (.ref a_q2), d7, d8, d9, d10, d11, .val (.int x12), .val (.int x13)] [(.int x12)]))) ?_ (fun _ k => XS.iload X.here hx rfl (hb hby at_175) rfl k)
    refine Ends.step (u' := (T.setTop (mkF m 179 #[d0, d1, d2, d3, d4, d5, .val (.ref a_q2), d7, d8, d9, d10, d11, .val (.int x12), .val (.int x13)] [(.int x13), (.int x12)]))) ?_ (fun _ k => XS.iload X.here hx rfl (hb hby at_177) rfl k)
    refine Ends.step (u' := (T.setTop (mkF m 181 #[d0, d1, d2, d3, d4, d5, .val (.ref a_q2), d7, d8, d9, d10, d11, .val (.int x12), .val (.int x13)] [(.ref a_q2), (.int x13), (.int x12)]))) ?_ (fun _ k => XS.aload X.here hx rfl (hb hby at_179) rfl rfl k)
    refine Ends.step (u' := (T.setTop (mkF m 182 #[d0, d1, d2, d3, d4, d5, .val (.ref a_q2), d7, d8, d9, d10, d11, .val (.int x12), .val (.int x13)] [(.int (5 : Int32)), (.ref a_q2), (.int x13), (.int x12)]))) ?_ (fun _ k => XT.iconstV X.here hx rfl (5 : Int32) (hb hby at_181) rfl k)
    refine Ends.baload X hx hZ eT A_q2 (by unfold inb; decide) (g := (mkF m 182 #[d0, d1, d2, d3, d4, d5, .val (.ref a_q2), d7, d8, d9, d10, d11, .val (.int x12), .val (.int x13)] [(.int (5 : Int32)), (.ref a_q2), (.int x13), (.int x12)])) rfl rfl (hb hby at_182) ?_
    show Ends p e below s _ _ _ (T.setTop (mkF m 183 #[d0, d1, d2, d3, d4, d5, .val (.ref a_q2), d7, d8, d9, d10, d11, .val (.int x12), .val (.int x13)] [(.int (cf_q2 ((5 : Int32)).toNatClampNeg)), (.int x13), (.int x12)]))
    refine Ends.callS X hx hZ hown (hw _ (List.mem_of_getElem? (i := 16) rfl)) (hw _ (List.mem_of_getElem? (i := 17) rfl)) (hw _ (List.mem_of_getElem? (i := 11) rfl)) (hw _ (List.mem_of_getElem? (i := 18) rfl)) (by decide) (rm3 l Z a0 hw x12 x13 (cf_q2 ((5 : Int32)).toNatClampNeg) h n0 Zs) 0 (by decide) (by decide) eT  (g := (mkF m 183 #[d0, d1, d2, d3, d4, d5, .val (.ref a_q2), d7, d8, d9, d10, d11, .val (.int x12), .val (.int x13)] [(.int (cf_q2 ((5 : Int32)).toNatClampNeg)), (.int x13), (.int x12)])) rfl (by rw [hml]; rfl)  [(.int x12), (.int x13), (.int (cf_q2 ((5 : Int32)).toNatClampNeg))] [] (lenOf pd_2 rfl) rfl (by show 2 * 0 + _ ≤ _; exact Nat.le_of_eq rfl) (hb hby at_183) rfl (by decide) (by decide) (fun v1 T1 L1 X1 hQ1 => ?_)
    obtain ⟨rfl, Nq1, e1⟩ := hQ1
    have N1 := Fr.app N Nq1
    show Ends p e below s _ _ _ (T1.setTop (mkF m 186 #[d0, d1, d2, d3, d4, d5, .val (.ref a_q2), d7, d8, d9, d10, d11, .val (.int x12), .val (.int x13)] [(.int (F3 x12 x13 (cf_q2 ((5 : Int32)).toNatClampNeg)))]))
    by_cases hc186 : (F3 x12 x13 (cf_q2 ((5 : Int32)).toNatClampNeg)) = 0
    · refine Eq.mp (congrArg (fun z => Ends p e below s 1 6 (Q0 Z  h0 n0 z) (T1.setTop (mkF m 186 #[d0, d1, d2, d3, d4, d5, .val (.ref a_q2), d7, d8, d9, d10, d11, .val (.int x12), .val (.int x13)] [(.int (F3 x12 x13 (cf_q2 ((5 : Int32)).toNatClampNeg)))]))) (show (F0_175 K cf_q2 x12 x13) = (F0_193 K) from (if_pos hc186)).symm) ?_
      refine Ends.step (u' := (T1.setTop (mkF m 193 #[d0, d1, d2, d3, d4, d5, .val (.ref a_q2), d7, d8, d9, d10, d11, .val (.int x12), .val (.int x13)] []))) ?_ (fun _ k => XS.ifYes X1.here hx rfl (pc0 := 186) (pc' := 193) rfl (hb hby at_186) rfl (XT.i0_eq_t hc186) (by decide) (by decide) k)
      exact b193 T1 _ _ X1 e1 N1 Zs (d0) od0 (d1) od1 (d2) od2 (d3) od3 (d4) od4 (d5) od5 (.val (.ref a_q2)) (Or.inr ⟨_, rfl, rfl⟩) (d7) od7 (d8) od8 (d9) od9 (d10) od10 (d11) od11 (.val (.int x12)) (Or.inr ⟨_, rfl, rfl⟩) (.val (.int x13)) (Or.inr ⟨_, rfl, rfl⟩)
    · refine Eq.mp (congrArg (fun z => Ends p e below s 1 6 (Q0 Z  h0 n0 z) (T1.setTop (mkF m 186 #[d0, d1, d2, d3, d4, d5, .val (.ref a_q2), d7, d8, d9, d10, d11, .val (.int x12), .val (.int x13)] [(.int (F3 x12 x13 (cf_q2 ((5 : Int32)).toNatClampNeg)))]))) (show (F0_175 K cf_q2 x12 x13) = (F0_189 K) from (if_neg hc186)).symm) ?_
      refine Ends.step (u' := (T1.setTop (mkF m 189 #[d0, d1, d2, d3, d4, d5, .val (.ref a_q2), d7, d8, d9, d10, d11, .val (.int x12), .val (.int x13)] []))) ?_ (fun _ k => XS.ifNo X1.here hx rfl (hb hby at_186) rfl (XT.i0_eq_f hc186) k)
      exact b189 T1 _ _ X1 e1 N1 Zs (d0) od0 (d1) od1 (d2) od2 (d3) od3 (d4) od4 (d5) od5 (.val (.ref a_q2)) (Or.inr ⟨_, rfl, rfl⟩) (d7) od7 (d8) od8 (d9) od9 (d10) od10 (d11) od11 (.val (.int x12)) (Or.inr ⟨_, rfl, rfl⟩) (.val (.int x13)) (Or.inr ⟨_, rfl, rfl⟩)
  have b161 : ∀ (T : State) (L : List Loc) (h : Heap) (X : Stand p l e room_1 s m #[(.int p0), (.int p1), (.int p2), (.int p3), (.int p4), (.int p5)] below meth c T L 1 6) (eT : T.heap = h) (N : Fr n0 L) (Zs : n0 ≤ h.size) (cf_q2 : Nat → Int32) (x11 : Int32) (x12 : Int32) (x13 : Int32) (d0 : Slot) (od0 : OneS d0) (d1 : Slot) (od1 : OneS d1) (d2 : Slot) (od2 : OneS d2) (d3 : Slot) (od3 : OneS d3) (d4 : Slot) (od4 : OneS d4) (d5 : Slot) (od5 : OneS d5) (d7 : Slot) (od7 : OneS d7) (d8 : Slot) (od8 : OneS d8) (d9 : Slot) (od9 : OneS d9) (d10 : Slot) (od10 : OneS d10) (a_q2 : Addr) (g_q2 : n0 ≤ a_q2) (A_q2 : Ar Z h a_q2 .byte 6 cf_q2), Ends p e below s 1 6 (Q0 Z  h0 n0 (F0_161 K cf_q2 x11 x12 x13)) (T.setTop (mkF m 161 #[d0, d1, d2, d3, d4, d5, .val (.ref a_q2), d7, d8, d9, d10, .val (.int x11), .val (.int x12), .val (.int x13)] [])) := by
    intro T L h X eT N Zs cf_q2 x11 x12 x13 d0 od0 d1 od1 d2 od2 d3 od3 d4 od4 d5 od5 d7 od7 d8 od8 d9 od9 d10 od10 a_q2 g_q2 A_q2
    refine Ends.step (u' := (T.setTop (mkF m 163 #[d0, d1, d2, d3, d4, d5, .val (.ref a_q2), d7, d8, d9, d10, .val (.int x11), .val (.int x12), .val (.int x13)] [(.int x11)]))) ?_ (fun _ k => XS.iload X.here hx rfl (hb hby at_161) rfl k)
    refine Ends.step (u' := (T.setTop (mkF m 165 #[d0, d1, d2, d3, d4, d5, .val (.ref a_q2), d7, d8, d9, d10, .val (.int x11), .val (.int x12), .val (.int x13)] [(.int x12), (.int x11)]))) ?_ (fun _ k => XS.iload X.here hx rfl (hb hby at_163) rfl k)
    refine Ends.step (u' := (T.setTop (mkF m 167 #[d0, d1, d2, d3, d4, d5, .val (.ref a_q2), d7, d8, d9, d10, .val (.int x11), .val (.int x12), .val (.int x13)] [(.ref a_q2), (.int x12), (.int x11)]))) ?_ (fun _ k => XS.aload X.here hx rfl (hb hby at_165) rfl rfl k)
    refine Ends.step (u' := (T.setTop (mkF m 168 #[d0, d1, d2, d3, d4, d5, .val (.ref a_q2), d7, d8, d9, d10, .val (.int x11), .val (.int x12), .val (.int x13)] [(.int (4 : Int32)), (.ref a_q2), (.int x12), (.int x11)]))) ?_ (fun _ k => XT.iconstV X.here hx rfl (4 : Int32) (hb hby at_167) rfl k)
    refine Ends.baload X hx hZ eT A_q2 (by unfold inb; decide) (g := (mkF m 168 #[d0, d1, d2, d3, d4, d5, .val (.ref a_q2), d7, d8, d9, d10, .val (.int x11), .val (.int x12), .val (.int x13)] [(.int (4 : Int32)), (.ref a_q2), (.int x12), (.int x11)])) rfl rfl (hb hby at_168) ?_
    show Ends p e below s _ _ _ (T.setTop (mkF m 169 #[d0, d1, d2, d3, d4, d5, .val (.ref a_q2), d7, d8, d9, d10, .val (.int x11), .val (.int x12), .val (.int x13)] [(.int (cf_q2 ((4 : Int32)).toNatClampNeg)), (.int x12), (.int x11)]))
    refine Ends.callS X hx hZ hown (hw _ (List.mem_of_getElem? (i := 16) rfl)) (hw _ (List.mem_of_getElem? (i := 17) rfl)) (hw _ (List.mem_of_getElem? (i := 11) rfl)) (hw _ (List.mem_of_getElem? (i := 18) rfl)) (by decide) (rm3 l Z a0 hw x11 x12 (cf_q2 ((4 : Int32)).toNatClampNeg) h n0 Zs) 0 (by decide) (by decide) eT  (g := (mkF m 169 #[d0, d1, d2, d3, d4, d5, .val (.ref a_q2), d7, d8, d9, d10, .val (.int x11), .val (.int x12), .val (.int x13)] [(.int (cf_q2 ((4 : Int32)).toNatClampNeg)), (.int x12), (.int x11)])) rfl (by rw [hml]; rfl)  [(.int x11), (.int x12), (.int (cf_q2 ((4 : Int32)).toNatClampNeg))] [] (lenOf pd_2 rfl) rfl (by show 2 * 0 + _ ≤ _; exact Nat.le_of_eq rfl) (hb hby at_169) rfl (by decide) (by decide) (fun v2 T2 L2 X2 hQ2 => ?_)
    obtain ⟨rfl, Nq2, e2⟩ := hQ2
    have N2 := Fr.app N Nq2
    show Ends p e below s _ _ _ (T2.setTop (mkF m 172 #[d0, d1, d2, d3, d4, d5, .val (.ref a_q2), d7, d8, d9, d10, .val (.int x11), .val (.int x12), .val (.int x13)] [(.int (F3 x11 x12 (cf_q2 ((4 : Int32)).toNatClampNeg)))]))
    by_cases hc172 : (F3 x11 x12 (cf_q2 ((4 : Int32)).toNatClampNeg)) = 0
    · refine Eq.mp (congrArg (fun z => Ends p e below s 1 6 (Q0 Z  h0 n0 z) (T2.setTop (mkF m 172 #[d0, d1, d2, d3, d4, d5, .val (.ref a_q2), d7, d8, d9, d10, .val (.int x11), .val (.int x12), .val (.int x13)] [(.int (F3 x11 x12 (cf_q2 ((4 : Int32)).toNatClampNeg)))]))) (show (F0_161 K cf_q2 x11 x12 x13) = (F0_193 K) from (if_pos hc172)).symm) ?_
      refine Ends.step (u' := (T2.setTop (mkF m 193 #[d0, d1, d2, d3, d4, d5, .val (.ref a_q2), d7, d8, d9, d10, .val (.int x11), .val (.int x12), .val (.int x13)] []))) ?_ (fun _ k => XS.ifYes X2.here hx rfl (pc0 := 172) (pc' := 193) rfl (hb hby at_172) rfl (XT.i0_eq_t hc172) (by decide) (by decide) k)
      exact b193 T2 _ _ X2 e2 N2 Zs (d0) od0 (d1) od1 (d2) od2 (d3) od3 (d4) od4 (d5) od5 (.val (.ref a_q2)) (Or.inr ⟨_, rfl, rfl⟩) (d7) od7 (d8) od8 (d9) od9 (d10) od10 (.val (.int x11)) (Or.inr ⟨_, rfl, rfl⟩) (.val (.int x12)) (Or.inr ⟨_, rfl, rfl⟩) (.val (.int x13)) (Or.inr ⟨_, rfl, rfl⟩)
    · refine Eq.mp (congrArg (fun z => Ends p e below s 1 6 (Q0 Z  h0 n0 z) (T2.setTop (mkF m 172 #[d0, d1, d2, d3, d4, d5, .val (.ref a_q2), d7, d8, d9, d10, .val (.int x11), .val (.int x12), .val (.int x13)] [(.int (F3 x11 x12 (cf_q2 ((4 : Int32)).toNatClampNeg)))]))) (show (F0_161 K cf_q2 x11 x12 x13) = (F0_175 K cf_q2 x12 x13) from (if_neg hc172)).symm) ?_
      refine Ends.step (u' := (T2.setTop (mkF m 175 #[d0, d1, d2, d3, d4, d5, .val (.ref a_q2), d7, d8, d9, d10, .val (.int x11), .val (.int x12), .val (.int x13)] []))) ?_ (fun _ k => XS.ifNo X2.here hx rfl (hb hby at_172) rfl (XT.i0_eq_f hc172) k)
      exact b175 T2 _ _ X2 e2 N2 Zs cf_q2 x12 x13 (d0) od0 (d1) od1 (d2) od2 (d3) od3 (d4) od4 (d5) od5 (d7) od7 (d8) od8 (d9) od9 (d10) od10 (.val (.int x11)) (Or.inr ⟨_, rfl, rfl⟩) a_q2 g_q2 A_q2
  have b147 : ∀ (T : State) (L : List Loc) (h : Heap) (X : Stand p l e room_1 s m #[(.int p0), (.int p1), (.int p2), (.int p3), (.int p4), (.int p5)] below meth c T L 1 6) (eT : T.heap = h) (N : Fr n0 L) (Zs : n0 ≤ h.size) (cf_q2 : Nat → Int32) (x10 : Int32) (x11 : Int32) (x12 : Int32) (x13 : Int32) (d0 : Slot) (od0 : OneS d0) (d1 : Slot) (od1 : OneS d1) (d2 : Slot) (od2 : OneS d2) (d3 : Slot) (od3 : OneS d3) (d4 : Slot) (od4 : OneS d4) (d5 : Slot) (od5 : OneS d5) (d7 : Slot) (od7 : OneS d7) (d8 : Slot) (od8 : OneS d8) (d9 : Slot) (od9 : OneS d9) (a_q2 : Addr) (g_q2 : n0 ≤ a_q2) (A_q2 : Ar Z h a_q2 .byte 6 cf_q2), Ends p e below s 1 6 (Q0 Z  h0 n0 (F0_147 K cf_q2 x10 x11 x12 x13)) (T.setTop (mkF m 147 #[d0, d1, d2, d3, d4, d5, .val (.ref a_q2), d7, d8, d9, .val (.int x10), .val (.int x11), .val (.int x12), .val (.int x13)] [])) := by
    intro T L h X eT N Zs cf_q2 x10 x11 x12 x13 d0 od0 d1 od1 d2 od2 d3 od3 d4 od4 d5 od5 d7 od7 d8 od8 d9 od9 a_q2 g_q2 A_q2
    refine Ends.step (u' := (T.setTop (mkF m 149 #[d0, d1, d2, d3, d4, d5, .val (.ref a_q2), d7, d8, d9, .val (.int x10), .val (.int x11), .val (.int x12), .val (.int x13)] [(.int x10)]))) ?_ (fun _ k => XS.iload X.here hx rfl (hb hby at_147) rfl k)
    refine Ends.step (u' := (T.setTop (mkF m 151 #[d0, d1, d2, d3, d4, d5, .val (.ref a_q2), d7, d8, d9, .val (.int x10), .val (.int x11), .val (.int x12), .val (.int x13)] [(.int x11), (.int x10)]))) ?_ (fun _ k => XS.iload X.here hx rfl (hb hby at_149) rfl k)
    refine Ends.step (u' := (T.setTop (mkF m 153 #[d0, d1, d2, d3, d4, d5, .val (.ref a_q2), d7, d8, d9, .val (.int x10), .val (.int x11), .val (.int x12), .val (.int x13)] [(.ref a_q2), (.int x11), (.int x10)]))) ?_ (fun _ k => XS.aload X.here hx rfl (hb hby at_151) rfl rfl k)
    refine Ends.step (u' := (T.setTop (mkF m 154 #[d0, d1, d2, d3, d4, d5, .val (.ref a_q2), d7, d8, d9, .val (.int x10), .val (.int x11), .val (.int x12), .val (.int x13)] [(.int (3 : Int32)), (.ref a_q2), (.int x11), (.int x10)]))) ?_ (fun _ k => XT.iconstV X.here hx rfl (3 : Int32) (hb hby at_153) rfl k)
    refine Ends.baload X hx hZ eT A_q2 (by unfold inb; decide) (g := (mkF m 154 #[d0, d1, d2, d3, d4, d5, .val (.ref a_q2), d7, d8, d9, .val (.int x10), .val (.int x11), .val (.int x12), .val (.int x13)] [(.int (3 : Int32)), (.ref a_q2), (.int x11), (.int x10)])) rfl rfl (hb hby at_154) ?_
    show Ends p e below s _ _ _ (T.setTop (mkF m 155 #[d0, d1, d2, d3, d4, d5, .val (.ref a_q2), d7, d8, d9, .val (.int x10), .val (.int x11), .val (.int x12), .val (.int x13)] [(.int (cf_q2 ((3 : Int32)).toNatClampNeg)), (.int x11), (.int x10)]))
    refine Ends.callS X hx hZ hown (hw _ (List.mem_of_getElem? (i := 16) rfl)) (hw _ (List.mem_of_getElem? (i := 17) rfl)) (hw _ (List.mem_of_getElem? (i := 11) rfl)) (hw _ (List.mem_of_getElem? (i := 18) rfl)) (by decide) (rm3 l Z a0 hw x10 x11 (cf_q2 ((3 : Int32)).toNatClampNeg) h n0 Zs) 0 (by decide) (by decide) eT  (g := (mkF m 155 #[d0, d1, d2, d3, d4, d5, .val (.ref a_q2), d7, d8, d9, .val (.int x10), .val (.int x11), .val (.int x12), .val (.int x13)] [(.int (cf_q2 ((3 : Int32)).toNatClampNeg)), (.int x11), (.int x10)])) rfl (by rw [hml]; rfl)  [(.int x10), (.int x11), (.int (cf_q2 ((3 : Int32)).toNatClampNeg))] [] (lenOf pd_2 rfl) rfl (by show 2 * 0 + _ ≤ _; exact Nat.le_of_eq rfl) (hb hby at_155) rfl (by decide) (by decide) (fun v3 T3 L3 X3 hQ3 => ?_)
    obtain ⟨rfl, Nq3, e3⟩ := hQ3
    have N3 := Fr.app N Nq3
    show Ends p e below s _ _ _ (T3.setTop (mkF m 158 #[d0, d1, d2, d3, d4, d5, .val (.ref a_q2), d7, d8, d9, .val (.int x10), .val (.int x11), .val (.int x12), .val (.int x13)] [(.int (F3 x10 x11 (cf_q2 ((3 : Int32)).toNatClampNeg)))]))
    by_cases hc158 : (F3 x10 x11 (cf_q2 ((3 : Int32)).toNatClampNeg)) = 0
    · refine Eq.mp (congrArg (fun z => Ends p e below s 1 6 (Q0 Z  h0 n0 z) (T3.setTop (mkF m 158 #[d0, d1, d2, d3, d4, d5, .val (.ref a_q2), d7, d8, d9, .val (.int x10), .val (.int x11), .val (.int x12), .val (.int x13)] [(.int (F3 x10 x11 (cf_q2 ((3 : Int32)).toNatClampNeg)))]))) (show (F0_147 K cf_q2 x10 x11 x12 x13) = (F0_193 K) from (if_pos hc158)).symm) ?_
      refine Ends.step (u' := (T3.setTop (mkF m 193 #[d0, d1, d2, d3, d4, d5, .val (.ref a_q2), d7, d8, d9, .val (.int x10), .val (.int x11), .val (.int x12), .val (.int x13)] []))) ?_ (fun _ k => XS.ifYes X3.here hx rfl (pc0 := 158) (pc' := 193) rfl (hb hby at_158) rfl (XT.i0_eq_t hc158) (by decide) (by decide) k)
      exact b193 T3 _ _ X3 e3 N3 Zs (d0) od0 (d1) od1 (d2) od2 (d3) od3 (d4) od4 (d5) od5 (.val (.ref a_q2)) (Or.inr ⟨_, rfl, rfl⟩) (d7) od7 (d8) od8 (d9) od9 (.val (.int x10)) (Or.inr ⟨_, rfl, rfl⟩) (.val (.int x11)) (Or.inr ⟨_, rfl, rfl⟩) (.val (.int x12)) (Or.inr ⟨_, rfl, rfl⟩) (.val (.int x13)) (Or.inr ⟨_, rfl, rfl⟩)
    · refine Eq.mp (congrArg (fun z => Ends p e below s 1 6 (Q0 Z  h0 n0 z) (T3.setTop (mkF m 158 #[d0, d1, d2, d3, d4, d5, .val (.ref a_q2), d7, d8, d9, .val (.int x10), .val (.int x11), .val (.int x12), .val (.int x13)] [(.int (F3 x10 x11 (cf_q2 ((3 : Int32)).toNatClampNeg)))]))) (show (F0_147 K cf_q2 x10 x11 x12 x13) = (F0_161 K cf_q2 x11 x12 x13) from (if_neg hc158)).symm) ?_
      refine Ends.step (u' := (T3.setTop (mkF m 161 #[d0, d1, d2, d3, d4, d5, .val (.ref a_q2), d7, d8, d9, .val (.int x10), .val (.int x11), .val (.int x12), .val (.int x13)] []))) ?_ (fun _ k => XS.ifNo X3.here hx rfl (hb hby at_158) rfl (XT.i0_eq_f hc158) k)
      exact b161 T3 _ _ X3 e3 N3 Zs cf_q2 x11 x12 x13 (d0) od0 (d1) od1 (d2) od2 (d3) od3 (d4) od4 (d5) od5 (d7) od7 (d8) od8 (d9) od9 (.val (.int x10)) (Or.inr ⟨_, rfl, rfl⟩) a_q2 g_q2 A_q2
  have b133 : ∀ (T : State) (L : List Loc) (h : Heap) (X : Stand p l e room_1 s m #[(.int p0), (.int p1), (.int p2), (.int p3), (.int p4), (.int p5)] below meth c T L 1 6) (eT : T.heap = h) (N : Fr n0 L) (Zs : n0 ≤ h.size) (cf_q2 : Nat → Int32) (x9 : Int32) (x10 : Int32) (x11 : Int32) (x12 : Int32) (x13 : Int32) (d0 : Slot) (od0 : OneS d0) (d1 : Slot) (od1 : OneS d1) (d2 : Slot) (od2 : OneS d2) (d3 : Slot) (od3 : OneS d3) (d4 : Slot) (od4 : OneS d4) (d5 : Slot) (od5 : OneS d5) (d7 : Slot) (od7 : OneS d7) (d8 : Slot) (od8 : OneS d8) (a_q2 : Addr) (g_q2 : n0 ≤ a_q2) (A_q2 : Ar Z h a_q2 .byte 6 cf_q2), Ends p e below s 1 6 (Q0 Z  h0 n0 (F0_133 K cf_q2 x9 x10 x11 x12 x13)) (T.setTop (mkF m 133 #[d0, d1, d2, d3, d4, d5, .val (.ref a_q2), d7, d8, .val (.int x9), .val (.int x10), .val (.int x11), .val (.int x12), .val (.int x13)] [])) := by
    intro T L h X eT N Zs cf_q2 x9 x10 x11 x12 x13 d0 od0 d1 od1 d2 od2 d3 od3 d4 od4 d5 od5 d7 od7 d8 od8 a_q2 g_q2 A_q2
    refine Ends.step (u' := (T.setTop (mkF m 135 #[d0, d1, d2, d3, d4, d5, .val (.ref a_q2), d7, d8, .val (.int x9), .val (.int x10), .val (.int x11), .val (.int x12), .val (.int x13)] [(.int x9)]))) ?_ (fun _ k => XS.iload X.here hx rfl (hb hby at_133) rfl k)
    refine Ends.step (u' := (T.setTop (mkF m 137 #[d0, d1, d2, d3, d4, d5, .val (.ref a_q2), d7, d8, .val (.int x9), .val (.int x10), .val (.int x11), .val (.int x12), .val (.int x13)] [(.int x10), (.int x9)]))) ?_ (fun _ k => XS.iload X.here hx rfl (hb hby at_135) rfl k)
    refine Ends.step (u' := (T.setTop (mkF m 139 #[d0, d1, d2, d3, d4, d5, .val (.ref a_q2), d7, d8, .val (.int x9), .val (.int x10), .val (.int x11), .val (.int x12), .val (.int x13)] [(.ref a_q2), (.int x10), (.int x9)]))) ?_ (fun _ k => XS.aload X.here hx rfl (hb hby at_137) rfl rfl k)
    refine Ends.step (u' := (T.setTop (mkF m 140 #[d0, d1, d2, d3, d4, d5, .val (.ref a_q2), d7, d8, .val (.int x9), .val (.int x10), .val (.int x11), .val (.int x12), .val (.int x13)] [(.int (2 : Int32)), (.ref a_q2), (.int x10), (.int x9)]))) ?_ (fun _ k => XT.iconstV X.here hx rfl (2 : Int32) (hb hby at_139) rfl k)
    refine Ends.baload X hx hZ eT A_q2 (by unfold inb; decide) (g := (mkF m 140 #[d0, d1, d2, d3, d4, d5, .val (.ref a_q2), d7, d8, .val (.int x9), .val (.int x10), .val (.int x11), .val (.int x12), .val (.int x13)] [(.int (2 : Int32)), (.ref a_q2), (.int x10), (.int x9)])) rfl rfl (hb hby at_140) ?_
    show Ends p e below s _ _ _ (T.setTop (mkF m 141 #[d0, d1, d2, d3, d4, d5, .val (.ref a_q2), d7, d8, .val (.int x9), .val (.int x10), .val (.int x11), .val (.int x12), .val (.int x13)] [(.int (cf_q2 ((2 : Int32)).toNatClampNeg)), (.int x10), (.int x9)]))
    refine Ends.callS X hx hZ hown (hw _ (List.mem_of_getElem? (i := 16) rfl)) (hw _ (List.mem_of_getElem? (i := 17) rfl)) (hw _ (List.mem_of_getElem? (i := 11) rfl)) (hw _ (List.mem_of_getElem? (i := 18) rfl)) (by decide) (rm3 l Z a0 hw x9 x10 (cf_q2 ((2 : Int32)).toNatClampNeg) h n0 Zs) 0 (by decide) (by decide) eT  (g := (mkF m 141 #[d0, d1, d2, d3, d4, d5, .val (.ref a_q2), d7, d8, .val (.int x9), .val (.int x10), .val (.int x11), .val (.int x12), .val (.int x13)] [(.int (cf_q2 ((2 : Int32)).toNatClampNeg)), (.int x10), (.int x9)])) rfl (by rw [hml]; rfl)  [(.int x9), (.int x10), (.int (cf_q2 ((2 : Int32)).toNatClampNeg))] [] (lenOf pd_2 rfl) rfl (by show 2 * 0 + _ ≤ _; exact Nat.le_of_eq rfl) (hb hby at_141) rfl (by decide) (by decide) (fun v4 T4 L4 X4 hQ4 => ?_)
    obtain ⟨rfl, Nq4, e4⟩ := hQ4
    have N4 := Fr.app N Nq4
    show Ends p e below s _ _ _ (T4.setTop (mkF m 144 #[d0, d1, d2, d3, d4, d5, .val (.ref a_q2), d7, d8, .val (.int x9), .val (.int x10), .val (.int x11), .val (.int x12), .val (.int x13)] [(.int (F3 x9 x10 (cf_q2 ((2 : Int32)).toNatClampNeg)))]))
    by_cases hc144 : (F3 x9 x10 (cf_q2 ((2 : Int32)).toNatClampNeg)) = 0
    · refine Eq.mp (congrArg (fun z => Ends p e below s 1 6 (Q0 Z  h0 n0 z) (T4.setTop (mkF m 144 #[d0, d1, d2, d3, d4, d5, .val (.ref a_q2), d7, d8, .val (.int x9), .val (.int x10), .val (.int x11), .val (.int x12), .val (.int x13)] [(.int (F3 x9 x10 (cf_q2 ((2 : Int32)).toNatClampNeg)))]))) (show (F0_133 K cf_q2 x9 x10 x11 x12 x13) = (F0_193 K) from (if_pos hc144)).symm) ?_
      refine Ends.step (u' := (T4.setTop (mkF m 193 #[d0, d1, d2, d3, d4, d5, .val (.ref a_q2), d7, d8, .val (.int x9), .val (.int x10), .val (.int x11), .val (.int x12), .val (.int x13)] []))) ?_ (fun _ k => XS.ifYes X4.here hx rfl (pc0 := 144) (pc' := 193) rfl (hb hby at_144) rfl (XT.i0_eq_t hc144) (by decide) (by decide) k)
      exact b193 T4 _ _ X4 e4 N4 Zs (d0) od0 (d1) od1 (d2) od2 (d3) od3 (d4) od4 (d5) od5 (.val (.ref a_q2)) (Or.inr ⟨_, rfl, rfl⟩) (d7) od7 (d8) od8 (.val (.int x9)) (Or.inr ⟨_, rfl, rfl⟩) (.val (.int x10)) (Or.inr ⟨_, rfl, rfl⟩) (.val (.int x11)) (Or.inr ⟨_, rfl, rfl⟩) (.val (.int x12)) (Or.inr ⟨_, rfl, rfl⟩) (.val (.int x13)) (Or.inr ⟨_, rfl, rfl⟩)
    · refine Eq.mp (congrArg (fun z => Ends p e below s 1 6 (Q0 Z  h0 n0 z) (T4.setTop (mkF m 144 #[d0, d1, d2, d3, d4, d5, .val (.ref a_q2), d7, d8, .val (.int x9), .val (.int x10), .val (.int x11), .val (.int x12), .val (.int x13)] [(.int (F3 x9 x10 (cf_q2 ((2 : Int32)).toNatClampNeg)))]))) (show (F0_133 K cf_q2 x9 x10 x11 x12 x13) = (F0_147 K cf_q2 x10 x11 x12 x13) from (if_neg hc144)).symm) ?_
      refine Ends.step (u' := (T4.setTop (mkF m 147 #[d0, d1, d2, d3, d4, d5, .val (.ref a_q2), d7, d8, .val (.int x9), .val (.int x10), .val (.int x11), .val (.int x12), .val (.int x13)] []))) ?_ (fun _ k => XS.ifNo X4.here hx rfl (hb hby at_144) rfl (XT.i0_eq_f hc144) k)
      exact b147 T4 _ _ X4 e4 N4 Zs cf_q2 x10 x11 x12 x13 (d0) od0 (d1) od1 (d2) od2 (d3) od3 (d4) od4 (d5) od5 (d7) od7 (d8) od8 (.val (.int x9)) (Or.inr ⟨_, rfl, rfl⟩) a_q2 g_q2 A_q2
  have b119 : ∀ (T : State) (L : List Loc) (h : Heap) (X : Stand p l e room_1 s m #[(.int p0), (.int p1), (.int p2), (.int p3), (.int p4), (.int p5)] below meth c T L 1 6) (eT : T.heap = h) (N : Fr n0 L) (Zs : n0 ≤ h.size) (cf_q2 : Nat → Int32) (x8 : Int32) (x9 : Int32) (x10 : Int32) (x11 : Int32) (x12 : Int32) (x13 : Int32) (d0 : Slot) (od0 : OneS d0) (d1 : Slot) (od1 : OneS d1) (d2 : Slot) (od2 : OneS d2) (d3 : Slot) (od3 : OneS d3) (d4 : Slot) (od4 : OneS d4) (d5 : Slot) (od5 : OneS d5) (d7 : Slot) (od7 : OneS d7) (a_q2 : Addr) (g_q2 : n0 ≤ a_q2) (A_q2 : Ar Z h a_q2 .byte 6 cf_q2), Ends p e below s 1 6 (Q0 Z  h0 n0 (F0_119 K cf_q2 x8 x9 x10 x11 x12 x13)) (T.setTop (mkF m 119 #[d0, d1, d2, d3, d4, d5, .val (.ref a_q2), d7, .val (.int x8), .val (.int x9), .val (.int x10), .val (.int x11), .val (.int x12), .val (.int x13)] [])) := by
    intro T L h X eT N Zs cf_q2 x8 x9 x10 x11 x12 x13 d0 od0 d1 od1 d2 od2 d3 od3 d4 od4 d5 od5 d7 od7 a_q2 g_q2 A_q2
    refine Ends.step (u' := (T.setTop (mkF m 121 #[d0, d1, d2, d3, d4, d5, .val (.ref a_q2), d7, .val (.int x8), .val (.int x9), .val (.int x10), .val (.int x11), .val (.int x12), .val (.int x13)] [(.int x8)]))) ?_ (fun _ k => XS.iload X.here hx rfl (hb hby at_119) rfl k)
    refine Ends.step (u' := (T.setTop (mkF m 123 #[d0, d1, d2, d3, d4, d5, .val (.ref a_q2), d7, .val (.int x8), .val (.int x9), .val (.int x10), .val (.int x11), .val (.int x12), .val (.int x13)] [(.int x9), (.int x8)]))) ?_ (fun _ k => XS.iload X.here hx rfl (hb hby at_121) rfl k)
    refine Ends.step (u' := (T.setTop (mkF m 125 #[d0, d1, d2, d3, d4, d5, .val (.ref a_q2), d7, .val (.int x8), .val (.int x9), .val (.int x10), .val (.int x11), .val (.int x12), .val (.int x13)] [(.ref a_q2), (.int x9), (.int x8)]))) ?_ (fun _ k => XS.aload X.here hx rfl (hb hby at_123) rfl rfl k)
    refine Ends.step (u' := (T.setTop (mkF m 126 #[d0, d1, d2, d3, d4, d5, .val (.ref a_q2), d7, .val (.int x8), .val (.int x9), .val (.int x10), .val (.int x11), .val (.int x12), .val (.int x13)] [(.int (1 : Int32)), (.ref a_q2), (.int x9), (.int x8)]))) ?_ (fun _ k => XT.iconstV X.here hx rfl (1 : Int32) (hb hby at_125) rfl k)
    refine Ends.baload X hx hZ eT A_q2 (by unfold inb; decide) (g := (mkF m 126 #[d0, d1, d2, d3, d4, d5, .val (.ref a_q2), d7, .val (.int x8), .val (.int x9), .val (.int x10), .val (.int x11), .val (.int x12), .val (.int x13)] [(.int (1 : Int32)), (.ref a_q2), (.int x9), (.int x8)])) rfl rfl (hb hby at_126) ?_
    show Ends p e below s _ _ _ (T.setTop (mkF m 127 #[d0, d1, d2, d3, d4, d5, .val (.ref a_q2), d7, .val (.int x8), .val (.int x9), .val (.int x10), .val (.int x11), .val (.int x12), .val (.int x13)] [(.int (cf_q2 ((1 : Int32)).toNatClampNeg)), (.int x9), (.int x8)]))
    refine Ends.callS X hx hZ hown (hw _ (List.mem_of_getElem? (i := 16) rfl)) (hw _ (List.mem_of_getElem? (i := 17) rfl)) (hw _ (List.mem_of_getElem? (i := 11) rfl)) (hw _ (List.mem_of_getElem? (i := 18) rfl)) (by decide) (rm3 l Z a0 hw x8 x9 (cf_q2 ((1 : Int32)).toNatClampNeg) h n0 Zs) 0 (by decide) (by decide) eT  (g := (mkF m 127 #[d0, d1, d2, d3, d4, d5, .val (.ref a_q2), d7, .val (.int x8), .val (.int x9), .val (.int x10), .val (.int x11), .val (.int x12), .val (.int x13)] [(.int (cf_q2 ((1 : Int32)).toNatClampNeg)), (.int x9), (.int x8)])) rfl (by rw [hml]; rfl)  [(.int x8), (.int x9), (.int (cf_q2 ((1 : Int32)).toNatClampNeg))] [] (lenOf pd_2 rfl) rfl (by show 2 * 0 + _ ≤ _; exact Nat.le_of_eq rfl) (hb hby at_127) rfl (by decide) (by decide) (fun v5 T5 L5 X5 hQ5 => ?_)
    obtain ⟨rfl, Nq5, e5⟩ := hQ5
    have N5 := Fr.app N Nq5
    show Ends p e below s _ _ _ (T5.setTop (mkF m 130 #[d0, d1, d2, d3, d4, d5, .val (.ref a_q2), d7, .val (.int x8), .val (.int x9), .val (.int x10), .val (.int x11), .val (.int x12), .val (.int x13)] [(.int (F3 x8 x9 (cf_q2 ((1 : Int32)).toNatClampNeg)))]))
    by_cases hc130 : (F3 x8 x9 (cf_q2 ((1 : Int32)).toNatClampNeg)) = 0
    · refine Eq.mp (congrArg (fun z => Ends p e below s 1 6 (Q0 Z  h0 n0 z) (T5.setTop (mkF m 130 #[d0, d1, d2, d3, d4, d5, .val (.ref a_q2), d7, .val (.int x8), .val (.int x9), .val (.int x10), .val (.int x11), .val (.int x12), .val (.int x13)] [(.int (F3 x8 x9 (cf_q2 ((1 : Int32)).toNatClampNeg)))]))) (show (F0_119 K cf_q2 x8 x9 x10 x11 x12 x13) = (F0_193 K) from (if_pos hc130)).symm) ?_
      refine Ends.step (u' := (T5.setTop (mkF m 193 #[d0, d1, d2, d3, d4, d5, .val (.ref a_q2), d7, .val (.int x8), .val (.int x9), .val (.int x10), .val (.int x11), .val (.int x12), .val (.int x13)] []))) ?_ (fun _ k => XS.ifYes X5.here hx rfl (pc0 := 130) (pc' := 193) rfl (hb hby at_130) rfl (XT.i0_eq_t hc130) (by decide) (by decide) k)
      exact b193 T5 _ _ X5 e5 N5 Zs (d0) od0 (d1) od1 (d2) od2 (d3) od3 (d4) od4 (d5) od5 (.val (.ref a_q2)) (Or.inr ⟨_, rfl, rfl⟩) (d7) od7 (.val (.int x8)) (Or.inr ⟨_, rfl, rfl⟩) (.val (.int x9)) (Or.inr ⟨_, rfl, rfl⟩) (.val (.int x10)) (Or.inr ⟨_, rfl, rfl⟩) (.val (.int x11)) (Or.inr ⟨_, rfl, rfl⟩) (.val (.int x12)) (Or.inr ⟨_, rfl, rfl⟩) (.val (.int x13)) (Or.inr ⟨_, rfl, rfl⟩)
    · refine Eq.mp (congrArg (fun z => Ends p e below s 1 6 (Q0 Z  h0 n0 z) (T5.setTop (mkF m 130 #[d0, d1, d2, d3, d4, d5, .val (.ref a_q2), d7, .val (.int x8), .val (.int x9), .val (.int x10), .val (.int x11), .val (.int x12), .val (.int x13)] [(.int (F3 x8 x9 (cf_q2 ((1 : Int32)).toNatClampNeg)))]))) (show (F0_119 K cf_q2 x8 x9 x10 x11 x12 x13) = (F0_133 K cf_q2 x9 x10 x11 x12 x13) from (if_neg hc130)).symm) ?_
      refine Ends.step (u' := (T5.setTop (mkF m 133 #[d0, d1, d2, d3, d4, d5, .val (.ref a_q2), d7, .val (.int x8), .val (.int x9), .val (.int x10), .val (.int x11), .val (.int x12), .val (.int x13)] []))) ?_ (fun _ k => XS.ifNo X5.here hx rfl (hb hby at_130) rfl (XT.i0_eq_f hc130) k)
      exact b133 T5 _ _ X5 e5 N5 Zs cf_q2 x9 x10 x11 x12 x13 (d0) od0 (d1) od1 (d2) od2 (d3) od3 (d4) od4 (d5) od5 (d7) od7 (.val (.int x8)) (Or.inr ⟨_, rfl, rfl⟩) a_q2 g_q2 A_q2
  have b105 : ∀ (T : State) (L : List Loc) (h : Heap) (X : Stand p l e room_1 s m #[(.int p0), (.int p1), (.int p2), (.int p3), (.int p4), (.int p5)] below meth c T L 1 6) (eT : T.heap = h) (N : Fr n0 L) (Zs : n0 ≤ h.size) (cf_q2 : Nat → Int32) (x7 : Int32) (x8 : Int32) (x9 : Int32) (x10 : Int32) (x11 : Int32) (x12 : Int32) (x13 : Int32) (d0 : Slot) (od0 : OneS d0) (d1 : Slot) (od1 : OneS d1) (d2 : Slot) (od2 : OneS d2) (d3 : Slot) (od3 : OneS d3) (d4 : Slot) (od4 : OneS d4) (d5 : Slot) (od5 : OneS d5) (a_q2 : Addr) (g_q2 : n0 ≤ a_q2) (A_q2 : Ar Z h a_q2 .byte 6 cf_q2), Ends p e below s 1 6 (Q0 Z  h0 n0 (F0_105 K cf_q2 x7 x8 x9 x10 x11 x12 x13)) (T.setTop (mkF m 105 #[d0, d1, d2, d3, d4, d5, .val (.ref a_q2), .val (.int x7), .val (.int x8), .val (.int x9), .val (.int x10), .val (.int x11), .val (.int x12), .val (.int x13)] [])) := by
    intro T L h X eT N Zs cf_q2 x7 x8 x9 x10 x11 x12 x13 d0 od0 d1 od1 d2 od2 d3 od3 d4 od4 d5 od5 a_q2 g_q2 A_q2
    refine Ends.step (u' := (T.setTop (mkF m 107 #[d0, d1, d2, d3, d4, d5, .val (.ref a_q2), .val (.int x7), .val (.int x8), .val (.int x9), .val (.int x10), .val (.int x11), .val (.int x12), .val (.int x13)] [(.int x7)]))) ?_ (fun _ k => XS.iload X.here hx rfl (hb hby at_105) rfl k)
    refine Ends.step (u' := (T.setTop (mkF m 109 #[d0, d1, d2, d3, d4, d5, .val (.ref a_q2), .val (.int x7), .val (.int x8), .val (.int x9), .val (.int x10), .val (.int x11), .val (.int x12), .val (.int x13)] [(.int x8), (.int x7)]))) ?_ (fun _ k => XS.iload X.here hx rfl (hb hby at_107) rfl k)
    refine Ends.step (u' := (T.setTop (mkF m 111 #[d0, d1, d2, d3, d4, d5, .val (.ref a_q2), .val (.int x7), .val (.int x8), .val (.int x9), .val (.int x10), .val (.int x11), .val (.int x12), .val (.int x13)] [(.ref a_q2), (.int x8), (.int x7)]))) ?_ (fun _ k => XS.aload X.here hx rfl (hb hby at_109) rfl rfl k)
    refine Ends.step (u' := (T.setTop (mkF m 112 #[d0, d1, d2, d3, d4, d5, .val (.ref a_q2), .val (.int x7), .val (.int x8), .val (.int x9), .val (.int x10), .val (.int x11), .val (.int x12), .val (.int x13)] [(.int (0 : Int32)), (.ref a_q2), (.int x8), (.int x7)]))) ?_ (fun _ k => XT.iconstV X.here hx rfl (0 : Int32) (hb hby at_111) rfl k)
    refine Ends.baload X hx hZ eT A_q2 (by unfold inb; decide) (g := (mkF m 112 #[d0, d1, d2, d3, d4, d5, .val (.ref a_q2), .val (.int x7), .val (.int x8), .val (.int x9), .val (.int x10), .val (.int x11), .val (.int x12), .val (.int x13)] [(.int (0 : Int32)), (.ref a_q2), (.int x8), (.int x7)])) rfl rfl (hb hby at_112) ?_
    show Ends p e below s _ _ _ (T.setTop (mkF m 113 #[d0, d1, d2, d3, d4, d5, .val (.ref a_q2), .val (.int x7), .val (.int x8), .val (.int x9), .val (.int x10), .val (.int x11), .val (.int x12), .val (.int x13)] [(.int (cf_q2 ((0 : Int32)).toNatClampNeg)), (.int x8), (.int x7)]))
    refine Ends.callS X hx hZ hown (hw _ (List.mem_of_getElem? (i := 16) rfl)) (hw _ (List.mem_of_getElem? (i := 17) rfl)) (hw _ (List.mem_of_getElem? (i := 11) rfl)) (hw _ (List.mem_of_getElem? (i := 18) rfl)) (by decide) (rm3 l Z a0 hw x7 x8 (cf_q2 ((0 : Int32)).toNatClampNeg) h n0 Zs) 0 (by decide) (by decide) eT  (g := (mkF m 113 #[d0, d1, d2, d3, d4, d5, .val (.ref a_q2), .val (.int x7), .val (.int x8), .val (.int x9), .val (.int x10), .val (.int x11), .val (.int x12), .val (.int x13)] [(.int (cf_q2 ((0 : Int32)).toNatClampNeg)), (.int x8), (.int x7)])) rfl (by rw [hml]; rfl)  [(.int x7), (.int x8), (.int (cf_q2 ((0 : Int32)).toNatClampNeg))] [] (lenOf pd_2 rfl) rfl (by show 2 * 0 + _ ≤ _; exact Nat.le_of_eq rfl) (hb hby at_113) rfl (by decide) (by decide) (fun v6 T6 L6 X6 hQ6 => ?_)
    obtain ⟨rfl, Nq6, e6⟩ := hQ6
    have N6 := Fr.app N Nq6
    show Ends p e below s _ _ _ (T6.setTop (mkF m 116 #[d0, d1, d2, d3, d4, d5, .val (.ref a_q2), .val (.int x7), .val (.int x8), .val (.int x9), .val (.int x10), .val (.int x11), .val (.int x12), .val (.int x13)] [(.int (F3 x7 x8 (cf_q2 ((0 : Int32)).toNatClampNeg)))]))
    by_cases hc116 : (F3 x7 x8 (cf_q2 ((0 : Int32)).toNatClampNeg)) = 0
    · refine Eq.mp (congrArg (fun z => Ends p e below s 1 6 (Q0 Z  h0 n0 z) (T6.setTop (mkF m 116 #[d0, d1, d2, d3, d4, d5, .val (.ref a_q2), .val (.int x7), .val (.int x8), .val (.int x9), .val (.int x10), .val (.int x11), .val (.int x12), .val (.int x13)] [(.int (F3 x7 x8 (cf_q2 ((0 : Int32)).toNatClampNeg)))]))) (show (F0_105 K cf_q2 x7 x8 x9 x10 x11 x12 x13) = (F0_193 K) from (if_pos hc116)).symm) ?_
      refine Ends.step (u' := (T6.setTop (mkF m 193 #[d0, d1, d2, d3, d4, d5, .val (.ref a_q2), .val (.int x7), .val (.int x8), .val (.int x9), .val (.int x10), .val (.int x11), .val (.int x12), .val (.int x13)] []))) ?_ (fun _ k => XS.ifYes X6.here hx rfl (pc0 := 116) (pc' := 193) rfl (hb hby at_116) rfl (XT.i0_eq_t hc116) (by decide) (by decide) k)
      exact b193 T6 _ _ X6 e6 N6 Zs (d0) od0 (d1) od1 (d2) od2 (d3) od3 (d4) od4 (d5) od5 (.val (.ref a_q2)) (Or.inr ⟨_, rfl, rfl⟩) (.val (.int x7)) (Or.inr ⟨_, rfl, rfl⟩) (.val (.int x8)) (Or.inr ⟨_, rfl, rfl⟩) (.val (.int x9)) (Or.inr ⟨_, rfl, rfl⟩) (.val (.int x10)) (Or.inr ⟨_, rfl, rfl⟩) (.val (.int x11)) (Or.inr ⟨_, rfl, rfl⟩) (.val (.int x12)) (Or.inr ⟨_, rfl, rfl⟩) (.val (.int x13)) (Or.inr ⟨_, rfl, rfl⟩)
    · refine Eq.mp (congrArg (fun z => Ends p e below s 1 6 (Q0 Z  h0 n0 z) (T6.setTop (mkF m 116 #[d0, d1, d2, d3, d4, d5, .val (.ref a_q2), .val (.int x7), .val (.int x8), .val (.int x9), .val (.int x10), .val (.int x11), .val (.int x12), .val (.int x13)] [(.int (F3 x7 x8 (cf_q2 ((0 : Int32)).toNatClampNeg)))]))) (show (F0_105 K cf_q2 x7 x8 x9 x10 x11 x12 x13) = (F0_119 K cf_q2 x8 x9 x10 x11 x12 x13) from (if_neg hc116)).symm) ?_
      refine Ends.step (u' := (T6.setTop (mkF m 119 #[d0, d1, d2, d3, d4, d5, .val (.ref a_q2), .val (.int x7), .val (.int x8), .val (.int x9), .val (.int x10), .val (.int x11), .val (.int x12), .val (.int x13)] []))) ?_ (fun _ k => XS.ifNo X6.here hx rfl (hb hby at_116) rfl (XT.i0_eq_f hc116) k)
      exact b119 T6 _ _ X6 e6 N6 Zs cf_q2 x8 x9 x10 x11 x12 x13 (d0) od0 (d1) od1 (d2) od2 (d3) od3 (d4) od4 (d5) od5 (.val (.int x7)) (Or.inr ⟨_, rfl, rfl⟩) a_q2 g_q2 A_q2
  have b95 : ∀ (T : State) (L : List Loc) (h : Heap) (X : Stand p l e room_1 s m #[(.int p0), (.int p1), (.int p2), (.int p3), (.int p4), (.int p5)] below meth c T L 1 6) (eT : T.heap = h) (N : Fr n0 L) (Zs : n0 ≤ h.size) (cf_q2 : Nat → Int32) (x7 : Int32) (x8 : Int32) (x9 : Int32) (x10 : Int32) (x11 : Int32) (x12 : Int32) (x13 : Int32) (d0 : Slot) (od0 : OneS d0) (d1 : Slot) (od1 : OneS d1) (d2 : Slot) (od2 : OneS d2) (d3 : Slot) (od3 : OneS d3) (d4 : Slot) (od4 : OneS d4) (d5 : Slot) (od5 : OneS d5) (a_q2 : Addr) (g_q2 : n0 ≤ a_q2) (A_q2 : Ar Z h a_q2 .byte 6 cf_q2), Ends p e below s 1 6 (Q0 Z  h0 n0 (F0_95 K cf_q2 x7 x8 x9 x10 x11 x12 x13)) (T.setTop (mkF m 95 #[d0, d1, d2, d3, d4, d5, .val (.ref a_q2), .val (.int x7), .val (.int x8), .val (.int x9), .val (.int x10), .val (.int x11), .val (.int x12), .val (.int x13)] [])) := by
    intro T L h X eT N Zs cf_q2 x7 x8 x9 x10 x11 x12 x13 d0 od0 d1 od1 d2 od2 d3 od3 d4 od4 d5 od5 a_q2 g_q2 A_q2
    refine Ends.step (u' := (T.setTop (mkF m 97 #[d0, d1, d2, d3, d4, d5, .val (.ref a_q2), .val (.int x7), .val (.int x8), .val (.int x9), .val (.int x10), .val (.int x11), .val (.int x12), .val (.int x13)] [(.int x7)]))) ?_ (fun _ k => XS.iload X.here hx rfl (hb hby at_95) rfl k)
    refine Ends.callS X hx hZ hown (hw _ (List.mem_of_getElem? (i := 9) rfl)) (hw _ (List.mem_of_getElem? (i := 10) rfl)) (hw _ (List.mem_of_getElem? (i := 11) rfl)) (hw _ (List.mem_of_getElem? (i := 12) rfl)) (by decide) (rm2 l Z a0 hw x7 h n0 Zs) 0 (by decide) (by decide) eT  (g := (mkF m 97 #[d0, d1, d2, d3, d4, d5, .val (.ref a_q2), .val (.int x7), .val (.int x8), .val (.int x9), .val (.int x10), .val (.int x11), .val (.int x12), .val (.int x13)] [(.int x7)])) rfl (by rw [hml]; rfl)  [(.int x7)] [] (lenOf pd_0 rfl) rfl (by show 2 * 0 + _ ≤ _; exact Nat.le_of_eq rfl) (hb hby at_97) rfl (by decide) (by decide) (fun v7 T7 L7 X7 hQ7 => ?_)
    obtain ⟨rfl, Nq7, e7⟩ := hQ7
    have N7 := Fr.app N Nq7
    show Ends p e below s _ _ _ (T7.setTop (mkF m 100 #[d0, d1, d2, d3, d4, d5, .val (.ref a_q2), .val (.int x7), .val (.int x8), .val (.int x9), .val (.int x10), .val (.int x11), .val (.int x12), .val (.int x13)] [(.int (F2 x7))]))
    refine Ends.step (u' := (T7.setTop (mkF m 102 #[d0, d1, d2, d3, d4, d5, .val (.ref a_q2), .val (.int x7), .val (.int x8), .val (.int x9), .val (.int x10), .val (.int x11), .val (.int x12), .val (.int x13)] [(.int (-2128831035 : Int32)), (.int (F2 x7))]))) ?_ (fun _ k => X7.ldcI hx hown (mvT hZ (hw _ (List.mem_of_getElem? (i := 15) rfl))) rfl (hb hby at_100) k)
    by_cases hc102 : (F2 x7) = (-2128831035 : Int32)
    · refine Eq.mp (congrArg (fun z => Ends p e below s 1 6 (Q0 Z  h0 n0 z) (T7.setTop (mkF m 102 #[d0, d1, d2, d3, d4, d5, .val (.ref a_q2), .val (.int x7), .val (.int x8), .val (.int x9), .val (.int x10), .val (.int x11), .val (.int x12), .val (.int x13)] [(.int (-2128831035 : Int32)), (.int (F2 x7))]))) (show (F0_95 K cf_q2 x7 x8 x9 x10 x11 x12 x13) = (F0_105 K cf_q2 x7 x8 x9 x10 x11 x12 x13) from (if_pos hc102)).symm) ?_
      refine Ends.step (u' := (T7.setTop (mkF m 105 #[d0, d1, d2, d3, d4, d5, .val (.ref a_q2), .val (.int x7), .val (.int x8), .val (.int x9), .val (.int x10), .val (.int x11), .val (.int x12), .val (.int x13)] []))) ?_ (fun _ k => XS.icmpNo X7.here hx rfl (hb hby at_102) rfl (XT.ii_ne_f hc102) k)
      exact b105 T7 _ _ X7 e7 N7 Zs cf_q2 x7 x8 x9 x10 x11 x12 x13 (d0) od0 (d1) od1 (d2) od2 (d3) od3 (d4) od4 (d5) od5 a_q2 g_q2 A_q2
    · refine Eq.mp (congrArg (fun z => Ends p e below s 1 6 (Q0 Z  h0 n0 z) (T7.setTop (mkF m 102 #[d0, d1, d2, d3, d4, d5, .val (.ref a_q2), .val (.int x7), .val (.int x8), .val (.int x9), .val (.int x10), .val (.int x11), .val (.int x12), .val (.int x13)] [(.int (-2128831035 : Int32)), (.int (F2 x7))]))) (show (F0_95 K cf_q2 x7 x8 x9 x10 x11 x12 x13) = (F0_193 K) from (if_neg hc102)).symm) ?_
      refine Ends.step (u' := (T7.setTop (mkF m 193 #[d0, d1, d2, d3, d4, d5, .val (.ref a_q2), .val (.int x7), .val (.int x8), .val (.int x9), .val (.int x10), .val (.int x11), .val (.int x12), .val (.int x13)] []))) ?_ (fun _ k => XS.icmpYes X7.here hx rfl (pc0 := 102) (pc' := 193) rfl (hb hby at_102) rfl (XT.ii_ne_t hc102) (by decide) (by decide) k)
      exact b193 T7 _ _ X7 e7 N7 Zs (d0) od0 (d1) od1 (d2) od2 (d3) od3 (d4) od4 (d5) od5 (.val (.ref a_q2)) (Or.inr ⟨_, rfl, rfl⟩) (.val (.int x7)) (Or.inr ⟨_, rfl, rfl⟩) (.val (.int x8)) (Or.inr ⟨_, rfl, rfl⟩) (.val (.int x9)) (Or.inr ⟨_, rfl, rfl⟩) (.val (.int x10)) (Or.inr ⟨_, rfl, rfl⟩) (.val (.int x11)) (Or.inr ⟨_, rfl, rfl⟩) (.val (.int x12)) (Or.inr ⟨_, rfl, rfl⟩) (.val (.int x13)) (Or.inr ⟨_, rfl, rfl⟩)
  have b86 : ∀ (T : State) (L : List Loc) (h : Heap) (X : Stand p l e room_1 s m #[(.int p0), (.int p1), (.int p2), (.int p3), (.int p4), (.int p5)] below meth c T L 1 6) (eT : T.heap = h) (N : Fr n0 L) (Zs : n0 ≤ h.size) (cf_q2 : Nat → Int32) (x7 : Int32) (x8 : Int32) (x9 : Int32) (x10 : Int32) (x11 : Int32) (x12 : Int32) (d0 : Slot) (od0 : OneS d0) (d1 : Slot) (od1 : OneS d1) (d2 : Slot) (od2 : OneS d2) (d3 : Slot) (od3 : OneS d3) (d4 : Slot) (od4 : OneS d4) (d5 : Slot) (od5 : OneS d5) (a_q2 : Addr) (g_q2 : n0 ≤ a_q2) (A_q2 : Ar Z h a_q2 .byte 6 cf_q2) (ok : (O0_86 K cf_q2 x7 x8 x9 x10 x11 x12)), Ends p e below s 1 6 (Q0 Z  h0 n0 (F0_86 K cf_q2 x7 x8 x9 x10 x11 x12)) (T.setTop (mkF m 86 #[d0, d1, d2, d3, d4, d5, .val (.ref a_q2), .val (.int x7), .val (.int x8), .val (.int x9), .val (.int x10), .val (.int x11), .val (.int x12), .unset] [])) := by
    intro T L h X eT N Zs cf_q2 x7 x8 x9 x10 x11 x12 d0 od0 d1 od1 d2 od2 d3 od3 d4 od4 d5 od5 a_q2 g_q2 A_q2 ok
    obtain ⟨o1, ok⟩ := ok
    refine Ends.step (u' := (T.setTop (mkF m 88 #[d0, d1, d2, d3, d4, d5, .val (.ref a_q2), .val (.int x7), .val (.int x8), .val (.int x9), .val (.int x10), .val (.int x11), .val (.int x12), .unset] [(.ref a_q2)]))) ?_ (fun _ k => XS.aload X.here hx rfl (hb hby at_86) rfl rfl k)
    refine Ends.step (u' := (T.setTop (mkF m 90 #[d0, d1, d2, d3, d4, d5, .val (.ref a_q2), .val (.int x7), .val (.int x8), .val (.int x9), .val (.int x10), .val (.int x11), .val (.int x12), .unset] [(.int (6 : Int32)), (.ref a_q2)]))) ?_ (fun _ k => XT.bipushV X.here hx rfl (6 : Int32) (hb hby at_88) rfl k)
    refine Ends.callS X hx hZ hown (hw _ (List.mem_of_getElem? (i := 1) rfl)) (hw _ (List.mem_of_getElem? (i := 2) rfl)) (hw _ (List.mem_of_getElem? (i := 3) rfl)) (hw _ (List.mem_of_getElem? (i := 4) rfl)) (by decide) (rm1 l Z a0 hw K (6 : Int32) 6 cf_q2 a_q2 h n0 Zs A_q2 o1) 0 (by decide) (by decide) eT  (g := (mkF m 90 #[d0, d1, d2, d3, d4, d5, .val (.ref a_q2), .val (.int x7), .val (.int x8), .val (.int x9), .val (.int x10), .val (.int x11), .val (.int x12), .unset] [(.int (6 : Int32)), (.ref a_q2)])) rfl (by rw [hml]; rfl)  [(.ref a_q2), (.int (6 : Int32))] [] (lenOf pd_1 rfl) rfl (by show 2 * 0 + _ ≤ _; exact Nat.le_of_eq rfl) (hb hby at_90) rfl (by decide) (by decide) (fun v8 T8 L8 X8 hQ8 => ?_)
    obtain ⟨rfl, Nq8, e8⟩ := hQ8
    have N8 := Fr.app N Nq8
    show Ends p e below s _ _ _ (T8.setTop (mkF m 93 #[d0, d1, d2, d3, d4, d5, .val (.ref a_q2), .val (.int x7), .val (.int x8), .val (.int x9), .val (.int x10), .val (.int x11), .val (.int x12), .unset] [(.int (F1 K (6 : Int32) 6 cf_q2))]))
    refine Ends.step (u' := (T8.setTop (mkF m 95 #[d0, d1, d2, d3, d4, d5, .val (.ref a_q2), .val (.int x7), .val (.int x8), .val (.int x9), .val (.int x10), .val (.int x11), .val (.int x12), .val (.int (F1 K (6 : Int32) 6 cf_q2))] []))) ?_ (fun _ k => XS.istore X8.here hx rfl (hb hby at_93) rfl (l' := #[d0, d1, d2, d3, d4, d5, .val (.ref a_q2), .val (.int x7), .val (.int x8), .val (.int x9), .val (.int x10), .val (.int x11), .val (.int x12), .val (.int (F1 K (6 : Int32) 6 cf_q2))]) rfl k)
    exact b95 T8 _ _ X8 e8 N8 Zs cf_q2 x7 x8 x9 x10 x11 x12 (F1 K (6 : Int32) 6 cf_q2) (d0) od0 (d1) od1 (d2) od2 (d3) od3 (d4) od4 (d5) od5 a_q2 g_q2 A_q2
  have b78 : ∀ (T : State) (L : List Loc) (h : Heap) (X : Stand p l e room_1 s m #[(.int p0), (.int p1), (.int p2), (.int p3), (.int p4), (.int p5)] below meth c T L 1 6) (eT : T.heap = h) (N : Fr n0 L) (Zs : n0 ≤ h.size) (cf_q2 : Nat → Int32) (x7 : Int32) (x8 : Int32) (x9 : Int32) (x10 : Int32) (x11 : Int32) (d0 : Slot) (od0 : OneS d0) (d1 : Slot) (od1 : OneS d1) (d2 : Slot) (od2 : OneS d2) (d3 : Slot) (od3 : OneS d3) (d4 : Slot) (od4 : OneS d4) (d5 : Slot) (od5 : OneS d5) (a_q2 : Addr) (g_q2 : n0 ≤ a_q2) (A_q2 : Ar Z h a_q2 .byte 6 cf_q2) (ok : (O0_78 K cf_q2 x7 x8 x9 x10 x11)), Ends p e below s 1 6 (Q0 Z  h0 n0 (F0_78 K cf_q2 x7 x8 x9 x10 x11)) (T.setTop (mkF m 78 #[d0, d1, d2, d3, d4, d5, .val (.ref a_q2), .val (.int x7), .val (.int x8), .val (.int x9), .val (.int x10), .val (.int x11), .unset, .unset] [])) := by
    intro T L h X eT N Zs cf_q2 x7 x8 x9 x10 x11 d0 od0 d1 od1 d2 od2 d3 od3 d4 od4 d5 od5 a_q2 g_q2 A_q2 ok
    obtain ⟨o1, ok⟩ := ok
    refine Ends.step (u' := (T.setTop (mkF m 80 #[d0, d1, d2, d3, d4, d5, .val (.ref a_q2), .val (.int x7), .val (.int x8), .val (.int x9), .val (.int x10), .val (.int x11), .unset, .unset] [(.ref a_q2)]))) ?_ (fun _ k => XS.aload X.here hx rfl (hb hby at_78) rfl rfl k)
    refine Ends.step (u' := (T.setTop (mkF m 81 #[d0, d1, d2, d3, d4, d5, .val (.ref a_q2), .val (.int x7), .val (.int x8), .val (.int x9), .val (.int x10), .val (.int x11), .unset, .unset] [(.int (5 : Int32)), (.ref a_q2)]))) ?_ (fun _ k => XT.iconstV X.here hx rfl (5 : Int32) (hb hby at_80) rfl k)
    refine Ends.callS X hx hZ hown (hw _ (List.mem_of_getElem? (i := 1) rfl)) (hw _ (List.mem_of_getElem? (i := 2) rfl)) (hw _ (List.mem_of_getElem? (i := 3) rfl)) (hw _ (List.mem_of_getElem? (i := 4) rfl)) (by decide) (rm1 l Z a0 hw K (5 : Int32) 6 cf_q2 a_q2 h n0 Zs A_q2 o1) 0 (by decide) (by decide) eT  (g := (mkF m 81 #[d0, d1, d2, d3, d4, d5, .val (.ref a_q2), .val (.int x7), .val (.int x8), .val (.int x9), .val (.int x10), .val (.int x11), .unset, .unset] [(.int (5 : Int32)), (.ref a_q2)])) rfl (by rw [hml]; rfl)  [(.ref a_q2), (.int (5 : Int32))] [] (lenOf pd_1 rfl) rfl (by show 2 * 0 + _ ≤ _; exact Nat.le_of_eq rfl) (hb hby at_81) rfl (by decide) (by decide) (fun v9 T9 L9 X9 hQ9 => ?_)
    obtain ⟨rfl, Nq9, e9⟩ := hQ9
    have N9 := Fr.app N Nq9
    show Ends p e below s _ _ _ (T9.setTop (mkF m 84 #[d0, d1, d2, d3, d4, d5, .val (.ref a_q2), .val (.int x7), .val (.int x8), .val (.int x9), .val (.int x10), .val (.int x11), .unset, .unset] [(.int (F1 K (5 : Int32) 6 cf_q2))]))
    refine Ends.step (u' := (T9.setTop (mkF m 86 #[d0, d1, d2, d3, d4, d5, .val (.ref a_q2), .val (.int x7), .val (.int x8), .val (.int x9), .val (.int x10), .val (.int x11), .val (.int (F1 K (5 : Int32) 6 cf_q2)), .unset] []))) ?_ (fun _ k => XS.istore X9.here hx rfl (hb hby at_84) rfl (l' := #[d0, d1, d2, d3, d4, d5, .val (.ref a_q2), .val (.int x7), .val (.int x8), .val (.int x9), .val (.int x10), .val (.int x11), .val (.int (F1 K (5 : Int32) 6 cf_q2)), .unset]) rfl k)
    exact b86 T9 _ _ X9 e9 N9 Zs cf_q2 x7 x8 x9 x10 x11 (F1 K (5 : Int32) 6 cf_q2) (d0) od0 (d1) od1 (d2) od2 (d3) od3 (d4) od4 (d5) od5 a_q2 g_q2 A_q2 ok
  have b70 : ∀ (T : State) (L : List Loc) (h : Heap) (X : Stand p l e room_1 s m #[(.int p0), (.int p1), (.int p2), (.int p3), (.int p4), (.int p5)] below meth c T L 1 6) (eT : T.heap = h) (N : Fr n0 L) (Zs : n0 ≤ h.size) (cf_q2 : Nat → Int32) (x7 : Int32) (x8 : Int32) (x9 : Int32) (x10 : Int32) (d0 : Slot) (od0 : OneS d0) (d1 : Slot) (od1 : OneS d1) (d2 : Slot) (od2 : OneS d2) (d3 : Slot) (od3 : OneS d3) (d4 : Slot) (od4 : OneS d4) (d5 : Slot) (od5 : OneS d5) (a_q2 : Addr) (g_q2 : n0 ≤ a_q2) (A_q2 : Ar Z h a_q2 .byte 6 cf_q2) (ok : (O0_70 K cf_q2 x7 x8 x9 x10)), Ends p e below s 1 6 (Q0 Z  h0 n0 (F0_70 K cf_q2 x7 x8 x9 x10)) (T.setTop (mkF m 70 #[d0, d1, d2, d3, d4, d5, .val (.ref a_q2), .val (.int x7), .val (.int x8), .val (.int x9), .val (.int x10), .unset, .unset, .unset] [])) := by
    intro T L h X eT N Zs cf_q2 x7 x8 x9 x10 d0 od0 d1 od1 d2 od2 d3 od3 d4 od4 d5 od5 a_q2 g_q2 A_q2 ok
    obtain ⟨o1, ok⟩ := ok
    refine Ends.step (u' := (T.setTop (mkF m 72 #[d0, d1, d2, d3, d4, d5, .val (.ref a_q2), .val (.int x7), .val (.int x8), .val (.int x9), .val (.int x10), .unset, .unset, .unset] [(.ref a_q2)]))) ?_ (fun _ k => XS.aload X.here hx rfl (hb hby at_70) rfl rfl k)
    refine Ends.step (u' := (T.setTop (mkF m 73 #[d0, d1, d2, d3, d4, d5, .val (.ref a_q2), .val (.int x7), .val (.int x8), .val (.int x9), .val (.int x10), .unset, .unset, .unset] [(.int (4 : Int32)), (.ref a_q2)]))) ?_ (fun _ k => XT.iconstV X.here hx rfl (4 : Int32) (hb hby at_72) rfl k)
    refine Ends.callS X hx hZ hown (hw _ (List.mem_of_getElem? (i := 1) rfl)) (hw _ (List.mem_of_getElem? (i := 2) rfl)) (hw _ (List.mem_of_getElem? (i := 3) rfl)) (hw _ (List.mem_of_getElem? (i := 4) rfl)) (by decide) (rm1 l Z a0 hw K (4 : Int32) 6 cf_q2 a_q2 h n0 Zs A_q2 o1) 0 (by decide) (by decide) eT  (g := (mkF m 73 #[d0, d1, d2, d3, d4, d5, .val (.ref a_q2), .val (.int x7), .val (.int x8), .val (.int x9), .val (.int x10), .unset, .unset, .unset] [(.int (4 : Int32)), (.ref a_q2)])) rfl (by rw [hml]; rfl)  [(.ref a_q2), (.int (4 : Int32))] [] (lenOf pd_1 rfl) rfl (by show 2 * 0 + _ ≤ _; exact Nat.le_of_eq rfl) (hb hby at_73) rfl (by decide) (by decide) (fun v10 T10 L10 X10 hQ10 => ?_)
    obtain ⟨rfl, Nq10, e10⟩ := hQ10
    have N10 := Fr.app N Nq10
    show Ends p e below s _ _ _ (T10.setTop (mkF m 76 #[d0, d1, d2, d3, d4, d5, .val (.ref a_q2), .val (.int x7), .val (.int x8), .val (.int x9), .val (.int x10), .unset, .unset, .unset] [(.int (F1 K (4 : Int32) 6 cf_q2))]))
    refine Ends.step (u' := (T10.setTop (mkF m 78 #[d0, d1, d2, d3, d4, d5, .val (.ref a_q2), .val (.int x7), .val (.int x8), .val (.int x9), .val (.int x10), .val (.int (F1 K (4 : Int32) 6 cf_q2)), .unset, .unset] []))) ?_ (fun _ k => XS.istore X10.here hx rfl (hb hby at_76) rfl (l' := #[d0, d1, d2, d3, d4, d5, .val (.ref a_q2), .val (.int x7), .val (.int x8), .val (.int x9), .val (.int x10), .val (.int (F1 K (4 : Int32) 6 cf_q2)), .unset, .unset]) rfl k)
    exact b78 T10 _ _ X10 e10 N10 Zs cf_q2 x7 x8 x9 x10 (F1 K (4 : Int32) 6 cf_q2) (d0) od0 (d1) od1 (d2) od2 (d3) od3 (d4) od4 (d5) od5 a_q2 g_q2 A_q2 ok
  have b62 : ∀ (T : State) (L : List Loc) (h : Heap) (X : Stand p l e room_1 s m #[(.int p0), (.int p1), (.int p2), (.int p3), (.int p4), (.int p5)] below meth c T L 1 6) (eT : T.heap = h) (N : Fr n0 L) (Zs : n0 ≤ h.size) (cf_q2 : Nat → Int32) (x7 : Int32) (x8 : Int32) (x9 : Int32) (d0 : Slot) (od0 : OneS d0) (d1 : Slot) (od1 : OneS d1) (d2 : Slot) (od2 : OneS d2) (d3 : Slot) (od3 : OneS d3) (d4 : Slot) (od4 : OneS d4) (d5 : Slot) (od5 : OneS d5) (a_q2 : Addr) (g_q2 : n0 ≤ a_q2) (A_q2 : Ar Z h a_q2 .byte 6 cf_q2) (ok : (O0_62 K cf_q2 x7 x8 x9)), Ends p e below s 1 6 (Q0 Z  h0 n0 (F0_62 K cf_q2 x7 x8 x9)) (T.setTop (mkF m 62 #[d0, d1, d2, d3, d4, d5, .val (.ref a_q2), .val (.int x7), .val (.int x8), .val (.int x9), .unset, .unset, .unset, .unset] [])) := by
    intro T L h X eT N Zs cf_q2 x7 x8 x9 d0 od0 d1 od1 d2 od2 d3 od3 d4 od4 d5 od5 a_q2 g_q2 A_q2 ok
    obtain ⟨o1, ok⟩ := ok
    refine Ends.step (u' := (T.setTop (mkF m 64 #[d0, d1, d2, d3, d4, d5, .val (.ref a_q2), .val (.int x7), .val (.int x8), .val (.int x9), .unset, .unset, .unset, .unset] [(.ref a_q2)]))) ?_ (fun _ k => XS.aload X.here hx rfl (hb hby at_62) rfl rfl k)
    refine Ends.step (u' := (T.setTop (mkF m 65 #[d0, d1, d2, d3, d4, d5, .val (.ref a_q2), .val (.int x7), .val (.int x8), .val (.int x9), .unset, .unset, .unset, .unset] [(.int (3 : Int32)), (.ref a_q2)]))) ?_ (fun _ k => XT.iconstV X.here hx rfl (3 : Int32) (hb hby at_64) rfl k)
    refine Ends.callS X hx hZ hown (hw _ (List.mem_of_getElem? (i := 1) rfl)) (hw _ (List.mem_of_getElem? (i := 2) rfl)) (hw _ (List.mem_of_getElem? (i := 3) rfl)) (hw _ (List.mem_of_getElem? (i := 4) rfl)) (by decide) (rm1 l Z a0 hw K (3 : Int32) 6 cf_q2 a_q2 h n0 Zs A_q2 o1) 0 (by decide) (by decide) eT  (g := (mkF m 65 #[d0, d1, d2, d3, d4, d5, .val (.ref a_q2), .val (.int x7), .val (.int x8), .val (.int x9), .unset, .unset, .unset, .unset] [(.int (3 : Int32)), (.ref a_q2)])) rfl (by rw [hml]; rfl)  [(.ref a_q2), (.int (3 : Int32))] [] (lenOf pd_1 rfl) rfl (by show 2 * 0 + _ ≤ _; exact Nat.le_of_eq rfl) (hb hby at_65) rfl (by decide) (by decide) (fun v11 T11 L11 X11 hQ11 => ?_)
    obtain ⟨rfl, Nq11, e11⟩ := hQ11
    have N11 := Fr.app N Nq11
    show Ends p e below s _ _ _ (T11.setTop (mkF m 68 #[d0, d1, d2, d3, d4, d5, .val (.ref a_q2), .val (.int x7), .val (.int x8), .val (.int x9), .unset, .unset, .unset, .unset] [(.int (F1 K (3 : Int32) 6 cf_q2))]))
    refine Ends.step (u' := (T11.setTop (mkF m 70 #[d0, d1, d2, d3, d4, d5, .val (.ref a_q2), .val (.int x7), .val (.int x8), .val (.int x9), .val (.int (F1 K (3 : Int32) 6 cf_q2)), .unset, .unset, .unset] []))) ?_ (fun _ k => XS.istore X11.here hx rfl (hb hby at_68) rfl (l' := #[d0, d1, d2, d3, d4, d5, .val (.ref a_q2), .val (.int x7), .val (.int x8), .val (.int x9), .val (.int (F1 K (3 : Int32) 6 cf_q2)), .unset, .unset, .unset]) rfl k)
    exact b70 T11 _ _ X11 e11 N11 Zs cf_q2 x7 x8 x9 (F1 K (3 : Int32) 6 cf_q2) (d0) od0 (d1) od1 (d2) od2 (d3) od3 (d4) od4 (d5) od5 a_q2 g_q2 A_q2 ok
  have b54 : ∀ (T : State) (L : List Loc) (h : Heap) (X : Stand p l e room_1 s m #[(.int p0), (.int p1), (.int p2), (.int p3), (.int p4), (.int p5)] below meth c T L 1 6) (eT : T.heap = h) (N : Fr n0 L) (Zs : n0 ≤ h.size) (cf_q2 : Nat → Int32) (x7 : Int32) (x8 : Int32) (d0 : Slot) (od0 : OneS d0) (d1 : Slot) (od1 : OneS d1) (d2 : Slot) (od2 : OneS d2) (d3 : Slot) (od3 : OneS d3) (d4 : Slot) (od4 : OneS d4) (d5 : Slot) (od5 : OneS d5) (a_q2 : Addr) (g_q2 : n0 ≤ a_q2) (A_q2 : Ar Z h a_q2 .byte 6 cf_q2) (ok : (O0_54 K cf_q2 x7 x8)), Ends p e below s 1 6 (Q0 Z  h0 n0 (F0_54 K cf_q2 x7 x8)) (T.setTop (mkF m 54 #[d0, d1, d2, d3, d4, d5, .val (.ref a_q2), .val (.int x7), .val (.int x8), .unset, .unset, .unset, .unset, .unset] [])) := by
    intro T L h X eT N Zs cf_q2 x7 x8 d0 od0 d1 od1 d2 od2 d3 od3 d4 od4 d5 od5 a_q2 g_q2 A_q2 ok
    obtain ⟨o1, ok⟩ := ok
    refine Ends.step (u' := (T.setTop (mkF m 56 #[d0, d1, d2, d3, d4, d5, .val (.ref a_q2), .val (.int x7), .val (.int x8), .unset, .unset, .unset, .unset, .unset] [(.ref a_q2)]))) ?_ (fun _ k => XS.aload X.here hx rfl (hb hby at_54) rfl rfl k)
    refine Ends.step (u' := (T.setTop (mkF m 57 #[d0, d1, d2, d3, d4, d5, .val (.ref a_q2), .val (.int x7), .val (.int x8), .unset, .unset, .unset, .unset, .unset] [(.int (2 : Int32)), (.ref a_q2)]))) ?_ (fun _ k => XT.iconstV X.here hx rfl (2 : Int32) (hb hby at_56) rfl k)
    refine Ends.callS X hx hZ hown (hw _ (List.mem_of_getElem? (i := 1) rfl)) (hw _ (List.mem_of_getElem? (i := 2) rfl)) (hw _ (List.mem_of_getElem? (i := 3) rfl)) (hw _ (List.mem_of_getElem? (i := 4) rfl)) (by decide) (rm1 l Z a0 hw K (2 : Int32) 6 cf_q2 a_q2 h n0 Zs A_q2 o1) 0 (by decide) (by decide) eT  (g := (mkF m 57 #[d0, d1, d2, d3, d4, d5, .val (.ref a_q2), .val (.int x7), .val (.int x8), .unset, .unset, .unset, .unset, .unset] [(.int (2 : Int32)), (.ref a_q2)])) rfl (by rw [hml]; rfl)  [(.ref a_q2), (.int (2 : Int32))] [] (lenOf pd_1 rfl) rfl (by show 2 * 0 + _ ≤ _; exact Nat.le_of_eq rfl) (hb hby at_57) rfl (by decide) (by decide) (fun v12 T12 L12 X12 hQ12 => ?_)
    obtain ⟨rfl, Nq12, e12⟩ := hQ12
    have N12 := Fr.app N Nq12
    show Ends p e below s _ _ _ (T12.setTop (mkF m 60 #[d0, d1, d2, d3, d4, d5, .val (.ref a_q2), .val (.int x7), .val (.int x8), .unset, .unset, .unset, .unset, .unset] [(.int (F1 K (2 : Int32) 6 cf_q2))]))
    refine Ends.step (u' := (T12.setTop (mkF m 62 #[d0, d1, d2, d3, d4, d5, .val (.ref a_q2), .val (.int x7), .val (.int x8), .val (.int (F1 K (2 : Int32) 6 cf_q2)), .unset, .unset, .unset, .unset] []))) ?_ (fun _ k => XS.istore X12.here hx rfl (hb hby at_60) rfl (l' := #[d0, d1, d2, d3, d4, d5, .val (.ref a_q2), .val (.int x7), .val (.int x8), .val (.int (F1 K (2 : Int32) 6 cf_q2)), .unset, .unset, .unset, .unset]) rfl k)
    exact b62 T12 _ _ X12 e12 N12 Zs cf_q2 x7 x8 (F1 K (2 : Int32) 6 cf_q2) (d0) od0 (d1) od1 (d2) od2 (d3) od3 (d4) od4 (d5) od5 a_q2 g_q2 A_q2 ok
  have b46 : ∀ (T : State) (L : List Loc) (h : Heap) (X : Stand p l e room_1 s m #[(.int p0), (.int p1), (.int p2), (.int p3), (.int p4), (.int p5)] below meth c T L 1 6) (eT : T.heap = h) (N : Fr n0 L) (Zs : n0 ≤ h.size) (cf_q2 : Nat → Int32) (x7 : Int32) (d0 : Slot) (od0 : OneS d0) (d1 : Slot) (od1 : OneS d1) (d2 : Slot) (od2 : OneS d2) (d3 : Slot) (od3 : OneS d3) (d4 : Slot) (od4 : OneS d4) (d5 : Slot) (od5 : OneS d5) (a_q2 : Addr) (g_q2 : n0 ≤ a_q2) (A_q2 : Ar Z h a_q2 .byte 6 cf_q2) (ok : (O0_46 K cf_q2 x7)), Ends p e below s 1 6 (Q0 Z  h0 n0 (F0_46 K cf_q2 x7)) (T.setTop (mkF m 46 #[d0, d1, d2, d3, d4, d5, .val (.ref a_q2), .val (.int x7), .unset, .unset, .unset, .unset, .unset, .unset] [])) := by
    intro T L h X eT N Zs cf_q2 x7 d0 od0 d1 od1 d2 od2 d3 od3 d4 od4 d5 od5 a_q2 g_q2 A_q2 ok
    obtain ⟨o1, ok⟩ := ok
    refine Ends.step (u' := (T.setTop (mkF m 48 #[d0, d1, d2, d3, d4, d5, .val (.ref a_q2), .val (.int x7), .unset, .unset, .unset, .unset, .unset, .unset] [(.ref a_q2)]))) ?_ (fun _ k => XS.aload X.here hx rfl (hb hby at_46) rfl rfl k)
    refine Ends.step (u' := (T.setTop (mkF m 49 #[d0, d1, d2, d3, d4, d5, .val (.ref a_q2), .val (.int x7), .unset, .unset, .unset, .unset, .unset, .unset] [(.int (1 : Int32)), (.ref a_q2)]))) ?_ (fun _ k => XT.iconstV X.here hx rfl (1 : Int32) (hb hby at_48) rfl k)
    refine Ends.callS X hx hZ hown (hw _ (List.mem_of_getElem? (i := 1) rfl)) (hw _ (List.mem_of_getElem? (i := 2) rfl)) (hw _ (List.mem_of_getElem? (i := 3) rfl)) (hw _ (List.mem_of_getElem? (i := 4) rfl)) (by decide) (rm1 l Z a0 hw K (1 : Int32) 6 cf_q2 a_q2 h n0 Zs A_q2 o1) 0 (by decide) (by decide) eT  (g := (mkF m 49 #[d0, d1, d2, d3, d4, d5, .val (.ref a_q2), .val (.int x7), .unset, .unset, .unset, .unset, .unset, .unset] [(.int (1 : Int32)), (.ref a_q2)])) rfl (by rw [hml]; rfl)  [(.ref a_q2), (.int (1 : Int32))] [] (lenOf pd_1 rfl) rfl (by show 2 * 0 + _ ≤ _; exact Nat.le_of_eq rfl) (hb hby at_49) rfl (by decide) (by decide) (fun v13 T13 L13 X13 hQ13 => ?_)
    obtain ⟨rfl, Nq13, e13⟩ := hQ13
    have N13 := Fr.app N Nq13
    show Ends p e below s _ _ _ (T13.setTop (mkF m 52 #[d0, d1, d2, d3, d4, d5, .val (.ref a_q2), .val (.int x7), .unset, .unset, .unset, .unset, .unset, .unset] [(.int (F1 K (1 : Int32) 6 cf_q2))]))
    refine Ends.step (u' := (T13.setTop (mkF m 54 #[d0, d1, d2, d3, d4, d5, .val (.ref a_q2), .val (.int x7), .val (.int (F1 K (1 : Int32) 6 cf_q2)), .unset, .unset, .unset, .unset, .unset] []))) ?_ (fun _ k => XS.istore X13.here hx rfl (hb hby at_52) rfl (l' := #[d0, d1, d2, d3, d4, d5, .val (.ref a_q2), .val (.int x7), .val (.int (F1 K (1 : Int32) 6 cf_q2)), .unset, .unset, .unset, .unset, .unset]) rfl k)
    exact b54 T13 _ _ X13 e13 N13 Zs cf_q2 x7 (F1 K (1 : Int32) 6 cf_q2) (d0) od0 (d1) od1 (d2) od2 (d3) od3 (d4) od4 (d5) od5 a_q2 g_q2 A_q2 ok
  have b38 : ∀ (T : State) (L : List Loc) (h : Heap) (X : Stand p l e room_1 s m #[(.int p0), (.int p1), (.int p2), (.int p3), (.int p4), (.int p5)] below meth c T L 1 6) (eT : T.heap = h) (N : Fr n0 L) (Zs : n0 ≤ h.size) (cf_q2 : Nat → Int32) (d0 : Slot) (od0 : OneS d0) (d1 : Slot) (od1 : OneS d1) (d2 : Slot) (od2 : OneS d2) (d3 : Slot) (od3 : OneS d3) (d4 : Slot) (od4 : OneS d4) (d5 : Slot) (od5 : OneS d5) (a_q2 : Addr) (g_q2 : n0 ≤ a_q2) (A_q2 : Ar Z h a_q2 .byte 6 cf_q2) (ok : (O0_38 K cf_q2)), Ends p e below s 1 6 (Q0 Z  h0 n0 (F0_38 K cf_q2)) (T.setTop (mkF m 38 #[d0, d1, d2, d3, d4, d5, .val (.ref a_q2), .unset, .unset, .unset, .unset, .unset, .unset, .unset] [])) := by
    intro T L h X eT N Zs cf_q2 d0 od0 d1 od1 d2 od2 d3 od3 d4 od4 d5 od5 a_q2 g_q2 A_q2 ok
    obtain ⟨o1, ok⟩ := ok
    refine Ends.step (u' := (T.setTop (mkF m 40 #[d0, d1, d2, d3, d4, d5, .val (.ref a_q2), .unset, .unset, .unset, .unset, .unset, .unset, .unset] [(.ref a_q2)]))) ?_ (fun _ k => XS.aload X.here hx rfl (hb hby at_38) rfl rfl k)
    refine Ends.step (u' := (T.setTop (mkF m 41 #[d0, d1, d2, d3, d4, d5, .val (.ref a_q2), .unset, .unset, .unset, .unset, .unset, .unset, .unset] [(.int (0 : Int32)), (.ref a_q2)]))) ?_ (fun _ k => XT.iconstV X.here hx rfl (0 : Int32) (hb hby at_40) rfl k)
    refine Ends.callS X hx hZ hown (hw _ (List.mem_of_getElem? (i := 1) rfl)) (hw _ (List.mem_of_getElem? (i := 2) rfl)) (hw _ (List.mem_of_getElem? (i := 3) rfl)) (hw _ (List.mem_of_getElem? (i := 4) rfl)) (by decide) (rm1 l Z a0 hw K (0 : Int32) 6 cf_q2 a_q2 h n0 Zs A_q2 o1) 0 (by decide) (by decide) eT  (g := (mkF m 41 #[d0, d1, d2, d3, d4, d5, .val (.ref a_q2), .unset, .unset, .unset, .unset, .unset, .unset, .unset] [(.int (0 : Int32)), (.ref a_q2)])) rfl (by rw [hml]; rfl)  [(.ref a_q2), (.int (0 : Int32))] [] (lenOf pd_1 rfl) rfl (by show 2 * 0 + _ ≤ _; exact Nat.le_of_eq rfl) (hb hby at_41) rfl (by decide) (by decide) (fun v14 T14 L14 X14 hQ14 => ?_)
    obtain ⟨rfl, Nq14, e14⟩ := hQ14
    have N14 := Fr.app N Nq14
    show Ends p e below s _ _ _ (T14.setTop (mkF m 44 #[d0, d1, d2, d3, d4, d5, .val (.ref a_q2), .unset, .unset, .unset, .unset, .unset, .unset, .unset] [(.int (F1 K (0 : Int32) 6 cf_q2))]))
    refine Ends.step (u' := (T14.setTop (mkF m 46 #[d0, d1, d2, d3, d4, d5, .val (.ref a_q2), .val (.int (F1 K (0 : Int32) 6 cf_q2)), .unset, .unset, .unset, .unset, .unset, .unset] []))) ?_ (fun _ k => XS.istore X14.here hx rfl (hb hby at_44) rfl (l' := #[d0, d1, d2, d3, d4, d5, .val (.ref a_q2), .val (.int (F1 K (0 : Int32) 6 cf_q2)), .unset, .unset, .unset, .unset, .unset, .unset]) rfl k)
    exact b46 T14 _ _ X14 e14 N14 Zs cf_q2 (F1 K (0 : Int32) 6 cf_q2) (d0) od0 (d1) od1 (d2) od2 (d3) od3 (d4) od4 (d5) od5 a_q2 g_q2 A_q2 ok
  refine Ends.step (u' := (s₁.setTop (mkF m 0 #[.val (.int p0), .val (.int p1), .val (.int p2), .val (.int p3), .val (.int p4), .val (.int p5), .unset, .unset, .unset, .unset, .unset, .unset, .unset, .unset] []))) ?_ (fun _ k => castTop (ef_0 m p0 p1 p2 p3 p4 p5) k)
  refine Ends.step (u' := (s₁.setTop (mkF m 2 #[.val (.int p0), .val (.int p1), .val (.int p2), .val (.int p3), .val (.int p4), .val (.int p5), .unset, .unset, .unset, .unset, .unset, .unset, .unset, .unset] [(.int (6 : Int32))]))) ?_ (fun _ k => XT.bipushV X0.here hx rfl (6 : Int32) (hb hby at_0) rfl k)
  refine Ends.newA X0 hx hZ (hw _ (List.mem_of_getElem? (i := 0) rfl)) e0 (g := (mkF m 2 #[.val (.int p0), .val (.int p1), .val (.int p2), .val (.int p3), .val (.int p4), .val (.int p5), .unset, .unset, .unset, .unset, .unset, .unset, .unset, .unset] [(.int (6 : Int32))])) rfl (hb hby at_2) rfl rfl (by decide) 6 (by decide) (by decide) (by decide) (by decide) (fun T15 h15 a15 X15 e15 E15 q15 A15 => ?_)
  have g16 : n0 ≤ a15 := q15 ▸ Z0
  have Z17 := Nat.le_trans Z0 E15.1
  show Ends p e below s _ _ _ (T15.setTop (mkF m 4 #[.val (.int p0), .val (.int p1), .val (.int p2), .val (.int p3), .val (.int p4), .val (.int p5), .unset, .unset, .unset, .unset, .unset, .unset, .unset, .unset] [(.ref a15)]))
  refine Ends.step (u' := (T15.setTop (mkF m 5 #[.val (.int p0), .val (.int p1), .val (.int p2), .val (.int p3), .val (.int p4), .val (.int p5), .unset, .unset, .unset, .unset, .unset, .unset, .unset, .unset] [(.ref a15), (.ref a15)]))) ?_ (fun _ k => XS.dup X15.here hx rfl (hb hby at_4) rfl rfl k)
  refine Ends.step (u' := (T15.setTop (mkF m 6 #[.val (.int p0), .val (.int p1), .val (.int p2), .val (.int p3), .val (.int p4), .val (.int p5), .unset, .unset, .unset, .unset, .unset, .unset, .unset, .unset] [(.int (0 : Int32)), (.ref a15), (.ref a15)]))) ?_ (fun _ k => XT.iconstV X15.here hx rfl (0 : Int32) (hb hby at_5) rfl k)
  refine Ends.step (u' := (T15.setTop (mkF m 7 #[.val (.int p0), .val (.int p1), .val (.int p2), .val (.int p3), .val (.int p4), .val (.int p5), .unset, .unset, .unset, .unset, .unset, .unset, .unset, .unset] [(.int p0), (.int (0 : Int32)), (.ref a15), (.ref a15)]))) ?_ (fun _ k => XS.iloadN X15.here hx rfl (hb hby at_6) rfl k)
  refine Ends.step (u' := (T15.setTop (mkF m 8 #[.val (.int p0), .val (.int p1), .val (.int p2), .val (.int p3), .val (.int p4), .val (.int p5), .unset, .unset, .unset, .unset, .unset, .unset, .unset, .unset] [(.int ((p0).toInt8.toInt32)), (.int (0 : Int32)), (.ref a15), (.ref a15)]))) ?_ (fun _ k => XT.i2b X15.here hx rfl (hb hby at_7) rfl k)
  refine Ends.bastore X15 hx hZ e15 A15 (by unfold inb; decide) N0 g16 (g := (mkF m 8 #[.val (.int p0), .val (.int p1), .val (.int p2), .val (.int p3), .val (.int p4), .val (.int p5), .unset, .unset, .unset, .unset, .unset, .unset, .unset, .unset] [(.int ((p0).toInt8.toInt32)), (.int (0 : Int32)), (.ref a15), (.ref a15)])) rfl rfl (hb hby at_8) (fun T18 h18 sl18 X18 e18 N18 W18 A18 => ?_)
  show Ends p e below s _ _ _ (T18.setTop (mkF m 9 #[.val (.int p0), .val (.int p1), .val (.int p2), .val (.int p3), .val (.int p4), .val (.int p5), .unset, .unset, .unset, .unset, .unset, .unset, .unset, .unset] [(.ref a15)]))
  have Z19 : n0 ≤ h18.size := W18.size.symm ▸ Z17
  refine Ends.step (u' := (T18.setTop (mkF m 10 #[.val (.int p0), .val (.int p1), .val (.int p2), .val (.int p3), .val (.int p4), .val (.int p5), .unset, .unset, .unset, .unset, .unset, .unset, .unset, .unset] [(.ref a15), (.ref a15)]))) ?_ (fun _ k => XS.dup X18.here hx rfl (hb hby at_9) rfl rfl k)
  refine Ends.step (u' := (T18.setTop (mkF m 11 #[.val (.int p0), .val (.int p1), .val (.int p2), .val (.int p3), .val (.int p4), .val (.int p5), .unset, .unset, .unset, .unset, .unset, .unset, .unset, .unset] [(.int (1 : Int32)), (.ref a15), (.ref a15)]))) ?_ (fun _ k => XT.iconstV X18.here hx rfl (1 : Int32) (hb hby at_10) rfl k)
  refine Ends.step (u' := (T18.setTop (mkF m 12 #[.val (.int p0), .val (.int p1), .val (.int p2), .val (.int p3), .val (.int p4), .val (.int p5), .unset, .unset, .unset, .unset, .unset, .unset, .unset, .unset] [(.int p1), (.int (1 : Int32)), (.ref a15), (.ref a15)]))) ?_ (fun _ k => XS.iloadN X18.here hx rfl (hb hby at_11) rfl k)
  refine Ends.step (u' := (T18.setTop (mkF m 13 #[.val (.int p0), .val (.int p1), .val (.int p2), .val (.int p3), .val (.int p4), .val (.int p5), .unset, .unset, .unset, .unset, .unset, .unset, .unset, .unset] [(.int ((p1).toInt8.toInt32)), (.int (1 : Int32)), (.ref a15), (.ref a15)]))) ?_ (fun _ k => XT.i2b X18.here hx rfl (hb hby at_12) rfl k)
  refine Ends.bastore X18 hx hZ e18 A18 (by unfold inb; decide) N18 g16 (g := (mkF m 13 #[.val (.int p0), .val (.int p1), .val (.int p2), .val (.int p3), .val (.int p4), .val (.int p5), .unset, .unset, .unset, .unset, .unset, .unset, .unset, .unset] [(.int ((p1).toInt8.toInt32)), (.int (1 : Int32)), (.ref a15), (.ref a15)])) rfl rfl (hb hby at_13) (fun T20 h20 sl20 X20 e20 N20 W20 A20 => ?_)
  show Ends p e below s _ _ _ (T20.setTop (mkF m 14 #[.val (.int p0), .val (.int p1), .val (.int p2), .val (.int p3), .val (.int p4), .val (.int p5), .unset, .unset, .unset, .unset, .unset, .unset, .unset, .unset] [(.ref a15)]))
  have Z21 : n0 ≤ h20.size := W20.size.symm ▸ Z19
  refine Ends.step (u' := (T20.setTop (mkF m 15 #[.val (.int p0), .val (.int p1), .val (.int p2), .val (.int p3), .val (.int p4), .val (.int p5), .unset, .unset, .unset, .unset, .unset, .unset, .unset, .unset] [(.ref a15), (.ref a15)]))) ?_ (fun _ k => XS.dup X20.here hx rfl (hb hby at_14) rfl rfl k)
  refine Ends.step (u' := (T20.setTop (mkF m 16 #[.val (.int p0), .val (.int p1), .val (.int p2), .val (.int p3), .val (.int p4), .val (.int p5), .unset, .unset, .unset, .unset, .unset, .unset, .unset, .unset] [(.int (2 : Int32)), (.ref a15), (.ref a15)]))) ?_ (fun _ k => XT.iconstV X20.here hx rfl (2 : Int32) (hb hby at_15) rfl k)
  refine Ends.step (u' := (T20.setTop (mkF m 17 #[.val (.int p0), .val (.int p1), .val (.int p2), .val (.int p3), .val (.int p4), .val (.int p5), .unset, .unset, .unset, .unset, .unset, .unset, .unset, .unset] [(.int p2), (.int (2 : Int32)), (.ref a15), (.ref a15)]))) ?_ (fun _ k => XS.iloadN X20.here hx rfl (hb hby at_16) rfl k)
  refine Ends.step (u' := (T20.setTop (mkF m 18 #[.val (.int p0), .val (.int p1), .val (.int p2), .val (.int p3), .val (.int p4), .val (.int p5), .unset, .unset, .unset, .unset, .unset, .unset, .unset, .unset] [(.int ((p2).toInt8.toInt32)), (.int (2 : Int32)), (.ref a15), (.ref a15)]))) ?_ (fun _ k => XT.i2b X20.here hx rfl (hb hby at_17) rfl k)
  refine Ends.bastore X20 hx hZ e20 A20 (by unfold inb; decide) N20 g16 (g := (mkF m 18 #[.val (.int p0), .val (.int p1), .val (.int p2), .val (.int p3), .val (.int p4), .val (.int p5), .unset, .unset, .unset, .unset, .unset, .unset, .unset, .unset] [(.int ((p2).toInt8.toInt32)), (.int (2 : Int32)), (.ref a15), (.ref a15)])) rfl rfl (hb hby at_18) (fun T22 h22 sl22 X22 e22 N22 W22 A22 => ?_)
  show Ends p e below s _ _ _ (T22.setTop (mkF m 19 #[.val (.int p0), .val (.int p1), .val (.int p2), .val (.int p3), .val (.int p4), .val (.int p5), .unset, .unset, .unset, .unset, .unset, .unset, .unset, .unset] [(.ref a15)]))
  have Z23 : n0 ≤ h22.size := W22.size.symm ▸ Z21
  refine Ends.step (u' := (T22.setTop (mkF m 20 #[.val (.int p0), .val (.int p1), .val (.int p2), .val (.int p3), .val (.int p4), .val (.int p5), .unset, .unset, .unset, .unset, .unset, .unset, .unset, .unset] [(.ref a15), (.ref a15)]))) ?_ (fun _ k => XS.dup X22.here hx rfl (hb hby at_19) rfl rfl k)
  refine Ends.step (u' := (T22.setTop (mkF m 21 #[.val (.int p0), .val (.int p1), .val (.int p2), .val (.int p3), .val (.int p4), .val (.int p5), .unset, .unset, .unset, .unset, .unset, .unset, .unset, .unset] [(.int (3 : Int32)), (.ref a15), (.ref a15)]))) ?_ (fun _ k => XT.iconstV X22.here hx rfl (3 : Int32) (hb hby at_20) rfl k)
  refine Ends.step (u' := (T22.setTop (mkF m 22 #[.val (.int p0), .val (.int p1), .val (.int p2), .val (.int p3), .val (.int p4), .val (.int p5), .unset, .unset, .unset, .unset, .unset, .unset, .unset, .unset] [(.int p3), (.int (3 : Int32)), (.ref a15), (.ref a15)]))) ?_ (fun _ k => XS.iloadN X22.here hx rfl (hb hby at_21) rfl k)
  refine Ends.step (u' := (T22.setTop (mkF m 23 #[.val (.int p0), .val (.int p1), .val (.int p2), .val (.int p3), .val (.int p4), .val (.int p5), .unset, .unset, .unset, .unset, .unset, .unset, .unset, .unset] [(.int ((p3).toInt8.toInt32)), (.int (3 : Int32)), (.ref a15), (.ref a15)]))) ?_ (fun _ k => XT.i2b X22.here hx rfl (hb hby at_22) rfl k)
  refine Ends.bastore X22 hx hZ e22 A22 (by unfold inb; decide) N22 g16 (g := (mkF m 23 #[.val (.int p0), .val (.int p1), .val (.int p2), .val (.int p3), .val (.int p4), .val (.int p5), .unset, .unset, .unset, .unset, .unset, .unset, .unset, .unset] [(.int ((p3).toInt8.toInt32)), (.int (3 : Int32)), (.ref a15), (.ref a15)])) rfl rfl (hb hby at_23) (fun T24 h24 sl24 X24 e24 N24 W24 A24 => ?_)
  show Ends p e below s _ _ _ (T24.setTop (mkF m 24 #[.val (.int p0), .val (.int p1), .val (.int p2), .val (.int p3), .val (.int p4), .val (.int p5), .unset, .unset, .unset, .unset, .unset, .unset, .unset, .unset] [(.ref a15)]))
  have Z25 : n0 ≤ h24.size := W24.size.symm ▸ Z23
  refine Ends.step (u' := (T24.setTop (mkF m 25 #[.val (.int p0), .val (.int p1), .val (.int p2), .val (.int p3), .val (.int p4), .val (.int p5), .unset, .unset, .unset, .unset, .unset, .unset, .unset, .unset] [(.ref a15), (.ref a15)]))) ?_ (fun _ k => XS.dup X24.here hx rfl (hb hby at_24) rfl rfl k)
  refine Ends.step (u' := (T24.setTop (mkF m 26 #[.val (.int p0), .val (.int p1), .val (.int p2), .val (.int p3), .val (.int p4), .val (.int p5), .unset, .unset, .unset, .unset, .unset, .unset, .unset, .unset] [(.int (4 : Int32)), (.ref a15), (.ref a15)]))) ?_ (fun _ k => XT.iconstV X24.here hx rfl (4 : Int32) (hb hby at_25) rfl k)
  refine Ends.step (u' := (T24.setTop (mkF m 28 #[.val (.int p0), .val (.int p1), .val (.int p2), .val (.int p3), .val (.int p4), .val (.int p5), .unset, .unset, .unset, .unset, .unset, .unset, .unset, .unset] [(.int p4), (.int (4 : Int32)), (.ref a15), (.ref a15)]))) ?_ (fun _ k => XS.iload X24.here hx rfl (hb hby at_26) rfl k)
  refine Ends.step (u' := (T24.setTop (mkF m 29 #[.val (.int p0), .val (.int p1), .val (.int p2), .val (.int p3), .val (.int p4), .val (.int p5), .unset, .unset, .unset, .unset, .unset, .unset, .unset, .unset] [(.int ((p4).toInt8.toInt32)), (.int (4 : Int32)), (.ref a15), (.ref a15)]))) ?_ (fun _ k => XT.i2b X24.here hx rfl (hb hby at_28) rfl k)
  refine Ends.bastore X24 hx hZ e24 A24 (by unfold inb; decide) N24 g16 (g := (mkF m 29 #[.val (.int p0), .val (.int p1), .val (.int p2), .val (.int p3), .val (.int p4), .val (.int p5), .unset, .unset, .unset, .unset, .unset, .unset, .unset, .unset] [(.int ((p4).toInt8.toInt32)), (.int (4 : Int32)), (.ref a15), (.ref a15)])) rfl rfl (hb hby at_29) (fun T26 h26 sl26 X26 e26 N26 W26 A26 => ?_)
  show Ends p e below s _ _ _ (T26.setTop (mkF m 30 #[.val (.int p0), .val (.int p1), .val (.int p2), .val (.int p3), .val (.int p4), .val (.int p5), .unset, .unset, .unset, .unset, .unset, .unset, .unset, .unset] [(.ref a15)]))
  have Z27 : n0 ≤ h26.size := W26.size.symm ▸ Z25
  refine Ends.step (u' := (T26.setTop (mkF m 31 #[.val (.int p0), .val (.int p1), .val (.int p2), .val (.int p3), .val (.int p4), .val (.int p5), .unset, .unset, .unset, .unset, .unset, .unset, .unset, .unset] [(.ref a15), (.ref a15)]))) ?_ (fun _ k => XS.dup X26.here hx rfl (hb hby at_30) rfl rfl k)
  refine Ends.step (u' := (T26.setTop (mkF m 32 #[.val (.int p0), .val (.int p1), .val (.int p2), .val (.int p3), .val (.int p4), .val (.int p5), .unset, .unset, .unset, .unset, .unset, .unset, .unset, .unset] [(.int (5 : Int32)), (.ref a15), (.ref a15)]))) ?_ (fun _ k => XT.iconstV X26.here hx rfl (5 : Int32) (hb hby at_31) rfl k)
  refine Ends.step (u' := (T26.setTop (mkF m 34 #[.val (.int p0), .val (.int p1), .val (.int p2), .val (.int p3), .val (.int p4), .val (.int p5), .unset, .unset, .unset, .unset, .unset, .unset, .unset, .unset] [(.int p5), (.int (5 : Int32)), (.ref a15), (.ref a15)]))) ?_ (fun _ k => XS.iload X26.here hx rfl (hb hby at_32) rfl k)
  refine Ends.step (u' := (T26.setTop (mkF m 35 #[.val (.int p0), .val (.int p1), .val (.int p2), .val (.int p3), .val (.int p4), .val (.int p5), .unset, .unset, .unset, .unset, .unset, .unset, .unset, .unset] [(.int ((p5).toInt8.toInt32)), (.int (5 : Int32)), (.ref a15), (.ref a15)]))) ?_ (fun _ k => XT.i2b X26.here hx rfl (hb hby at_34) rfl k)
  refine Ends.bastore X26 hx hZ e26 A26 (by unfold inb; decide) N26 g16 (g := (mkF m 35 #[.val (.int p0), .val (.int p1), .val (.int p2), .val (.int p3), .val (.int p4), .val (.int p5), .unset, .unset, .unset, .unset, .unset, .unset, .unset, .unset] [(.int ((p5).toInt8.toInt32)), (.int (5 : Int32)), (.ref a15), (.ref a15)])) rfl rfl (hb hby at_35) (fun T28 h28 sl28 X28 e28 N28 W28 A28 => ?_)
  show Ends p e below s _ _ _ (T28.setTop (mkF m 36 #[.val (.int p0), .val (.int p1), .val (.int p2), .val (.int p3), .val (.int p4), .val (.int p5), .unset, .unset, .unset, .unset, .unset, .unset, .unset, .unset] [(.ref a15)]))
  have Z29 : n0 ≤ h28.size := W28.size.symm ▸ Z27
  refine Ends.step (u' := (T28.setTop (mkF m 38 #[.val (.int p0), .val (.int p1), .val (.int p2), .val (.int p3), .val (.int p4), .val (.int p5), .val (.ref a15), .unset, .unset, .unset, .unset, .unset, .unset, .unset] []))) ?_ (fun _ k => XS.astore X28.here hx rfl (hb hby at_36) rfl rfl (l' := #[.val (.int p0), .val (.int p1), .val (.int p2), .val (.int p3), .val (.int p4), .val (.int p5), .val (.ref a15), .unset, .unset, .unset, .unset, .unset, .unset, .unset]) rfl k)
  exact b38 T28 _ _ X28 e28 N28 Z29 (upd (upd (upd (upd (upd (upd (fun _ => 0) 0 (nar .byte ((p0).toInt8.toInt32))) 1 (nar .byte ((p1).toInt8.toInt32))) 2 (nar .byte ((p2).toInt8.toInt32))) 3 (nar .byte ((p3).toInt8.toInt32))) 4 (nar .byte ((p4).toInt8.toInt32))) 5 (nar .byte ((p5).toInt8.toInt32))) (.val (.int p0)) (Or.inr ⟨_, rfl, rfl⟩) (.val (.int p1)) (Or.inr ⟨_, rfl, rfl⟩) (.val (.int p2)) (Or.inr ⟨_, rfl, rfl⟩) (.val (.int p3)) (Or.inr ⟨_, rfl, rfl⟩) (.val (.int p4)) (Or.inr ⟨_, rfl, rfl⟩) (.val (.int p5)) (Or.inr ⟨_, rfl, rfl⟩) a15 g16 A28 ok
theorem own_toInt (x : Int32) (h : x.toBitVec.toNat < 2 ^ 31) : x.toInt = x.toBitVec.toNat := by
  show x.toBitVec.toInt = _
  rw [BitVec.toInt_eq_toNat_cond, if_pos (by omega)]
theorem own_nonneg (x : Int32) (h : 0 ≤ x.toInt) : x.toBitVec.toNat < 2 ^ 31 := by
  have h' : 0 ≤ x.toBitVec.toInt := h
  rw [BitVec.toInt_eq_toNat_cond] at h'
  split at h' <;> omega
theorem own_band (x c : Int32) (hc : 0 ≤ c.toInt) : 0 ≤ (x &&& c).toInt ∧ (x &&& c).toInt ≤ c.toInt := by
  have hb := own_nonneg c hc
  have e : (x &&& c).toBitVec.toNat = x.toBitVec.toNat &&& c.toBitVec.toNat := by rw [Int32.toBitVec_and, BitVec.toNat_and]
  have l : x.toBitVec.toNat &&& c.toBitVec.toNat ≤ c.toBitVec.toNat := Nat.and_le_right
  rw [own_toInt (x &&& c) (by omega), own_toInt c hb, e]
  omega
theorem own_inb (j : Int32) (n : Nat) (h0 : 0 ≤ j.toInt) (h1 : j.toInt < n) : inb j n := by
  intro h
  rcases h with h | h
  · rw [Int32.lt_iff_toInt_lt] at h
    have : (0 : Int32).toInt = 0 := rfl
    omega
  · simp only [Int32.toNatClampNeg] at h
    omega
theorem own_n_toInt (i : Nat) (h : i < 2 ^ 31) : (Int32.ofNat i).toInt = i := Int32.toInt_ofNat_of_lt h
theorem own_n_lt (i j : Nat) (hi : i < 2 ^ 31) (hj : j < 2 ^ 31) : Int32.ofNat i < Int32.ofNat j ↔ i < j := by
  rw [Int32.lt_iff_toInt_lt, own_n_toInt i hi, own_n_toInt j hj]; omega
theorem own_n_add (i j : Nat) : Int32.ofNat i + Int32.ofNat j = Int32.ofNat (i + j) := (Int32.ofNat_add i j).symm
theorem own_n_ix (i : Nat) (h : i < 2 ^ 31) : (Int32.ofNat i).toNatClampNeg = i := by
  simp only [Int32.toNatClampNeg, own_n_toInt i h]; omega
theorem own_n_inb (i n : Nat) (h : i < n) (hn : n < 2 ^ 31) : inb (Int32.ofNat i) n :=
  own_inb _ _ (by rw [own_n_toInt i (by omega)]; omega) (by rw [own_n_toInt i (by omega)]; omega)
theorem own_n_ex (x : Int32) (h : 0 ≤ x.toInt) : ∃ n : Nat, n < 2 ^ 31 ∧ x = Int32.ofNat n ∧ x.toInt = n := by
  have := Int32.toInt_lt x
  refine ⟨x.toInt.toNat, by omega, ?_, by omega⟩
  apply Int32.toInt_inj.mp
  rw [own_n_toInt _ (by omega)]
  omega
theorem own_pos_mod (x c : Int32) (hc : 0 < c.toInt) : 0 ≤ ((x &&& (2147483647 : Int32)) % c).toInt ∧ ((x &&& (2147483647 : Int32)) % c).toInt < c.toInt := by
  have h := own_band x 2147483647 (by decide)
  rw [Int32.toInt_mod, Int.tmod_eq_emod_of_nonneg h.1]
  exact ⟨Int.emod_nonneg _ (by omega), Int.emod_lt_of_pos _ hc⟩
theorem own_ushrL (x : Int64) (k : Nat) (hk : k < 64) : (XT.ushrL x (Int32.ofNat k)).toBitVec = x.toBitVec >>> k := by
  have h : ((Int32.ofNat k).toInt64.toUInt64 &&& Int64.toUInt64 63).toBitVec % 64 = BitVec.ofNat 64 k := by
    have : ∀ k : Fin 64, ((Int32.ofNat k.val).toInt64.toUInt64 &&& Int64.toUInt64 63).toBitVec % 64 = BitVec.ofNat 64 k.val := by decide +kernel
    exact this ⟨k, hk⟩
  show (x.toUInt64 >>> _).toBitVec = _
  rw [UInt64.toBitVec_shiftRight, h]
  show x.toBitVec >>> (BitVec.ofNat 64 k) = _
  rw [BitVec.ushiftRight_eq']
  congr 1
  simp
  omega
theorem own_ushr (x : Int32) (k : Nat) (hk : k < 32) : (XT.ushr x (Int32.ofNat k)).toBitVec = x.toBitVec >>> k := by
  have h : ((Int32.ofNat k) &&& 31).toUInt32.toBitVec % 32 = BitVec.ofNat 32 k := by
    have : ∀ k : Fin 32, ((Int32.ofNat k.val) &&& 31).toUInt32.toBitVec % 32 = BitVec.ofNat 32 k.val := by decide +kernel
    exact this ⟨k, hk⟩
  show (x.toUInt32 >>> _).toBitVec = _
  rw [UInt32.toBitVec_shiftRight, h]
  show x.toBitVec >>> (BitVec.ofNat 32 k) = _
  rw [BitVec.ushiftRight_eq']
  congr 1
  simp
  omega
def own_S (f : Nat → Int32) : Nat → Int32
  | 0 => (-2128831035 : Int32)
  | i + 1 => ((own_S f i) ^^^ ((f i) &&& (255 : Int32))) * (16777619 : Int32)
theorem own_loop (K n : Nat) (f : Nat → Int32) (hn : n < 1000) (e : Nat) (he : e ≤ n) : ∀ (d j i : Nat), i + d = e → d < j →
    O1_6 K j n f (Int32.ofNat e) (own_S f i) (Int32.ofNat i) ∧ F1_6 K j n f (Int32.ofNat e) (own_S f i) (Int32.ofNat i) = F1_31 K n f (own_S f e)
  | d, 0, _, _, q => absurd q (Nat.not_lt_zero d)
  | 0, j + 1, i, r, _ => by
    have r' : i = e := by omega
    subst r'
    have c : ¬ Int32.ofNat i < Int32.ofNat i := by rw [own_n_lt _ _ (by omega) (by omega)]; omega
    exact ⟨⟨fun q => absurd q c, fun _ => trivial⟩, if_neg c⟩
  | d + 1, j + 1, i, r, q => by
    have c : Int32.ofNat i < Int32.ofNat e := by rw [own_n_lt _ _ (by omega) (by omega)]; omega
    have ih := own_loop K n f hn e he d j (i + 1) (by omega) (by omega)
    have e1 : Int32.ofNat i + 1 = Int32.ofNat (i + 1) := own_n_add i 1
    have e2 : (Int32.ofNat i).toNatClampNeg = i := own_n_ix i (by omega)
    refine ⟨⟨fun _ => ⟨own_n_inb i n (by omega) (by omega), ?_⟩, fun q => absurd c q⟩, (if_pos c).trans ?_⟩
    · simp only [O1_25, e1, e2]; exact ih.1
    · simp only [F1_11, F1_25, e1, e2]; exact ih.2
theorem own_x16 (x : Int32) : (x ^^^ XT.ushr x 16) ^^^ XT.ushr (x ^^^ XT.ushr x 16) 16 = x := by
  have e : ∀ z : Int32, (XT.ushr z 16).toBitVec = z.toBitVec >>> 16 := fun z => own_ushr z 16 (by decide)
  apply Int32.toBitVec_inj.mp
  rw [Int32.toBitVec_xor, e, Int32.toBitVec_xor, e]
  generalize x.toBitVec = b
  ext i hi
  simp only [BitVec.getElem_xor, BitVec.getElem_ushiftRight, BitVec.getLsbD_xor, BitVec.getLsbD_ushiftRight]
  rw [BitVec.getLsbD_of_ge b (16 + (16 + i)) (by omega)]
  simp
theorem own_x13 (x : Int32) : (x ^^^ XT.ushr x 13) ^^^ (XT.ushr (x ^^^ XT.ushr x 13) 13 ^^^ XT.ushr (x ^^^ XT.ushr x 13) 26) = x := by
  have e : ∀ z : Int32, (XT.ushr z 13).toBitVec = z.toBitVec >>> 13 := fun z => own_ushr z 13 (by decide)
  have e2 : ∀ z : Int32, (XT.ushr z 26).toBitVec = z.toBitVec >>> 26 := fun z => own_ushr z 26 (by decide)
  apply Int32.toBitVec_inj.mp
  simp only [Int32.toBitVec_xor, e, e2]
  generalize x.toBitVec = b
  ext i hi
  simp only [BitVec.getElem_xor, BitVec.getElem_ushiftRight, BitVec.getLsbD_xor, BitVec.getLsbD_ushiftRight]
  rw [BitVec.getLsbD_of_ge b (13 + (26 + i)) (by omega)]
  rw [show 13 + (13 + i) = 26 + i by omega]
  cases b.getLsbD (13 + i) <;> cases b.getLsbD (26 + i) <;> simp
theorem own_m1 (x : Int32) : x * (-1028477387 : Int32) * (2127672349 : Int32) = x := by
  rw [Int32.mul_assoc, show (-1028477387 : Int32) * (2127672349 : Int32) = 1 by decide +kernel, Int32.mul_one]
theorem own_m2 (x : Int32) : x * (-2048144789 : Int32) * (-1513385405 : Int32) = x := by
  rw [Int32.mul_assoc, show (-2048144789 : Int32) * (-1513385405 : Int32) = 1 by decide +kernel, Int32.mul_one]
theorem own_un (K n : Nat) (f : Nat → Int32) (x : Int32) : F2 (F1_31 K n f x) = x := by
  simp only [F2, F2_7, F2_12, F2_24, F2_29, F2_36, F1_31, F1_38, F1_44, F1_51, F1_57, F1_64, own_x16, own_m1, own_x13, own_m2]
theorem own_hash (f : Nat → Int32) (l : Nat) (h : l ≤ 6) : O1 8 (Int32.ofNat l) 6 f ∧ F2 (F1 8 (Int32.ofNat l) 6 f) = own_S f l := by
  have q := own_loop 8 6 f (by decide) l h l 8 0 (by omega) (by omega)
  refine ⟨q.1, ?_⟩
  have e : F1 8 (Int32.ofNat l) 6 f = F1_31 8 6 f (own_S f l) := q.2
  rw [e, own_un]
theorem own_step (f : Nat → Int32) (l : Nat) (x y : Int32) (hx : F2 x = own_S f l) (hy : F2 y = own_S f (l + 1)) : F3 x y (f l) = 1 := by
  have c : (F2 y) = (((F2 x) ^^^ ((f l) &&& (255 : Int32))) * (16777619 : Int32)) := by rw [hx, hy]; rfl
  exact (if_pos c).trans rfl
theorem own_law (i0 : Int32) (i1 : Int32) (i2 : Int32) (i3 : Int32) (i4 : Int32) (i5 : Int32) : ∃ K, O0 K i0 i1 i2 i3 i4 i5 ∧ F0 K i0 i1 i2 i3 i4 i5 = 1 := by
  refine ⟨8, ?_⟩
  have key : ∀ f : Nat → Int32, O0_38 8 f ∧ F0_38 8 f = 1 := by
    intro f
    obtain ⟨a0, b0⟩ : O1 8 0 6 f ∧ F2 (F1 8 0 6 f) = own_S f 0 := own_hash f 0 (by decide)
    obtain ⟨a1, b1⟩ : O1 8 1 6 f ∧ F2 (F1 8 1 6 f) = own_S f 1 := own_hash f 1 (by decide)
    obtain ⟨a2, b2⟩ : O1 8 2 6 f ∧ F2 (F1 8 2 6 f) = own_S f 2 := own_hash f 2 (by decide)
    obtain ⟨a3, b3⟩ : O1 8 3 6 f ∧ F2 (F1 8 3 6 f) = own_S f 3 := own_hash f 3 (by decide)
    obtain ⟨a4, b4⟩ : O1 8 4 6 f ∧ F2 (F1 8 4 6 f) = own_S f 4 := own_hash f 4 (by decide)
    obtain ⟨a5, b5⟩ : O1 8 5 6 f ∧ F2 (F1 8 5 6 f) = own_S f 5 := own_hash f 5 (by decide)
    obtain ⟨a6, b6⟩ : O1 8 6 6 f ∧ F2 (F1 8 6 6 f) = own_S f 6 := own_hash f 6 (by decide)
    refine ⟨⟨a0, a1, a2, a3, a4, a5, a6, trivial⟩, ?_⟩
    have s0 := own_step f 0 _ _ b0 b1
    have s1 := own_step f 1 _ _ b1 b2
    have s2 := own_step f 2 _ _ b2 b3
    have s3 := own_step f 3 _ _ b3 b4
    have s4 := own_step f 4 _ _ b4 b5
    have s5 := own_step f 5 _ _ b5 b6
    have nz : ∀ z : Int32, z = 1 → ¬ z = 0 := fun z q r => by rw [q] at r; exact absurd r (by decide)
    have n0 : (0 : Int32).toNatClampNeg = 0 := by decide
    have n1 : (1 : Int32).toNatClampNeg = 1 := by decide
    have n2 : (2 : Int32).toNatClampNeg = 2 := by decide
    have n3 : (3 : Int32).toNatClampNeg = 3 := by decide
    have n4 : (4 : Int32).toNatClampNeg = 4 := by decide
    have n5 : (5 : Int32).toNatClampNeg = 5 := by decide
    simp only [F0_38, F0_46, F0_54, F0_62, F0_70, F0_78, F0_86, F0_95, F0_105, F0_119, F0_133, F0_147, F0_161, F0_175, n0, n1, n2, n3, n4, n5]
    rw [if_pos (show F2 (F1 8 0 6 f) = (-2128831035 : Int32) from b0), if_neg (nz _ s0), if_neg (nz _ s1), if_neg (nz _ s2), if_neg (nz _ s3), if_neg (nz _ s4), if_neg (nz _ s5)]
    rfl
  exact key _
set_option maxRecDepth 65536 in
set_option maxHeartbeats 40000000 in
theorem comes_1 {Post : Tables → Env → Array Value → State → Outcome → State → Prop} (hpost : ∀ tb e args s v u, (limb_1_1.after args s (.returned v) u = true ∧ limb_1_2.after args s (.returned v) u = true ∧ True) → FrameEnd s (.returned v) u (Jvm.fieldLocs frame_1_writes args s ++ Jvm.arrayLocs frame_1_arrays args s ++ Jvm.staticLocs frame_1_statics s) 16 128 → Post tb e args s (.returned v) u) :
    ArmFor flags0 classFile x code maxLocals ret World_1 tables_1 room_1 Calls_1 rest_1 Pre_1 Post := by
  intro l hfl _ _ p e ha hc hk s m args below hf hA hF happ hP
  obtain ⟨hcalls, hrest, hpre⟩ := hP
  obtain ⟨-, -, -, hnamed, -, -, -, hat⟩ := (Spec.applies_iff hf).mp happ
  obtain ⟨hg, hn⟩ := and_e (Cond.before_iff.mp (show (Jvm.Cond.and given_1 narrow_1).before args s = true from hpre))
  obtain ⟨h1, r0⟩ := and_e hg
  obtain ⟨k0, r1⟩ := and_e r0
  obtain ⟨k1, r2⟩ := and_e r1
  obtain ⟨k2, r3⟩ := and_e r2
  obtain ⟨k3, r4⟩ := and_e r3
  obtain ⟨k4, r5⟩ := and_e r4
  obtain ⟨w0, w1, w2, w3, w4, w5, rfl⟩ : ∃ w0 w1 w2 w3 w4 w5 : Value, args = #[w0, w1, w2, w3, w4, w5] := by
    have hs : args.size = 6 := by simpa [Cond.value, given_1] using h1
    obtain ⟨L⟩ := args
    match L, hs with
    | [w0, w1, w2, w3, w4, w5], _ => exact ⟨w0, w1, w2, w3, w4, w5, rfl⟩
  have hw := fun d (hd : d ∈ tables_1) => atoms_spec (ws := Jvm.Cond.code x code maxLocals ret :: tables_1) hat d (List.mem_cons_of_mem _ hd)
  obtain ⟨i0, e0⟩ := is_v k0
  obtain rfl : w0 = (.int i0) := Option.some.inj e0
  obtain ⟨i1, e1⟩ := is_v k1
  obtain rfl : w1 = (.int i1) := Option.some.inj e1
  obtain ⟨i2, e2⟩ := is_v k2
  obtain rfl : w2 = (.int i2) := Option.some.inj e2
  obtain ⟨i3, e3⟩ := is_v k3
  obtain rfl : w3 = (.int i3) := Option.some.inj e3
  obtain ⟨i4, e4⟩ := is_v k4
  obtain rfl : w4 = (.int i4) := Option.some.inj e4
  obtain ⟨i5, e5⟩ := is_v r5
  obtain rfl : w5 = (.int i5) := Option.some.inj e5
  obtain ⟨K, ok, val⟩ := own_law i0 i1 i2 i3 i4 i5
  obtain ⟨n, o, h1, h2, h3, _, L, rfl, ⟨rfl, N⟩, hq⟩ := rm0 l s _ hw K i0 i1 i2 i3 i4 i5 s.heap s.heap.size (Nat.le_refl _) ok p e ha hc hk s m _ below hf ((Spec.applies_iff_loose hf).mp happ).1 ⟨rfl, State.Warmed39.refl s, rfl⟩ trivial
  refine ⟨n, _, h1, h2, h3, hpost _ _ _ _ _ _ ⟨Cond.after_iff.mpr rfl, Cond.after_iff.mpr (eq_i res_at (Term.int_eval (1)) (by rw [val])), trivial⟩ ⟨hq.1, hq.2.1, (hq.2.2.sift fun y hy => Or.inr (N y hy)).mono (by decide) (by decide)⟩⟩
theorem main_1_1 : Claimed_1_1 := comes_1 fun _ _ _ _ _ _ h hF => ⟨h.1, hF⟩
theorem main_1_2 : Claimed_1_2 := comes_1 fun _ _ _ _ _ _ h hF => ⟨h.2.1, hF⟩
end Jvm.Pilot.@@N@@
namespace Jvm.Pilot.@@N@@
open Jvm Jvm.ClassFile Sem Op Lib Jvm.Free Jvm.Stand Jvm.Pilot.@@N@@.Jvm.D
/-! MADE BY PROGRAM (witnessworld.py) out of the Statement's table words and the real class files: 9 classes; the members and pool entries that the words name. The judged class is class 1, her method 3. -/
namespace start1
open Jvm.ClassFile
def u (s : String) : CpInfo := .utf8 (stringToUtf16 s)
/-- a pool by its gaps: so many unusable entries, then the entry; so many at the end -/
def gap : Nat → List CpInfo → List CpInfo
  | 0, r => r
  | n + 1, r => .unusable :: gap n r
def poolList (es : List (Nat × CpInfo)) (last : Nat) : List CpInfo := es.foldr (fun e r => gap e.1 (e.2 :: r)) (gap last [])
def pool (es : List (Nat × CpInfo)) (last : Nat) : Array CpInfo := ⟨poolList es last⟩
def fileOf (pool : Array CpInfo) (this : Nat) (attrs : Array Attribute := #[]) (ms : Array MethodInfo := #[]) (fl : Nat := 33) (sup : Nat := 0) (ifs : Array Nat := #[]) (fds : Array FieldInfo := #[]) : ClassFile where
  minorVersion := 0
  majorVersion := 65
  constantPool := pool
  accessFlags := fl
  thisClass := this
  superClass := sup
  interfaces := ifs
  fields := fds
  methods := ms
  attributes := attrs
def plain (name : String) (sup : Option ClassId) : Class where
  name := name
  kind := .ordinary
  loader := none
  accessFlags := 33
  super := sup
  interfaces := #[]
  cf := none
  fields := #[]
  methods := #[]
  instanceTypes := #[]
  staticTypes := #[]
  resolved := #[]
  callSites := []
  init := .initialized
  statics := none
  mirror := none

def pool0 : Array CpInfo := pool [(5, u "<init>"), (0, u "()V"), (1, .class_ 10), (1, u "java/lang/Object")] 113

def k0m0 : Method := { name := "<init>", desc := "()V", sig := { parameters := [], returnType := none }, accessFlags := 1, code := none }
/-- java/lang/Object -/
def k0 : Class := { plain "java/lang/Object" none with
  accessFlags := 33
  interfaces := #[]
  cf := some (fileOf pool0 8 #[] #[{ accessFlags := 1, nameIndex := 5, descriptorIndex := 6, attributes := #[] }] 33 0 #[] #[])
  fields := #[]
  methods := #[k0m0]
  instanceTypes := #[]
  staticTypes := #[]
  resolved := Array.replicate 124 none
  statics := none }

def pool1 : Array CpInfo := pool [(2, .class_ 4), (1, u "java/lang/Object"), (0, u "<init>"), (0, u "()V"), (0, .integer 2127672349), (0, .integer 2781581891), (0, .methodref 10 11), (0, .class_ 12), (0, .nameAndType 13 14), (0, u "com/example/taxigraph/taxigraph/TermsHashPinLaw"), (0, u "unmix"), (0, u "(I)I"), (0, .integer 16777619), (0, .methodref 17 18), (0, .class_ 19), (0, .nameAndType 20 21), (0, u "com/example/taxigraph/taxigraph/Terms"), (0, u "hash"), (0, u "([BI)I"), (0, .integer 2166136261), (0, .methodref 10 24), (0, .nameAndType 25 26), (0, u "step"), (0, u "(IIB)Z"), (3, u "law"), (0, u "(IIIIII)Z")] 4

def k1m0 : Method := { name := "<init>", desc := "()V", sig := { parameters := [], returnType := none }, accessFlags := 1, code := none }
def k1c1 : Code := { maxStack := 4, maxLocals := 1, code := method_2_code, exceptionTable := #[], attributes := #[] }
def k1m1 : Method := { name := "unmix", desc := "(I)I", sig := { parameters := [.int], returnType := some .int }, accessFlags := 10, code := some k1c1 }
def k1c2 : Code := { maxStack := 4, maxLocals := 3, code := method_3_code, exceptionTable := #[], attributes := #[] }
def k1m2 : Method := { name := "step", desc := "(IIB)Z", sig := { parameters := [.int, .int, .byte], returnType := some .boolean }, accessFlags := 10, code := some k1c2 }
def k1c3 : Code := { maxStack := 4, maxLocals := 14, code := code, exceptionTable := #[], attributes := #[] }
def k1m3 : Method := { name := "law", desc := "(IIIIII)Z", sig := { parameters := [.int, .int, .int, .int, .int, .int], returnType := some .boolean }, accessFlags := 9, code := some k1c3 }
/-- com/example/taxigraph/taxigraph/TermsHashPinLaw -/
def k1 : Class := { plain "com/example/taxigraph/taxigraph/TermsHashPinLaw" (some 0) with
  accessFlags := 49
  interfaces := #[]
  cf := some (fileOf pool1 10 #[] #[{ accessFlags := 1, nameIndex := 5, descriptorIndex := 6, attributes := #[] }, { accessFlags := 10, nameIndex := 13, descriptorIndex := 14, attributes := #[] }, { accessFlags := 10, nameIndex := 25, descriptorIndex := 26, attributes := #[] }, { accessFlags := 9, nameIndex := 30, descriptorIndex := 31, attributes := #[] }] 49 2 #[] #[])
  fields := #[]
  methods := #[k1m0, k1m1, k1m2, k1m3]
  instanceTypes := #[]
  staticTypes := #[]
  resolved := Array.replicate 36 none
  statics := none }

def pool2 : Array CpInfo := pool [(2, .class_ 4), (1, u "java/lang/Object"), (3, .class_ 10), (1, u "com/example/taxigraph/taxigraph/Terms"), (0, u "bytes"), (0, u "Lcom/example/taxigraph/taxigraph/StoreFile$Bytes;"), (2, u "starts"), (0, u "Lcom/example/taxigraph/taxigraph/StoreFile$Ints;"), (2, u "table"), (2, u "size"), (0, u "I"), (2, u "growing"), (0, u "Z"), (2, u "file"), (0, u "Lcom/example/taxigraph/taxigraph/StoreFile;"), (131, u "hash"), (116, u "([BI)I"), (54, .integer 2166136261), (0, .integer 16777619), (0, .integer 2246822507), (0, .integer 3266489909), (0, u "IRI"), (0, u "B"), (2, u "BLANK_NODE"), (1, u "STRING"), (1, u "TAGGED"), (1, u "TYPED")] 58

def k2c0 : Code := { maxStack := 3, maxLocals := 4, code := prog_128_method_25_code, exceptionTable := #[], attributes := #[] }
def k2m0 : Method := { name := "hash", desc := "([BI)I", sig := { parameters := [(.array .byte), .int], returnType := some .int }, accessFlags := 8, code := some k2c0 }
/-- com/example/taxigraph/taxigraph/Terms -/
def k2 : Class := { plain "com/example/taxigraph/taxigraph/Terms" (some 0) with
  accessFlags := 48
  interfaces := #[]
  cf := some (fileOf pool2 8 #[] #[{ accessFlags := 8, nameIndex := 163, descriptorIndex := 280, attributes := #[] }] 48 2 #[] #[{ accessFlags := 24, nameIndex := 339, descriptorIndex := 340, attributes := #[] }, { accessFlags := 24, nameIndex := 343, descriptorIndex := 340, attributes := #[] }, { accessFlags := 24, nameIndex := 345, descriptorIndex := 340, attributes := #[] }, { accessFlags := 24, nameIndex := 347, descriptorIndex := 340, attributes := #[] }, { accessFlags := 24, nameIndex := 349, descriptorIndex := 340, attributes := #[] }, { accessFlags := 2, nameIndex := 11, descriptorIndex := 12, attributes := #[] }, { accessFlags := 2, nameIndex := 15, descriptorIndex := 16, attributes := #[] }, { accessFlags := 2, nameIndex := 19, descriptorIndex := 16, attributes := #[] }, { accessFlags := 2, nameIndex := 22, descriptorIndex := 23, attributes := #[] }, { accessFlags := 18, nameIndex := 26, descriptorIndex := 27, attributes := #[] }, { accessFlags := 18, nameIndex := 30, descriptorIndex := 31, attributes := #[] }])
  fields := #[{ name := "IRI", type := .byte, accessFlags := 24, slot := 0, constantValue := 0 }, { name := "BLANK_NODE", type := .byte, accessFlags := 24, slot := 1, constantValue := 0 }, { name := "STRING", type := .byte, accessFlags := 24, slot := 2, constantValue := 0 }, { name := "TAGGED", type := .byte, accessFlags := 24, slot := 3, constantValue := 0 }, { name := "TYPED", type := .byte, accessFlags := 24, slot := 4, constantValue := 0 }, { name := "bytes", type := (.object "com/example/taxigraph/taxigraph/StoreFile$Bytes"), accessFlags := 2, slot := 0, constantValue := 0 }, { name := "starts", type := (.object "com/example/taxigraph/taxigraph/StoreFile$Ints"), accessFlags := 2, slot := 1, constantValue := 0 }, { name := "table", type := (.object "com/example/taxigraph/taxigraph/StoreFile$Ints"), accessFlags := 2, slot := 2, constantValue := 0 }, { name := "size", type := .int, accessFlags := 2, slot := 3, constantValue := 0 }, { name := "growing", type := .boolean, accessFlags := 18, slot := 4, constantValue := 0 }, { name := "file", type := (.object "com/example/taxigraph/taxigraph/StoreFile"), accessFlags := 18, slot := 5, constantValue := 0 }]
  methods := #[k2m0]
  instanceTypes := #[(.object "com/example/taxigraph/taxigraph/StoreFile$Bytes"), (.object "com/example/taxigraph/taxigraph/StoreFile$Ints"), (.object "com/example/taxigraph/taxigraph/StoreFile$Ints"), .int, .boolean, (.object "com/example/taxigraph/taxigraph/StoreFile")]
  staticTypes := #[.byte, .byte, .byte, .byte, .byte]
  resolved := Array.replicate 408 none
  statics := none }

def pool3 : Array CpInfo := pool [(1, u "java/lang/Cloneable"), (0, .class_ 1), (0, u "java/lang/Object"), (0, .class_ 3)] 3

/-- java/lang/Cloneable -/
def k3 : Class := { plain "java/lang/Cloneable" (some 0) with
  accessFlags := 1537
  interfaces := #[]
  cf := some (fileOf pool3 2 #[] #[] 1537 4 #[] #[])
  fields := #[]
  methods := #[]
  instanceTypes := #[]
  staticTypes := #[]
  resolved := Array.replicate 8 none
  statics := none }

def pool4 : Array CpInfo := pool [(1, u "java/io/Serializable"), (0, .class_ 1), (0, u "java/lang/Object"), (0, .class_ 3)] 3

/-- java/io/Serializable -/
def k4 : Class := { plain "java/io/Serializable" (some 0) with
  accessFlags := 1537
  interfaces := #[]
  cf := some (fileOf pool4 2 #[] #[] 1537 4 #[] #[])
  fields := #[]
  methods := #[]
  instanceTypes := #[]
  staticTypes := #[]
  resolved := Array.replicate 8 none
  statics := none }

/-- the primitive byte -/
def k5 : Class := { plain "byte" none with kind := .primitive 'B', accessFlags := 0x411 }
/-- [B -/
def k6 : Class := { plain "[B" (some 0) with kind := .array 5 .byte, interfaces := #[3, 4], accessFlags := 1041 }

/-- the primitive int -/
def k7 : Class := { plain "int" none with kind := .primitive 'I', accessFlags := 0x411 }
/-- [I -/
def k8 : Class := { plain "[I" (some 0) with kind := .array 7 .int, interfaces := #[3, 4], accessFlags := 1041 }

def heap : Heap := #[]
def classes : Array Class := #[k0, k1, k2, k3, k4, k5, k6, k7, k8]
def interned : List (Array UInt16 × Addr) := []
def slotsUsed : Nat := 0
def theMethod : MethodId := ⟨1, 3⟩
def args0 : Array Value := #[.int 5, .int 7, .int 3, .int 2, .int 9, .int 4]
def aboutOver (below : List Frame) : State where
  vm := { classes := classes, interned := interned.toArray }
  heap := heap
  slotsUsed := slotsUsed
  threads := #[{ frames := .invoking theMethod args0 :: below }]
def below0 : List Frame := [.native { method := ⟨0, 0⟩, args := #[] }]
def about1 : State := aboutOver below0
def p0 : Program := .bare "" "" ""
def e0 : Env := launch0.env 0 0 0
theorem w_frames : about1.frames = Frame.invoking theMethod args0 :: below0 := rfl
set_option maxRecDepth 65536 in
theorem w_args : argsFit about1.vm theMethod args0 = true := by decide +kernel
set_option maxRecDepth 65536 in
theorem w_heap : heapFits about1 = true := by decide +kernel
set_option maxRecDepth 65536 in
theorem w_runnable : about1.curStatus? = some .runnable := by decide +kernel
set_option maxRecDepth 65536 in
theorem w_alone : about1.alone = true := by decide +kernel
set_option maxRecDepth 65536 in
theorem w_named : about1.methodNamed? x = some theMethod := by decide +kernel
set_option maxRecDepth 65536 in
theorem w_hears : about1.hears theMethod below0 = true := by decide +kernel
set_option maxRecDepth 65536 in
theorem w_ripe : about1.ripe theMethod args0 below0 = true := by decide +kernel
theorem w_running : about1.status = .running := rfl
set_option maxRecDepth 65536 in
theorem w_room : about1.hasRoom e0.platform room_1 = true :=
  launch0.hasRoom_least _ room_1 (by decide +kernel) (by decide +kernel) (by decide +kernel) (by decide +kernel) (by decide +kernel) (by decide +kernel)
theorem allAtoms_all (ts : List Jvm.Cond) (a : Array Jvm.Value) (st : Jvm.State) : (allAtoms ts).before a st = ts.all (fun c => c.before a st) := by
  induction ts with
  | nil => rfl
  | cons c t ih =>
    show (Jvm.Cond.and c (allAtoms t)).before a st = _
    rw [Jvm.Cond.before_and, ih, List.all_cons]
def words1 : List Jvm.Cond := Jvm.Cond.code x code maxLocals ret :: tables_1
/-- a 'code' word, met by the world's own term for the bytes: nothing is compared byte by byte -/
theorem code_word {y : MethodName} {bytes : ByteArray} {mx : Nat} {rt : Option FieldType} {a : Array Value} {s : State} {m : MethodId} {meth : Method} {c : Code} (h1 : s.methodNamed? y = some m) (h2 : s.vm.method? m = some meth) (h3 : meth.code = some c) (h4 : c.code = bytes)
    (h5 : (c.maxLocals == mx && c.exceptionTable.isEmpty && decide (c.maxStack ≤ mostOperands) && decide (meth.sig.returnType = rt) && !meth.locks && decide (parseMethodDescriptor y.desc = some meth.sig)) = true) : (Jvm.Cond.code y bytes mx rt).before a s = true := by
  simp only [Bool.and_eq_true, beq_iff_eq, Bool.not_eq_true', decide_eq_true_eq] at h5
  obtain ⟨⟨⟨⟨⟨g1, g2⟩, g3⟩, g4⟩, g5⟩, g6⟩ := h5
  simp [Cond.before, Cond.holds, Cond.value, h1, h2, h3, h4, g1, g2, g3, g4, g5, g6]
def isCode : Jvm.Cond → Bool
  | .code _ _ _ _ => true
  | _ => false
theorem all_split {L : List Jvm.Cond} {P : Jvm.Cond → Bool} (h1 : L.all (fun c => isCode c || P c) = true) (h2 : ∀ c ∈ L.filter isCode, P c = true) : L.all P = true := by
  refine List.all_eq_true.mpr fun c hc => ?_
  have h := List.all_eq_true.mp h1 c hc
  rcases Bool.eq_false_or_eq_true (isCode c) with hi | hi
  · exact h2 c (List.mem_filter.mpr ⟨hc, hi⟩)
  · simpa [hi] using h
set_option maxRecDepth 65536 in
theorem w_c0 : (Jvm.Cond.code x code maxLocals ret).before args0 about1 = true := code_word (m := ⟨1, 3⟩) (meth := k1m3) (c := k1c3) (by decide +kernel) rfl rfl rfl (by decide +kernel)
set_option maxRecDepth 65536 in
theorem w_c1 : (Jvm.Cond.code ({ cls := "com/example/taxigraph/taxigraph/Terms", name := "hash", desc := "([BI)I" } : Jvm.MethodName) prog_128_method_25_code (4 : Nat) (Option.some Jvm.ClassFile.FieldType.int)).before args0 about1 = true := code_word (m := ⟨2, 0⟩) (meth := k2m0) (c := k2c0) (by decide +kernel) rfl rfl rfl (by decide +kernel)
set_option maxRecDepth 65536 in
theorem w_c2 : (Jvm.Cond.code ({ cls := "com/example/taxigraph/taxigraph/TermsHashPinLaw", name := "unmix", desc := "(I)I" } : Jvm.MethodName) method_2_code (1 : Nat) (Option.some Jvm.ClassFile.FieldType.int)).before args0 about1 = true := code_word (m := ⟨1, 1⟩) (meth := k1m1) (c := k1c1) (by decide +kernel) rfl rfl rfl (by decide +kernel)
set_option maxRecDepth 65536 in
theorem w_c3 : (Jvm.Cond.code ({ cls := "com/example/taxigraph/taxigraph/TermsHashPinLaw", name := "step", desc := "(IIB)Z" } : Jvm.MethodName) method_3_code (3 : Nat) (Option.some Jvm.ClassFile.FieldType.boolean)).before args0 about1 = true := code_word (m := ⟨1, 2⟩) (meth := k1m2) (c := k1c2) (by decide +kernel) rfl rfl rfl (by decide +kernel)
def codes1 : List Jvm.Cond := [Jvm.Cond.code x code maxLocals ret, Jvm.Cond.code ({ cls := "com/example/taxigraph/taxigraph/Terms", name := "hash", desc := "([BI)I" } : Jvm.MethodName) prog_128_method_25_code (4 : Nat) (Option.some Jvm.ClassFile.FieldType.int), Jvm.Cond.code ({ cls := "com/example/taxigraph/taxigraph/TermsHashPinLaw", name := "unmix", desc := "(I)I" } : Jvm.MethodName) method_2_code (1 : Nat) (Option.some Jvm.ClassFile.FieldType.int), Jvm.Cond.code ({ cls := "com/example/taxigraph/taxigraph/TermsHashPinLaw", name := "step", desc := "(IIB)Z" } : Jvm.MethodName) method_3_code (3 : Nat) (Option.some Jvm.ClassFile.FieldType.boolean)]
set_option maxRecDepth 65536 in
theorem codes_eq : words1.filter isCode = codes1 := rfl
theorem w_codes : ∀ c ∈ words1.filter isCode, c.before args0 about1 = true := by
  rw [codes_eq]
  intro c hc
  simp only [codes1, List.mem_cons, List.not_mem_nil, or_false] at hc
  rcases hc with rfl | rfl | rfl | rfl
  · exact w_c0
  · exact w_c1
  · exact w_c2
  · exact w_c3
set_option maxRecDepth 65536 in
theorem w_t1 : words1.all (fun c => isCode c || c.before args0 about1) = true := by decide +kernel
theorem w_tables : (allAtoms (Jvm.Cond.code x code maxLocals ret :: tables_1)).before args0 about1 = true := by
  rw [allAtoms_all]
  show words1.all (fun c => c.before args0 about1) = true
  refine all_split ?_ w_codes
  rw [w_t1]
set_option maxRecDepth 65536 in
theorem w_case : (Jvm.Cond.and given_1 narrow_1).before args0 about1 = true := by decide +kernel
theorem w_applies : (headSpec (Jvm.Cond.code x code maxLocals ret :: tables_1) room_1).applies x e0.platform about1 = true :=
  (Spec.applies_iff w_frames).mpr ⟨w_running, w_runnable, w_alone, w_named, w_hears, w_ripe, w_room, w_tables⟩
theorem atStart : AtStart classFile x code maxLocals ret World_1 tables_1 room_1 Calls_1 rest_1 Pre_1 launch0 p0 e0 about1 theMethod args0 below0 :=
  ⟨lists_1, trivial, launch0.admits_env _ _ _, launch0.least_env, fairChoices_fair.cas, fairChoices_fair.clock, w_frames, w_args, w_heap, w_applies, trivial, trivial, w_case⟩
end start1
theorem witness_1 : WitnessClaimed_1 := ⟨start1.p0, start1.e0, start1.about1, start1.theMethod, start1.args0, start1.below0, start1.atStart⟩
end Jvm.Pilot.@@N@@
