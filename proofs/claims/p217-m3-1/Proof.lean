import JvmDerived
import JvmDerived.Pilot.@@N@@Statement
import JvmDerived.Pilot.@@N@@Code
set_option linter.unusedVariables false
set_option linter.unusedSimpArgs false
namespace Jvm.RoadKit
open Sem ClassFile Op Lib Jvm.Stand Jvm.Free Jvm.LawKit
section New
variable {p : Program} {l : Launch} {e : Env} {R : Room} {s : State} {m : MethodId} {args : Array Value} {below : List Frame} {meth : Method} {c : Code} {T : State} {locs : List Loc} {cells slots : Nat}
theorem retI (X : Stand p l e R s m args below meth c T locs cells slots) (hx : p.tables.exec = Jvm.exec) {pc : Nat} {Ls : Array Slot} {z : Int32} {rest : List Value} (hret : meth.sig.returnType = some .int) (hd : decode c.code pc = .ok (.ireturn, 1)) {fs : List Frame}
    (hl : ∀ (f : JFrame) (acts : List Action), f.method = m → f.locked = none → f.entered = [] → (doReturn e (T.setTop f) acts (some (.int z))).1 = T.setFrames fs) : Steps p.tables e below (T.setTop (mkF m pc Ls (.int z :: rest))) (T.setFrames fs) := by
  have hm' : T.vm.method? m = some meth := X.method'
  have hn : narrow .int (.int z) = .int z := rfl
  show Steps p.tables e below (T.setTop { method := m, pc := pc, locals := Ls, stack := _ :: rest, locked := none }) _
  jvm_step X.here [X.here.top, hx, hd, hm', hret, hn]
  first | (intro acts; rw [hl _ acts rfl rfl rfl]) | rw [hl _ _ rfl rfl rfl]
  exact Steps.refl _
end New
end Jvm.RoadKit
namespace Jvm.Pilot.@@N@@
open Jvm Jvm.ClassFile Sem Op Lib Jvm.Free Jvm.Stand Jvm.LawKit Jvm.RoadKit Bundle Jvm.Pilot.@@N@@.Jvm.D
/-! ### the frame of this text: 'Ends': the run from u ends in a return that Q says -/
section OwnFrame
variable {p : Program} {l : Launch} {e : Env} {R : Room} {s : State} {m : MethodId} {args : Array Value} {below : List Frame} {meth : Method} {c : Code} {T : State} {locs : List Loc} {cells slots cs ss : Nat} {Z : State} {a0 : Array Value} {h h' : Heap} {Q : Option Value → Heap → List Loc → Prop} {u u' : State}
def Ends (p : Program) (e : Env) (below : List Frame) (s : State) (cs ss : Nat) (Q : Option Value → Heap → List Loc → Prop) (u : State) : Prop :=
  ∃ t v L, Steps p.tables e below u t ∧ t.status = .running ∧ Ended t below (.returned v) ∧ Q v t.heap L ∧ s.WarmedH t.vm ∧ s.sameButNew ({ t with vm := s.vm } : State) L cs ss
theorem Ends.step (h : Ends p e below s cs ss Q u') (k : ∀ t, Steps p.tables e below u' t → Steps p.tables e below u t) : Ends p e below s cs ss Q u := by
  obtain ⟨t, v, L, h1, r⟩ := h; exact ⟨t, v, L, k t h1, r⟩
theorem Ends.ret (X : Stand p l e R s m args below meth c T locs cells slots) {v : Option Value} (hv : meth.sig.returnType = none → v = none) (hlk : meth.locks = false)
    (k : ∀ fs, (∀ (f : JFrame) (acts : List Action), f.method = m → f.locked = none → f.entered = [] → (doReturn e (T.setTop f) acts v).1 = T.setFrames fs) → Steps p.tables e below u (T.setFrames fs))
    (hc : cells ≤ cs) (hs : slots ≤ ss) (hq : Q v T.heap locs) : Ends p e below s cs ss Q u := by
  obtain ⟨fs, hr, hrun, hended, hW, hsame⟩ := X.leave (v := v) hv hlk
  exact ⟨T.setFrames fs, v, locs, k fs hr, hrun, hended, hq, hW, hsame.mono hc hs⟩
/-- what a body promises -/
abbrev Meets (l : Launch) (Z : State) (y : MethodName) (bytes : ByteArray) (maxL : Nat) (ret : Option FieldType) (ws : List Jvm.Cond) (rm : Room) (as' : Array Value) (h : Heap) (Q : Option Value → Heap → List Loc → Prop) (cs ss : Nat) : Prop :=
  MetFree l y (head1 (Jvm.Cond.code y bytes maxL ret :: ws) rm) (fun a U => a = as' ∧ Z.Warmed39 U.vm ∧ U.heap = h) (fun _ _ _ _ _ => True) (fun _ U o U' => ∃ v L, o = .returned v ∧ Q v U'.heap L ∧ FrameEnd U o U' L cs ss)
theorem Meets.of {y : MethodName} {bytes : ByteArray} {maxL : Nat} {ret : Option FieldType} {ws : List Jvm.Cond} {rm : Room} {as' : Array Value} (pn : plainFor y = true)
    (k : ∀ (p : Program) (e : Env) (s : State) (m : MethodId) (below : List Frame) (meth : Method) (c : Code) (s₁ : State), p.tables.exec = Jvm.exec → c.code = bytes → c.maxLocals = maxL → Z.Warmed39 s.vm → s.vm.findClass y.cls = some m.cls → meth.name = y.name → meth.sig.returnType = ret → meth.locks = false →
      Stand p l e rm s m as' below meth c s₁ [] 0 0 → s₁.heap = h → Ends p e below s cs ss Q (s₁.setTop (entryFrame m as' maxL))) : Meets l Z y bytes maxL ret ws rm as' h Q cs ss := by
  refine MetFree.of_bodySF pn hisR ?_
  intro p e s m args below meth c s₁ Bd hml0 hP hK
  obtain ⟨rfl, hZ, hh⟩ := hP
  obtain ⟨t, v, L, h1, h2, h3, h4, h5, h6⟩ := k p e s m below meth c s₁ Bd.exec Bd.bytes hml0 hZ (findClass_of_methodNamed Bd.named) (name_of_methodNamed Bd.named Bd.method).1 Bd.returns (BodyLoose.notSynchronized Bd) (Stand.of_body Bd) (by rw [← hh, Bd.state]; rfl)
  exact ⟨t, .returned v, h1, h2, h3, v, L, rfl, h4, ⟨_, rfl⟩, h5, h6⟩
theorem Ends.callS (X : Stand p l e R s m args below meth c T locs cells slots) (hx : p.tables.exec = Jvm.exec) (hZ : Z.Warmed39 s.vm) {own : String} {index : Nat} {y : MethodName} {bytes : ByteArray} {maxL : Nat} {ret : Option FieldType}
    (hown : s.vm.findClass own = some m.cls) (w1 : (Jvm.Cond.methodLink own index y).before a0 Z = true) (w2 : (Jvm.Cond.static y).before a0 Z = true) (w3 : (Jvm.Cond.initialized y.cls).before a0 Z = true) (w4 : (Jvm.Cond.code y bytes maxL ret).before a0 Z = true)
    (hy : y.cls ≠ "java/lang/invoke/MethodHandle" ∧ y.cls ≠ "java/lang/invoke/VarHandle") {rm : Room} {as' : Array Value} {Q' : Option Value → Heap → List Loc → Prop} (hM : Meets l Z y bytes maxL ret [] rm as' h Q' rm.cells rm.slots)
    (W : Nat) (hf : rm.frames + 1 ≤ R.frames) (hl : W + (maxL + 11) + rm.locals ≤ R.locals) (eT : T.heap = h) {g : JFrame} (hg : g.method = m) (hsize : g.locals.size = c.maxLocals) (argsL rest : List Value)
    (hlen : ∀ sig, parseMethodDescriptor y.desc = some sig → argsL.length = sig.parameters.length) (hstack : g.stack = argsL.reverse ++ rest) (hW : 2 * g.monitorRoom + (rest.map fun v => v.category).sum ≤ W) (hdg : decode c.code g.pc = .ok (.invokestatic index, 3))
    (ha : argsL.toArray = as') (hc : cells + rm.cells ≤ R.cells) (hs : slots + rm.slots ≤ R.slots)
    (k : ∀ v T' L, Stand p l e R s m args below meth c T' (locs ++ L) (cells + rm.cells) (slots + rm.slots) → Q' v T'.heap L → Ends p e below s cs ss Q (T'.setTop { g with pc := g.pc + 3, stack := v.toList ++ rest })) : Ends p e below s cs ss Q (T.setTop g) := by
  obtain ⟨v, _, ⟨T', L', k', n'⟩, -, X', ⟨Lc, hQ, rfl, rfl, rfl⟩, st⟩ := Jvm.LawKit.callS X hx (y := y) hown (mvT hZ w1) (mvT hZ w2) (mvT hZ w3) (mvT hZ w4) hy (backOf (W := W) hM hZ w4 w3 hf hl) hg hsize (argsL := argsL) (rest := rest) hlen hstack hW hdg (fun _ _ => ⟨ha, eT, hc, hs⟩)
  exact (k v T' Lc X' hQ).step st
theorem Ends.callC (X : Stand p l e R s m args below meth c T locs cells slots) (hx : p.tables.exec = Jvm.exec) (hZ : Z.Warmed39 s.vm) {own : String} {index : Nat} {y : MethodName} {bytes : ByteArray} {maxL : Nat} (hy1 : y.name = "<init>")
    (hown : s.vm.findClass own = some m.cls) (w1 : (Jvm.Cond.methodLink own index y).before a0 Z = true) (w2 : (Jvm.Cond.instanceMethod y).before a0 Z = true) (w3 : (Jvm.Cond.initialized y.cls).before a0 Z = true) (w4 : (Jvm.Cond.code y bytes maxL none).before a0 Z = true)
    (hy : y.cls ≠ "java/lang/invoke/MethodHandle" ∧ y.cls ≠ "java/lang/invoke/VarHandle") {rm : Room} {as' : Array Value} {Q' : Option Value → Heap → List Loc → Prop} (hM : Meets l Z y bytes maxL none [] rm as' h Q' rm.cells rm.slots)
    (W : Nat) (hf : rm.frames + 1 ≤ R.frames) (hl : W + (maxL + 11) + rm.locals ≤ R.locals) (eT : T.heap = h) {g : JFrame} (hg : g.method = m) (hsize : g.locals.size = c.maxLocals) (a : Addr) (argsL rest : List Value)
    (hlen : ∀ sig, parseMethodDescriptor y.desc = some sig → argsL.length = sig.parameters.length) (hstack : g.stack = argsL.reverse ++ .ref a :: rest) (hW : 2 * g.monitorRoom + (rest.map fun v => v.category).sum ≤ W) (hdg : decode c.code g.pc = .ok (.invokespecial index, 3))
    (ha : (.ref a :: argsL).toArray = as') (hc : cells + rm.cells ≤ R.cells) (hs : slots + rm.slots ≤ R.slots)
    (k : ∀ v T' L, Stand p l e R s m args below meth c T' (locs ++ L) (cells + rm.cells) (slots + rm.slots) → Q' v T'.heap L → Ends p e below s cs ss Q (T'.setTop { g with pc := g.pc + 3, stack := v.toList ++ rest })) : Ends p e below s cs ss Q (T.setTop g) := by
  obtain ⟨v, _, ⟨T', L', k', n'⟩, -, X', ⟨Lc, hQ, rfl, rfl, rfl⟩, st⟩ := X.specialBack hx (y := y) hy1 hown (mvT hZ w1) (mvT hZ w2) (mvT hZ w4) hy (backOf (W := W) hM hZ w4 w3 hf hl) hg hsize (Steps.refl _) (a := a) (argsL := argsL) (rest := rest) hlen hstack hW hdg (fun _ _ => ⟨ha, eT, hc, hs⟩)
  exact (k v T' Lc X' hQ).step (fun _ q => st.trans q)
theorem Ends.callV (X : Stand p l e R s m args below meth c T locs cells slots) (hx : p.tables.exec = Jvm.exec) (hZ : Z.Warmed39 s.vm) {own C : String} {index : Nat} {y : MethodName} {bytes : ByteArray} {maxL : Nat} {ret : Option FieldType}
    (hown : s.vm.findClass own = some m.cls) (w1 : (Jvm.Cond.methodLink own index y).before a0 Z = true) (wd : (Jvm.Cond.declares y).before a0 Z = true) (wsel : (Jvm.Cond.selects C y y).before a0 Z = true) (w2 : (Jvm.Cond.instanceMethod y).before a0 Z = true) (w3 : (Jvm.Cond.initialized y.cls).before a0 Z = true) (w4 : (Jvm.Cond.code y bytes maxL ret).before a0 Z = true)
    (hy : y.cls ≠ "java/lang/invoke/MethodHandle" ∧ y.cls ≠ "java/lang/invoke/VarHandle") {rm : Room} {as' : Array Value} {Q' : Option Value → Heap → List Loc → Prop} (hM : Meets l Z y bytes maxL ret [] rm as' h Q' rm.cells rm.slots)
    (W : Nat) (hf : rm.frames + 1 ≤ R.frames) (hl : W + (maxL + 11) + rm.locals ≤ R.locals) (eT : T.heap = h) (a : Addr) (E : Exa Z h a C) {g : JFrame} (hg : g.method = m) (hsize : g.locals.size = c.maxLocals) (argsL rest : List Value)
    (hlen : ∀ sig, parseMethodDescriptor y.desc = some sig → argsL.length = sig.parameters.length) (hstack : g.stack = argsL.reverse ++ .ref a :: rest) (hW : 2 * g.monitorRoom + (rest.map fun v => v.category).sum ≤ W) (hdg : decode c.code g.pc = .ok (.invokevirtual index, 3))
    (ha : (.ref a :: argsL).toArray = as') (hc : cells + rm.cells ≤ R.cells) (hs : slots + rm.slots ≤ R.slots)
    (k : ∀ v T' L, Stand p l e R s m args below meth c T' (locs ++ L) (cells + rm.cells) (slots + rm.slots) → Q' v T'.heap L → Ends p e below s cs ss Q (T'.setTop { g with pc := g.pc + 3, stack := v.toList ++ rest })) : Ends p e below s cs ss Q (T.setTop g) := by
  obtain ⟨cq, kq, q1, q2, q3⟩ := isOf (T := T) hZ eT E
  obtain ⟨v, _, ⟨T', L', k', n'⟩, -, X', ⟨Lc, hQ, rfl, rfl, rfl⟩, st⟩ := X.virtualBack hx (y := y) (z := y) hown (mvT hZ w1) (mvT hZ wd) (notFace_of_selects (args := #[]) (mvT hZ wsel)) (mvT hZ wsel) (mvT hZ w2) hy (backOf (W := W) hM hZ w4 w3 hf hl) q1 q3 hg hsize (Steps.refl _) (argsL := argsL) (rest := rest) hlen hstack hW hdg (fun _ _ => ⟨ha, eT, hc, hs⟩)
  exact (k v T' Lc X' hQ).step (fun _ q => st.trans q)
/-! ### arrays of small numbers: what each place holds, as a function -/
def Ar (Z : State) (h : Heap) (a : Addr) (ty : FieldType) (n : Nat) (f : Nat → Int32) : Prop := ∃ cl : Cell, Arr Z h a cl ty ∧ cl.slots.size = n ∧ n < 2 ^ 31 ∧ ∀ i, i < n → cl.slots[i]? = some (.int (f i))
def upd (f : Nat → Int32) (j : Nat) (v : Int32) : Nat → Int32 := fun i => if i = j then v else f i
def inb (j : Int32) (n : Nat) : Prop := ¬ (j < 0 ∨ n ≤ j.toNatClampNeg)
variable {a b : Addr} {ty : FieldType} {n sl : Nat} {f : Nat → Int32} {v : Value} {wsA : List Addr}
theorem Ar.lt (A : Ar Z h a ty n f) : a < h.size := by obtain ⟨cl, A1, -⟩ := A; exact A1.lt
theorem Ar.ext (A : Ar Z h a ty n f) (E : Ext h h') : Ar Z h' a ty n f := by obtain ⟨cl, A1, r⟩ := A; exact ⟨cl, A1.ext E, r⟩
theorem Ar.other (A : Ar Z h b ty n f) (W : Wr h h' a sl v) (q : b ≠ a) : Ar Z h' b ty n f := by obtain ⟨cl, A1, r⟩ := A; exact ⟨cl, A1.other W q, r⟩
theorem Ar.keep (A : Ar Z h a ty n f) (K : Keep h h' wsA) (q : a ∉ wsA) : Ar Z h' a ty n f := by obtain ⟨cl, A1, r⟩ := A; exact ⟨cl, ⟨K.2.1 a cl A1.1 q, A1.2⟩, r⟩
theorem Ar.small (A : Ar Z h a ty n f) : n < 2 ^ 31 := by obtain ⟨cl, A1, -, r, -⟩ := A; exact r
theorem Ar.set {j : Int32} {x : Int32} (A : Ar Z h a ty n f) (W : Wr h h' a j.toNatClampNeg (.int x)) : Ar Z h' a ty n (upd f j.toNatClampNeg x) := by
  obtain ⟨cl, A1, r1, r2, r3⟩ := A
  refine ⟨_, A1.same W, by rw [sz_set]; exact r1, r2, fun i hi => ?_⟩
  by_cases q : i = j.toNatClampNeg
  · subst q; simp [Cell.setSlot, upd, r1, hi]
  · simp only [Cell.setSlot, upd, if_neg q]; rw [Array.getElem?_setIfInBounds_ne (fun z => q z.symm)]; exact r3 i hi
theorem Ar.new {cA : ClassId} {k : Int32} (A : Arr Z h a (newA cA ty k) ty) (q : ¬ k < 0) (hd : defaultValue ty = .int 0) : Ar Z h a ty k.toNatClampNeg (fun _ => 0) :=
  ⟨_, A, sz_new _ _ _, (back32 q).2, fun i hi => by simp [newA, hi, hd]⟩
theorem Ends.newA (X : Stand p l e R s m args below meth c T locs cells slots) (hx : p.tables.exec = Jvm.exec) (hZ : Z.Warmed39 s.vm) {aty : ArrayType} (w : (Jvm.Cond.arrayClass (newarray.typeOf aty)).before a0 Z = true) (eT : T.heap = h) {g : JFrame} (hg : g.method = m) (hd : decode c.code g.pc = .ok (.newarray aty, 2)) {k : Int32} {rest : List Value} (hs : g.stack = .int k :: rest)
    (hdf : defaultValue (newarray.typeOf aty) = .int 0) (hn : ¬ k < 0) (cap : Nat) (hcap : k.toNatClampNeg ≤ cap) (hb : cap * 8 ≤ 536870912) (hc : cells + 1 ≤ R.cells) (hl : slots + cap ≤ R.slots)
    (kk : ∀ T' h' a, Stand p l e R s m args below meth c T' locs (cells + 1) (slots + cap) → T'.heap = h' → Ext h h' → h.size = a → Ar Z h' a (newarray.typeOf aty) k.toNatClampNeg (fun _ => 0) → Ends p e below s cs ss Q (T'.setTop { g with pc := g.pc + 2, stack := .ref a :: rest })) : Ends p e below s cs ss Q (T.setTop g) := by
  obtain ⟨T', h', cA, X', e', E, A, st⟩ := newP X hx hZ w eT hg hd hs hn hcap hb hc hl
  exact (kk T' h' h.size X' e' E rfl (Ar.new A hn hdf)).step st
theorem Ends.iaload (X : Stand p l e R s m args below meth c T locs cells slots) (hx : p.tables.exec = Jvm.exec) (hZ : Z.Warmed39 s.vm) (eT : T.heap = h) (A : Ar Z h a .int n f) {j : Int32} (hj : inb j n) {g : JFrame} (hg : g.method = m) {rest : List Value} (hs : g.stack = .int j :: .ref a :: rest) (hd : decode c.code g.pc = .ok (.iaload, 1))
    (k : Ends p e below s cs ss Q (T.setTop { g with pc := g.pc + 1, stack := .int (f j.toNatClampNeg) :: rest })) : Ends p e below s cs ss Q (T.setTop g) := by
  obtain ⟨cl, A1, r1, -, r3⟩ := A
  subst r1
  exact k.step (X.iaload hx (by rw [eT]; exact A1.1) (State.isArrayOf_alike hZ.alike A1.2.1) A1.2.2 hj (r3 _ (Nat.lt_of_not_le fun q => hj (Or.inr q))) hg hs hd)
theorem Ends.baload (X : Stand p l e R s m args below meth c T locs cells slots) (hx : p.tables.exec = Jvm.exec) (hZ : Z.Warmed39 s.vm) (eT : T.heap = h) (A : Ar Z h a .byte n f) {j : Int32} (hj : inb j n) {g : JFrame} (hg : g.method = m) {rest : List Value} (hs : g.stack = .int j :: .ref a :: rest) (hd : decode c.code g.pc = .ok (.baload, 1))
    (k : Ends p e below s cs ss Q (T.setTop { g with pc := g.pc + 1, stack := .int (f j.toNatClampNeg) :: rest })) : Ends p e below s cs ss Q (T.setTop g) := by
  obtain ⟨cl, A1, r1, -, r3⟩ := A
  subst r1
  exact k.step (X.baloadBytes hx (by rw [eT]; exact A1.1) (State.isArrayOf_alike hZ.alike A1.2.1) A1.2.2 hj (r3 _ (Nat.lt_of_not_le fun q => hj (Or.inr q))) hg hs hd)
theorem Ends.arrlen (X : Stand p l e R s m args below meth c T locs cells slots) (hx : p.tables.exec = Jvm.exec) (hZ : Z.Warmed39 s.vm) (eT : T.heap = h) (A : Ar Z h a ty n f) {g : JFrame} (hg : g.method = m) {rest : List Value} (hs : g.stack = .ref a :: rest) (hd : decode c.code g.pc = .ok (.arraylength, 1))
    (k : Ends p e below s cs ss Q (T.setTop { g with pc := g.pc + 1, stack := .int (Nat.toInt32 n) :: rest })) : Ends p e below s cs ss Q (T.setTop g) := by
  obtain ⟨cl, A1, r1, -, r3⟩ := A
  subst r1
  exact k.step (X.arraylength hx (by rw [eT]; exact A1.1) (State.isArrayOf_alike hZ.alike A1.2.1) hg hs hd)
theorem Ends.iastore (X : Stand p l e R s m args below meth c T locs cells slots) (hx : p.tables.exec = Jvm.exec) (hZ : Z.Warmed39 s.vm) (eT : T.heap = h) (A : Ar Z h a .int n f) {j x : Int32} (hj : inb j n) {n0 : Nat} (N : Fr n0 locs) (ge : n0 ≤ a) {g : JFrame} (hg : g.method = m) {rest : List Value} (hs : g.stack = .int x :: .int j :: .ref a :: rest) (hd : decode c.code g.pc = .ok (.iastore, 1))
    (k : ∀ T' h' sl, Stand p l e R s m args below meth c T' (locs ++ [⟨a, sl⟩]) cells slots → T'.heap = h' → Fr n0 (locs ++ [⟨a, sl⟩]) → Wr h h' a sl (.int x) → Ar Z h' a .int n (upd f j.toNatClampNeg x) → Ends p e below s cs ss Q (T'.setTop { g with pc := g.pc + 1, stack := rest })) : Ends p e below s cs ss Q (T.setTop g) := by
  obtain ⟨cl, A1, r1, r2, r3⟩ := A
  obtain ⟨T', h', X', e', W, st⟩ := stI X hx hZ eT A1 (by rw [r1]; exact hj) hg hs hd
  exact (k T' h' _ X' e' (Fr.snoc X' N ge) W (Ar.set ⟨cl, A1, r1, r2, r3⟩ W)).step st
theorem Ends.bastore (X : Stand p l e R s m args below meth c T locs cells slots) (hx : p.tables.exec = Jvm.exec) (hZ : Z.Warmed39 s.vm) (eT : T.heap = h) (A : Ar Z h a .byte n f) {j x : Int32} (hj : inb j n) {n0 : Nat} (N : Fr n0 locs) (ge : n0 ≤ a) {g : JFrame} (hg : g.method = m) {rest : List Value} (hs : g.stack = .int x :: .int j :: .ref a :: rest) (hd : decode c.code g.pc = .ok (.bastore, 1))
    (k : ∀ T' h' sl, Stand p l e R s m args below meth c T' (locs ++ [⟨a, sl⟩]) cells slots → T'.heap = h' → Fr n0 (locs ++ [⟨a, sl⟩]) → Wr h h' a sl (.int (nar .byte x)) → Ar Z h' a .byte n (upd f j.toNatClampNeg (nar .byte x)) → Ends p e below s cs ss Q (T'.setTop { g with pc := g.pc + 1, stack := rest })) : Ends p e below s cs ss Q (T.setTop g) := by
  obtain ⟨cl, A1, r1, r2, r3⟩ := A
  obtain ⟨T', h', X', e', W, st⟩ := stB X hx hZ eT A1 (by rw [r1]; exact hj) hg hs hd
  exact (k T' h' _ X' e' (Fr.snoc X' N ge) W (Ar.set ⟨cl, A1, r1, r2, r3⟩ W)).step st
theorem Ends.getF (X : Stand p l e R s m args below meth c T locs cells slots) (hx : p.tables.exec = Jvm.exec) (hZ : Z.Warmed39 s.vm) {own O fn d : String} {index : Nat} (hown : s.vm.findClass own = some m.cls) (w : (Jvm.Cond.fieldLink own index O fn d).before a0 Z = true) (eT : T.heap = h) (F : Fld Z h a O fn d v) {g : JFrame} (hg : g.method = m) {rest : List Value} (hs : g.stack = .ref a :: rest) (hd : decode c.code g.pc = .ok (.getfield index, 3))
    (k : ∀ T', Stand p l e R s m args below meth c T' locs cells slots → T'.heap = h → Ends p e below s cs ss Q (T'.setTop { g with pc := g.pc + 3, stack := v :: rest })) : Ends p e below s cs ss Q (T.setTop g) := by
  obtain ⟨T', X', e', st⟩ := Jvm.RoadKit.getF X hx hZ hown (host := "") (Or.inl w) Via.refl eT F hg hs hd
  exact (k T' X' e').step st
theorem Ends.putF (X : Stand p l e R s m args below meth c T locs cells slots) (hx : p.tables.exec = Jvm.exec) (hZ : Z.Warmed39 s.vm) {own O fn d : String} {index kk : Nat} {tf : FieldType} {old : Value} (hown : s.vm.findClass own = some m.cls) (w : (Jvm.Cond.fieldLink own index O fn d).before a0 Z = true) (eT : T.heap = h) (F : Fld Z h a O fn d old) (E : Exa Z h a O) (L : (Jvm.Cond.lays O O fn d).before a0 Z = true ∨ ((Jvm.Cond.laysFinal O O fn d).before a0 Z = true ∧ own = O ∧ meth.name = "<init>")) (wi : (Jvm.Cond.instantiable O kk).before a0 Z = true)
    (hty : parseFieldDescriptor d = some tf) (hn : narrow tf v = v) (hf : fits tf v = true) {n0 : Nat} (N : Fr n0 locs) (ge : n0 ≤ a) {g : JFrame} (hg : g.method = m) {rest : List Value} (hs : g.stack = v :: .ref a :: rest) (hd : decode c.code g.pc = .ok (.putfield index, 3))
    (k : ∀ T' h', Stand p l e R s m args below meth c T' (locs ++ [⟨a, Jvm.RoadKit.slotOf Z O fn d⟩]) cells slots → T'.heap = h' → Fr n0 (locs ++ [⟨a, Jvm.RoadKit.slotOf Z O fn d⟩]) → Wr h h' a (Jvm.RoadKit.slotOf Z O fn d) v → Ends p e below s cs ss Q (T'.setTop { g with pc := g.pc + 3, stack := rest })) : Ends p e below s cs ss Q (T.setTop g) := by
  obtain ⟨T', h', X', e', W, st⟩ := Jvm.RoadKit.putF X hx hZ hown (host := "") (Or.inl w) Via.refl eT F E L wi hty hn hf hg hs hd
  exact (k T' h' X' e' (Fr.snoc X' N ge) W).step st
theorem Ends.newO (X : Stand p l e R s m args below meth c T locs cells slots) (hx : p.tables.exec = Jvm.exec) (hZ : Z.Warmed39 s.vm) {own C : String} {index k : Nat} (hown : s.vm.findClass own = some m.cls) (w : (Jvm.Cond.classLink own index C).before a0 Z = true) (wi : (Jvm.Cond.instantiable C k).before a0 Z = true) (wz : (Jvm.Cond.initialized C).before a0 Z = true) (eT : T.heap = h)
    {g : JFrame} (hg : g.method = m) (hd : decode c.code g.pc = .ok (.new index, 3)) (hc : cells + 1 ≤ R.cells) (hl : slots + k ≤ R.slots)
    (kk : ∀ T' h' a, Stand p l e R s m args below meth c T' locs (cells + 1) (slots + k) → T'.heap = h' → Ext h h' → h.size = a → Exa Z h' a C → (∀ {O nm d : String} {ty : FieldType}, Laid Z a0 C O nm d → parseFieldDescriptor d = some ty → Fld Z h' a O nm d (defaultValue ty)) → Ends p e below s cs ss Q (T'.setTop { g with pc := g.pc + 3, stack := .ref a :: g.stack })) : Ends p e below s cs ss Q (T.setTop g) := by
  obtain ⟨T', h', X', e', E, A, D, -, st⟩ := Jvm.RoadKit.newO X hx hZ hown w wi wz eT hg hd hc hl
  exact (kk T' h' _ X' e' E rfl A D).step st
theorem Ends.initO (X : Stand p l e R s m args below meth c T locs cells slots) (hx : p.tables.exec = Jvm.exec) (hZ : Z.Warmed39 s.vm) {own : String} {idx : Nat} (hown : s.vm.findClass own = some m.cls) (w1 : (Jvm.Cond.methodLink own idx Lib.objectInit).before a0 Z = true) (w2 : (Jvm.Cond.instanceMethod Lib.objectInit).before a0 Z = true)
    (w3 : (Jvm.Cond.code Lib.objectInit ⟨#[0xb1]⟩ 1 none).before a0 Z = true) (eT : T.heap = h) {g : JFrame} (hg : g.method = m) (hsize : g.locals.size = c.maxLocals) {rest : List Value} (hs : g.stack = .ref a :: rest) (hd : decode c.code g.pc = .ok (.invokespecial idx, 3))
    (hf : 1 ≤ R.frames) (W : Nat) (hW : 2 * g.monitorRoom + (rest.map fun v => v.category).sum ≤ W) (hl : W + 12 ≤ R.locals)
    (k : ∀ T', Stand p l e R s m args below meth c T' locs cells slots → T'.heap = h → Ends p e below s cs ss Q (T'.setTop { g with pc := g.pc + 3, stack := rest })) : Ends p e below s cs ss Q (T.setTop g) := by
  obtain ⟨T', X', e', st⟩ := Jvm.RoadKit.initO X hx hZ hown w1 w2 w3 eT hg hsize hs hd hf hW hl
  exact (k T' X' e').step st
def OneS (o : Slot) : Prop := o = .unset ∨ ∃ w, o = .val w ∧ w.category = 1
theorem storeL {ls : Array Slot} {i : Nat} {x : Int64} {o o' : Slot} (h1 : ls[i]? = some o) (h2 : ls[i + 1]? = some o') (p1 : OneS o) (p2 : OneS o') : storeLocals ls i (.long x) = some ((ls.setIfInBounds i (.val (.long x))).setIfInBounds (i + 1) .second) := by
  have l1 : i < ls.size := (Array.getElem?_eq_some_iff.mp h1).1
  have l2 : i + 1 < ls.size := (Array.getElem?_eq_some_iff.mp h2).1
  have e2 : (ls.setIfInBounds i (.val (.long x)))[i + 1]? = some o' := by rw [Array.getElem?_setIfInBounds_ne (by omega)]; exact h2
  have q : storeSelf ls i (.long x) = some ((ls.setIfInBounds i (.val (.long x))).setIfInBounds (i + 1) .second) := by
    have cat : (Value.long x).category = 2 := rfl
    simp only [storeSelf, setAt, if_pos l1, cat, if_true, Option.bind_eq_bind, Option.bind_some, e2]
    rcases p2 with rfl | ⟨w, rfl, hw⟩
    · simp [l2]
    · simp [l2, hw]
  simp only [storeLocals, h1, Option.bind_eq_bind, Option.bind_some]
  rcases p1 with rfl | ⟨w, rfl, hw⟩
  · exact q
  · simp only [hw]; exact q
end OwnFrame
-- body 1
def F1_25 (t0 : Int32) : Int32 := (nar .boolean t0)
def F1_20  : Int32 := (F1_25 (1 : Int32))
def F1_24  : Int32 := (F1_25 (0 : Int32))
def F1_13 (x3 : Int64) (x5 : Int64) : Int32 := if x5 < x3 then F1_20 else F1_24
def F1_6 (x3 : Int64) (x5 : Int64) : Int32 := if x5 < (0 : Int64) then F1_24 else (F1_13 x3 x5)
def F1 (p0 : Int32) (p1 : Int64) (p2 : Int64) : Int32 := (F1_6 p2 (((p0).toInt64) - p1))
-- body 2
def F2_58 (t0 : Int32) : Int32 := (nar .boolean t0)
def F2_53  : Int32 := (F2_58 (1 : Int32))
def F2_57  : Int32 := (F2_58 (0 : Int32))
def F2_46 (x0 : Int32) : Int32 := if (8256 : Int32) < x0 then F2_57 else F2_53
def F2_39 (x0 : Int32) : Int32 := if x0 < (8255 : Int32) then F2_57 else (F2_46 x0)
def F2_32 (x0 : Int32) : Int32 := if (879 : Int32) < x0 then (F2_39 x0) else F2_53
def F2_25 (x0 : Int32) : Int32 := if x0 < (768 : Int32) then (F2_39 x0) else (F2_32 x0)
def F2_18 (x0 : Int32) : Int32 := if x0 = (183 : Int32) then F2_53 else (F2_25 x0)
def F2_12 (x0 : Int32) : Int32 := if (57 : Int32) < x0 then (F2_18 x0) else F2_53
def F2_6 (x0 : Int32) : Int32 := if x0 < (48 : Int32) then (F2_18 x0) else (F2_12 x0)
def F2 (p0 : Int32) : Int32 := if p0 = (45 : Int32) then F2_53 else (F2_6 p0)
-- body 3
def F3_190 (t0 : Int32) : Int32 := (nar .boolean t0)
def F3_185  : Int32 := (F3_190 (1 : Int32))
def F3_189  : Int32 := (F3_190 (0 : Int32))
def F3_179 (x0 : Int32) : Int32 := if (983039 : Int32) < x0 then F3_189 else F3_185
def F3_173 (x0 : Int32) : Int32 := if x0 < (65536 : Int32) then F3_189 else (F3_179 x0)
def F3_167 (x0 : Int32) : Int32 := if (65533 : Int32) < x0 then (F3_173 x0) else F3_185
def F3_161 (x0 : Int32) : Int32 := if x0 < (65008 : Int32) then (F3_173 x0) else (F3_167 x0)
def F3_155 (x0 : Int32) : Int32 := if (64975 : Int32) < x0 then (F3_161 x0) else F3_185
def F3_149 (x0 : Int32) : Int32 := if x0 < (63744 : Int32) then (F3_161 x0) else (F3_155 x0)
def F3_143 (x0 : Int32) : Int32 := if (55295 : Int32) < x0 then (F3_149 x0) else F3_185
def F3_136 (x0 : Int32) : Int32 := if x0 < (12289 : Int32) then (F3_149 x0) else (F3_143 x0)
def F3_129 (x0 : Int32) : Int32 := if (12271 : Int32) < x0 then (F3_136 x0) else F3_185
def F3_122 (x0 : Int32) : Int32 := if x0 < (11264 : Int32) then (F3_136 x0) else (F3_129 x0)
def F3_115 (x0 : Int32) : Int32 := if (8591 : Int32) < x0 then (F3_122 x0) else F3_185
def F3_108 (x0 : Int32) : Int32 := if x0 < (8304 : Int32) then (F3_122 x0) else (F3_115 x0)
def F3_101 (x0 : Int32) : Int32 := if (8205 : Int32) < x0 then (F3_108 x0) else F3_185
def F3_94 (x0 : Int32) : Int32 := if x0 < (8204 : Int32) then (F3_108 x0) else (F3_101 x0)
def F3_87 (x0 : Int32) : Int32 := if (8191 : Int32) < x0 then (F3_94 x0) else F3_185
def F3_80 (x0 : Int32) : Int32 := if x0 < (895 : Int32) then (F3_94 x0) else (F3_87 x0)
def F3_73 (x0 : Int32) : Int32 := if (893 : Int32) < x0 then (F3_80 x0) else F3_185
def F3_66 (x0 : Int32) : Int32 := if x0 < (880 : Int32) then (F3_80 x0) else (F3_73 x0)
def F3_59 (x0 : Int32) : Int32 := if (767 : Int32) < x0 then (F3_66 x0) else F3_185
def F3_52 (x0 : Int32) : Int32 := if x0 < (248 : Int32) then (F3_66 x0) else (F3_59 x0)
def F3_45 (x0 : Int32) : Int32 := if (246 : Int32) < x0 then (F3_52 x0) else F3_185
def F3_38 (x0 : Int32) : Int32 := if x0 < (216 : Int32) then (F3_52 x0) else (F3_45 x0)
def F3_31 (x0 : Int32) : Int32 := if (214 : Int32) < x0 then (F3_38 x0) else F3_185
def F3_24 (x0 : Int32) : Int32 := if x0 < (192 : Int32) then (F3_38 x0) else (F3_31 x0)
def F3_18 (x0 : Int32) : Int32 := if (90 : Int32) < x0 then (F3_24 x0) else F3_185
def F3_12 (x0 : Int32) : Int32 := if x0 < (65 : Int32) then (F3_24 x0) else (F3_18 x0)
def F3_6 (x0 : Int32) : Int32 := if (122 : Int32) < x0 then (F3_12 x0) else F3_185
def F3 (p0 : Int32) : Int32 := if p0 < (97 : Int32) then (F3_12 p0) else (F3_6 p0)
-- body 0
def F0_150  : Int32 := (nar .boolean (0 : Int32))
def F0_164  : Int32 := (nar .boolean (0 : Int32))
def F0_184  : Int32 := (nar .boolean (0 : Int32))
def F0_186  : Int32 := (nar .boolean (1 : Int32))
def F0_178 (x3 : Int32) : Int32 := if x3 = (46 : Int32) then F0_184 else F0_186
def F0_172 (x3 : Int32) : Int32 := if x3 = (58 : Int32) then F0_184 else (F0_178 x3)
def F0_166 (x3 : Int32) : Int32 := if x3 = (95 : Int32) then F0_184 else (F0_172 x3)
def F0_157 (x3 : Int32) : Int32 := if (F3 x3) = 0 then (F0_166 x3) else F0_164
def F0_152 (x3 : Int32) (x5 : Int32) : Int32 := if x5 = 0 then F0_186 else (F0_157 x3)
def F0_143 (x3 : Int32) (x4 : Int32) (x5 : Int32) : Int32 := if x5 = x4 then (F0_152 x3 x5) else F0_150
def F0_135 (x3 : Int32) (t0 : Int32) : Int32 := (F0_143 x3 t0 (F2 x3))
def F0_130 (x3 : Int32) : Int32 := (F0_135 x3 (1 : Int32))
def F0_134 (x3 : Int32) : Int32 := (F0_135 x3 (0 : Int32))
def F0_117 (x3 : Int32) : Int32 := if (F1 x3 (8255 : Int64) (2 : Int64)) = 0 then (F0_134 x3) else (F0_130 x3)
def F0_104 (x3 : Int32) : Int32 := if (F1 x3 (768 : Int64) (112 : Int64)) = 0 then (F0_117 x3) else (F0_130 x3)
def F0_97 (x3 : Int32) : Int32 := if x3 = (183 : Int32) then (F0_130 x3) else (F0_104 x3)
def F0_84 (x3 : Int32) : Int32 := if (F1 x3 (48 : Int64) (10 : Int64)) = 0 then (F0_97 x3) else (F0_130 x3)
def F0_78 (x3 : Int32) : Int32 := if x3 = (45 : Int32) then (F0_130 x3) else (F0_84 x3)
def F0_58 (x0 : Int32) : Int32 := (F0_78 x0)
def F0_63 (cf_q2 : Nat → Int32) (x0 : Int32) (x1 : Int32) : Int32 := (F0_78 ((cf_q2 (((XT.ushr x1 (2 : Int32)) % (8 : Int32))).toNatClampNeg) + ((x0 &&& (3 : Int32)) - (1 : Int32))))
def O0_63 (cf_q2 : Nat → Int32) (x0 : Int32) (x1 : Int32) : Prop := (inb ((XT.ushr x1 (2 : Int32)) % (8 : Int32)) 8) ∧ True
def F0_52 (cf_q2 : Nat → Int32) (x0 : Int32) (x1 : Int32) : Int32 := if (x1 &&& (3 : Int32)) = 0 then (F0_58 x0) else (F0_63 cf_q2 x0 x1)
def O0_52 (cf_q2 : Nat → Int32) (x0 : Int32) (x1 : Int32) : Prop := ((x1 &&& (3 : Int32)) = 0 → True) ∧ (¬ (x1 &&& (3 : Int32)) = 0 → (O0_63 cf_q2 x0 x1))
def F0 (p0 : Int32) (p1 : Int32) : Int32 := (F0_52 (upd (upd (upd (upd (upd (upd (upd (upd (fun _ => 0) 0 (45 : Int32)) 1 (48 : Int32)) 2 (57 : Int32)) 3 (183 : Int32)) 4 (768 : Int32)) 5 (879 : Int32)) 6 (8255 : Int32)) 7 (8256 : Int32)) p0 p1)
def O0 (p0 : Int32) (p1 : Int32) : Prop := (O0_52 (upd (upd (upd (upd (upd (upd (upd (upd (fun _ => 0) 0 (45 : Int32)) 1 (48 : Int32)) 2 (57 : Int32)) 3 (183 : Int32)) 4 (768 : Int32)) 5 (879 : Int32)) 6 (8255 : Int32)) 7 (8256 : Int32)) p0 p1)
theorem pd_0 : parseMethodDescriptor "(IJJ)Z" = some ⟨[.int, .long, .long], (some .boolean)⟩ := by decide +kernel
theorem pd_1 : parseMethodDescriptor "(I)Z" = some ⟨[.int], (some .boolean)⟩ := by decide +kernel
theorem d1_0 : decode method_2_code 0 = .ok (.iload_n 0, 1) := by decide +kernel
theorem d1_1 : decode method_2_code 1 = .ok (.i2l, 1) := by decide +kernel
theorem d1_2 : decode method_2_code 2 = .ok (.lload_n 1, 1) := by decide +kernel
theorem d1_3 : decode method_2_code 3 = .ok (.lsub, 1) := by decide +kernel
theorem d1_4 : decode method_2_code 4 = .ok (.lstore 5, 2) := by decide +kernel
theorem d1_6 : decode method_2_code 6 = .ok (.lload 5, 2) := by decide +kernel
theorem d1_8 : decode method_2_code 8 = .ok (.lconst 0, 1) := by decide +kernel
theorem d1_9 : decode method_2_code 9 = .ok (.lcmp, 1) := by decide +kernel
theorem d1_10 : decode method_2_code 10 = .ok (.ifCond .lt 14, 3) := by decide +kernel
theorem d1_13 : decode method_2_code 13 = .ok (.lload 5, 2) := by decide +kernel
theorem d1_15 : decode method_2_code 15 = .ok (.lload_n 3, 1) := by decide +kernel
theorem d1_16 : decode method_2_code 16 = .ok (.lcmp, 1) := by decide +kernel
theorem d1_17 : decode method_2_code 17 = .ok (.ifCond .ge 7, 3) := by decide +kernel
theorem d1_20 : decode method_2_code 20 = .ok (.iconst 1, 1) := by decide +kernel
theorem d1_21 : decode method_2_code 21 = .ok (.goto 4, 3) := by decide +kernel
theorem d1_24 : decode method_2_code 24 = .ok (.iconst 0, 1) := by decide +kernel
theorem d1_25 : decode method_2_code 25 = .ok (.ireturn, 1) := by decide +kernel
theorem pn_1 : plainFor (⟨"com/example/taxigraph/taxigraph/NameCharactersIsFollowingPinLaw", "inRange", "(IJJ)Z"⟩ : MethodName) = true := by first | exact plainFor_of_name (by first | (simp [plainName, overriddenIn]; done) | decide +kernel) | decide +kernel
theorem ef_1 (m : MethodId) (y0 : Int32) (y1 : Int64) (y2 : Int64) : entryFrame m #[(.int y0), (.long y1), (.long y2)] 7 = mkF m 0 #[.val (.int y0), .val (.long y1), .second, .val (.long y2), .second, .unset, .unset] [] := by first | (simp [entryFrame, mkF, argsToLocals, Value.category]; done) | rfl
def Q1 (Z : State)   (h0 : Heap) (n0 : Nat) (ans : Int32) (v : Option Value) (h : Heap) (L : List Loc) : Prop := v = some (.int ans) ∧ Fr n0 L ∧ h = h0
set_option maxRecDepth 65536 in
set_option maxHeartbeats 40000000 in
theorem rm1 (l : Launch) (Z : State) (a0 : Array Value) (hw : ∀ d ∈ tables_1, d.before a0 Z = true) (p0 : Int32) (p1 : Int64) (p2 : Int64)  (h0 : Heap) (n0 : Nat) (Z0 : n0 ≤ h0.size)  :
    Meets l Z (⟨"com/example/taxigraph/taxigraph/NameCharactersIsFollowingPinLaw", "inRange", "(IJJ)Z"⟩ : MethodName) method_2_code 7 (some .boolean) [] ({ frames := 0, cells := 0, slots := 0, locals := 0 } : Room) #[(.int p0), (.long p1), (.long p2)] h0 (Q1 Z  h0 n0 (F1 p0 p1 p2)) 0 0 := by
  refine Meets.of pn_1 ?_
  intro p e s m below meth c s₁ hx hby hml hZ hown hnm hret hlk X0 e0
  have hml : c.maxLocals = 7 := hml
  have hown : s.vm.findClass "com/example/taxigraph/taxigraph/NameCharactersIsFollowingPinLaw" = some m.cls := hown
  have N0 := Fr.nil n0
  have b25 : ∀ (T : State) (L : List Loc) (X : Stand p l e ({ frames := 0, cells := 0, slots := 0, locals := 0 } : Room) s m #[(.int p0), (.long p1), (.long p2)] below meth c T L 0 0) (eT : T.heap = h0) (N : Fr n0 L) (t0 : Int32) (d0 : Slot) (od0 : OneS d0) (z1 : Int64) (z3 : Int64) (z5 : Int64), Ends p e below s 0 0 (Q1 Z  h0 n0 (F1_25 t0)) (T.setTop (mkF m 25 #[d0, .val (.long z1), .second, .val (.long z3), .second, .val (.long z5), .second] [(.int t0)])) := by
    intro T L X eT N t0 d0 od0 z1 z3 z5
    exact Ends.ret X (v := some (.int (nar .boolean t0))) (fun q => by rw [hret] at q; cases q) hlk (fun fs hr => retN X hx (t := .boolean) hret (by simp) (hb hby d1_25) hr) (by decide) (by decide) ⟨rfl, N, eT⟩
  have b20 : ∀ (T : State) (L : List Loc) (X : Stand p l e ({ frames := 0, cells := 0, slots := 0, locals := 0 } : Room) s m #[(.int p0), (.long p1), (.long p2)] below meth c T L 0 0) (eT : T.heap = h0) (N : Fr n0 L) (d0 : Slot) (od0 : OneS d0) (z1 : Int64) (z3 : Int64) (z5 : Int64), Ends p e below s 0 0 (Q1 Z  h0 n0 F1_20) (T.setTop (mkF m 20 #[d0, .val (.long z1), .second, .val (.long z3), .second, .val (.long z5), .second] [])) := by
    intro T L X eT N d0 od0 z1 z3 z5
    refine Ends.step (u' := (T.setTop (mkF m 21 #[d0, .val (.long z1), .second, .val (.long z3), .second, .val (.long z5), .second] [(.int (1 : Int32))]))) ?_ (fun _ k => XT.iconstV X.here hx rfl (1 : Int32) (hb hby d1_20) rfl k)
    refine Ends.step (u' := (T.setTop (mkF m 25 #[d0, .val (.long z1), .second, .val (.long z3), .second, .val (.long z5), .second] [(.int (1 : Int32))]))) ?_ (fun _ k => XS.goto X.here hx rfl (pc0 := 21) (pc' := 25) rfl (hb hby d1_21) (by decide) (by decide) k)
    exact b25 T _ X eT N (1 : Int32) (d0) od0 z1 z3 z5
  have b24 : ∀ (T : State) (L : List Loc) (X : Stand p l e ({ frames := 0, cells := 0, slots := 0, locals := 0 } : Room) s m #[(.int p0), (.long p1), (.long p2)] below meth c T L 0 0) (eT : T.heap = h0) (N : Fr n0 L) (d0 : Slot) (od0 : OneS d0) (z1 : Int64) (z3 : Int64) (z5 : Int64), Ends p e below s 0 0 (Q1 Z  h0 n0 F1_24) (T.setTop (mkF m 24 #[d0, .val (.long z1), .second, .val (.long z3), .second, .val (.long z5), .second] [])) := by
    intro T L X eT N d0 od0 z1 z3 z5
    refine Ends.step (u' := (T.setTop (mkF m 25 #[d0, .val (.long z1), .second, .val (.long z3), .second, .val (.long z5), .second] [(.int (0 : Int32))]))) ?_ (fun _ k => XT.iconstV X.here hx rfl (0 : Int32) (hb hby d1_24) rfl k)
    exact b25 T _ X eT N (0 : Int32) (d0) od0 z1 z3 z5
  have b13 : ∀ (T : State) (L : List Loc) (X : Stand p l e ({ frames := 0, cells := 0, slots := 0, locals := 0 } : Room) s m #[(.int p0), (.long p1), (.long p2)] below meth c T L 0 0) (eT : T.heap = h0) (N : Fr n0 L) (x3 : Int64) (x5 : Int64) (d0 : Slot) (od0 : OneS d0) (z1 : Int64), Ends p e below s 0 0 (Q1 Z  h0 n0 (F1_13 x3 x5)) (T.setTop (mkF m 13 #[d0, .val (.long z1), .second, .val (.long x3), .second, .val (.long x5), .second] [])) := by
    intro T L X eT N x3 x5 d0 od0 z1
    refine Ends.step (u' := (T.setTop (mkF m 15 #[d0, .val (.long z1), .second, .val (.long x3), .second, .val (.long x5), .second] [(.long x5)]))) ?_ (fun _ k => XT.lload X.here hx rfl (hb hby d1_13) rfl k)
    refine Ends.step (u' := (T.setTop (mkF m 16 #[d0, .val (.long z1), .second, .val (.long x3), .second, .val (.long x5), .second] [(.long x3), (.long x5)]))) ?_ (fun _ k => XT.lloadN X.here hx rfl (hb hby d1_15) rfl k)
    refine Ends.step (u' := (T.setTop (mkF m 17 #[d0, .val (.long z1), .second, .val (.long x3), .second, .val (.long x5), .second] [(.int (XT.cmpL x5 x3))]))) ?_ (fun _ k => XT.lcmp X.here hx rfl (hb hby d1_16) rfl k)
    by_cases hc17 : x5 < x3
    · refine Eq.mp (congrArg (fun z => Ends p e below s 0 0 (Q1 Z  h0 n0 z) (T.setTop (mkF m 17 #[d0, .val (.long z1), .second, .val (.long x3), .second, .val (.long x5), .second] [(.int (XT.cmpL x5 x3))]))) (show (F1_13 x3 x5) = F1_20 from (if_pos hc17)).symm) ?_
      refine Ends.step (u' := (T.setTop (mkF m 20 #[d0, .val (.long z1), .second, .val (.long x3), .second, .val (.long x5), .second] []))) ?_ (fun _ k => XS.ifNo X.here hx rfl (hb hby d1_17) rfl (XT.ll_ge_f hc17) k)
      exact b20 T _ X eT N (d0) od0 z1 x3 x5
    · refine Eq.mp (congrArg (fun z => Ends p e below s 0 0 (Q1 Z  h0 n0 z) (T.setTop (mkF m 17 #[d0, .val (.long z1), .second, .val (.long x3), .second, .val (.long x5), .second] [(.int (XT.cmpL x5 x3))]))) (show (F1_13 x3 x5) = F1_24 from (if_neg hc17)).symm) ?_
      refine Ends.step (u' := (T.setTop (mkF m 24 #[d0, .val (.long z1), .second, .val (.long x3), .second, .val (.long x5), .second] []))) ?_ (fun _ k => XS.ifYes X.here hx rfl (pc0 := 17) (pc' := 24) rfl (hb hby d1_17) rfl (XT.ll_ge_t hc17) (by decide) (by decide) k)
      exact b24 T _ X eT N (d0) od0 z1 x3 x5
  have b6 : ∀ (T : State) (L : List Loc) (X : Stand p l e ({ frames := 0, cells := 0, slots := 0, locals := 0 } : Room) s m #[(.int p0), (.long p1), (.long p2)] below meth c T L 0 0) (eT : T.heap = h0) (N : Fr n0 L) (x3 : Int64) (x5 : Int64) (d0 : Slot) (od0 : OneS d0) (z1 : Int64), Ends p e below s 0 0 (Q1 Z  h0 n0 (F1_6 x3 x5)) (T.setTop (mkF m 6 #[d0, .val (.long z1), .second, .val (.long x3), .second, .val (.long x5), .second] [])) := by
    intro T L X eT N x3 x5 d0 od0 z1
    refine Ends.step (u' := (T.setTop (mkF m 8 #[d0, .val (.long z1), .second, .val (.long x3), .second, .val (.long x5), .second] [(.long x5)]))) ?_ (fun _ k => XT.lload X.here hx rfl (hb hby d1_6) rfl k)
    refine Ends.step (u' := (T.setTop (mkF m 9 #[d0, .val (.long z1), .second, .val (.long x3), .second, .val (.long x5), .second] [(.long (0 : Int64)), (.long x5)]))) ?_ (fun _ k => XT.lconstV X.here hx rfl (0 : Int64) (hb hby d1_8) rfl k)
    refine Ends.step (u' := (T.setTop (mkF m 10 #[d0, .val (.long z1), .second, .val (.long x3), .second, .val (.long x5), .second] [(.int (XT.cmpL x5 (0 : Int64)))]))) ?_ (fun _ k => XT.lcmp X.here hx rfl (hb hby d1_9) rfl k)
    by_cases hc10 : x5 < (0 : Int64)
    · refine Eq.mp (congrArg (fun z => Ends p e below s 0 0 (Q1 Z  h0 n0 z) (T.setTop (mkF m 10 #[d0, .val (.long z1), .second, .val (.long x3), .second, .val (.long x5), .second] [(.int (XT.cmpL x5 (0 : Int64)))]))) (show (F1_6 x3 x5) = F1_24 from (if_pos hc10)).symm) ?_
      refine Ends.step (u' := (T.setTop (mkF m 24 #[d0, .val (.long z1), .second, .val (.long x3), .second, .val (.long x5), .second] []))) ?_ (fun _ k => XS.ifYes X.here hx rfl (pc0 := 10) (pc' := 24) rfl (hb hby d1_10) rfl (XT.ll_lt_t hc10) (by decide) (by decide) k)
      exact b24 T _ X eT N (d0) od0 z1 x3 x5
    · refine Eq.mp (congrArg (fun z => Ends p e below s 0 0 (Q1 Z  h0 n0 z) (T.setTop (mkF m 10 #[d0, .val (.long z1), .second, .val (.long x3), .second, .val (.long x5), .second] [(.int (XT.cmpL x5 (0 : Int64)))]))) (show (F1_6 x3 x5) = (F1_13 x3 x5) from (if_neg hc10)).symm) ?_
      refine Ends.step (u' := (T.setTop (mkF m 13 #[d0, .val (.long z1), .second, .val (.long x3), .second, .val (.long x5), .second] []))) ?_ (fun _ k => XS.ifNo X.here hx rfl (hb hby d1_10) rfl (XT.ll_lt_f hc10) k)
      exact b13 T _ X eT N x3 x5 (d0) od0 z1
  refine Ends.step (u' := (s₁.setTop (mkF m 0 #[.val (.int p0), .val (.long p1), .second, .val (.long p2), .second, .unset, .unset] []))) ?_ (fun _ k => castTop (ef_1 m p0 p1 p2) k)
  refine Ends.step (u' := (s₁.setTop (mkF m 1 #[.val (.int p0), .val (.long p1), .second, .val (.long p2), .second, .unset, .unset] [(.int p0)]))) ?_ (fun _ k => XS.iloadN X0.here hx rfl (hb hby d1_0) rfl k)
  refine Ends.step (u' := (s₁.setTop (mkF m 2 #[.val (.int p0), .val (.long p1), .second, .val (.long p2), .second, .unset, .unset] [(.long ((p0).toInt64))]))) ?_ (fun _ k => XT.i2l X0.here hx rfl (hb hby d1_1) rfl k)
  refine Ends.step (u' := (s₁.setTop (mkF m 3 #[.val (.int p0), .val (.long p1), .second, .val (.long p2), .second, .unset, .unset] [(.long p1), (.long ((p0).toInt64))]))) ?_ (fun _ k => XT.lloadN X0.here hx rfl (hb hby d1_2) rfl k)
  refine Ends.step (u' := (s₁.setTop (mkF m 4 #[.val (.int p0), .val (.long p1), .second, .val (.long p2), .second, .unset, .unset] [(.long (((p0).toInt64) - p1))]))) ?_ (fun _ k => XT.lsub X0.here hx rfl (hb hby d1_3) rfl k)
  refine Ends.step (u' := (s₁.setTop (mkF m 6 #[.val (.int p0), .val (.long p1), .second, .val (.long p2), .second, .val (.long (((p0).toInt64) - p1)), .second] []))) ?_ (fun _ k => XT.lstore X0.here hx rfl (hb hby d1_4) rfl (l' := #[.val (.int p0), .val (.long p1), .second, .val (.long p2), .second, .val (.long (((p0).toInt64) - p1)), .second]) rfl k)
  exact b6 s₁ _ X0 e0 N0 p2 (((p0).toInt64) - p1) (.val (.int p0)) (Or.inr ⟨_, rfl, rfl⟩) p1
theorem d2_0 : decode prog_70_method_3_code 0 = .ok (.iload_n 0, 1) := by decide +kernel
theorem d2_1 : decode prog_70_method_3_code 1 = .ok (.bipush 45, 2) := by decide +kernel
theorem d2_3 : decode prog_70_method_3_code 3 = .ok (.if_icmp .eq 50, 3) := by decide +kernel
theorem d2_6 : decode prog_70_method_3_code 6 = .ok (.iload_n 0, 1) := by decide +kernel
theorem d2_7 : decode prog_70_method_3_code 7 = .ok (.bipush 48, 2) := by decide +kernel
theorem d2_9 : decode prog_70_method_3_code 9 = .ok (.if_icmp .lt 9, 3) := by decide +kernel
theorem d2_12 : decode prog_70_method_3_code 12 = .ok (.iload_n 0, 1) := by decide +kernel
theorem d2_13 : decode prog_70_method_3_code 13 = .ok (.bipush 57, 2) := by decide +kernel
theorem d2_15 : decode prog_70_method_3_code 15 = .ok (.if_icmp .le 38, 3) := by decide +kernel
theorem d2_18 : decode prog_70_method_3_code 18 = .ok (.iload_n 0, 1) := by decide +kernel
theorem d2_19 : decode prog_70_method_3_code 19 = .ok (.sipush 183, 3) := by decide +kernel
theorem d2_22 : decode prog_70_method_3_code 22 = .ok (.if_icmp .eq 31, 3) := by decide +kernel
theorem d2_25 : decode prog_70_method_3_code 25 = .ok (.iload_n 0, 1) := by decide +kernel
theorem d2_26 : decode prog_70_method_3_code 26 = .ok (.sipush 768, 3) := by decide +kernel
theorem d2_29 : decode prog_70_method_3_code 29 = .ok (.if_icmp .lt 10, 3) := by decide +kernel
theorem d2_32 : decode prog_70_method_3_code 32 = .ok (.iload_n 0, 1) := by decide +kernel
theorem d2_33 : decode prog_70_method_3_code 33 = .ok (.sipush 879, 3) := by decide +kernel
theorem d2_36 : decode prog_70_method_3_code 36 = .ok (.if_icmp .le 17, 3) := by decide +kernel
theorem d2_39 : decode prog_70_method_3_code 39 = .ok (.iload_n 0, 1) := by decide +kernel
theorem d2_40 : decode prog_70_method_3_code 40 = .ok (.sipush 8255, 3) := by decide +kernel
theorem d2_43 : decode prog_70_method_3_code 43 = .ok (.if_icmp .lt 14, 3) := by decide +kernel
theorem d2_46 : decode prog_70_method_3_code 46 = .ok (.iload_n 0, 1) := by decide +kernel
theorem d2_47 : decode prog_70_method_3_code 47 = .ok (.sipush 8256, 3) := by decide +kernel
theorem d2_50 : decode prog_70_method_3_code 50 = .ok (.if_icmp .gt 7, 3) := by decide +kernel
theorem d2_53 : decode prog_70_method_3_code 53 = .ok (.iconst 1, 1) := by decide +kernel
theorem d2_54 : decode prog_70_method_3_code 54 = .ok (.goto 4, 3) := by decide +kernel
theorem d2_57 : decode prog_70_method_3_code 57 = .ok (.iconst 0, 1) := by decide +kernel
theorem d2_58 : decode prog_70_method_3_code 58 = .ok (.ireturn, 1) := by decide +kernel
theorem pn_2 : plainFor (⟨"com/example/taxigraph/taxigraph/NameCharacters", "isFollowing", "(I)Z"⟩ : MethodName) = true := by first | exact plainFor_of_name (by first | (simp [plainName, overriddenIn]; done) | decide +kernel) | decide +kernel
theorem ef_2 (m : MethodId) (y0 : Int32) : entryFrame m #[(.int y0)] 1 = mkF m 0 #[.val (.int y0)] [] := by first | (simp [entryFrame, mkF, argsToLocals, Value.category]; done) | rfl
def Q2 (Z : State)   (h0 : Heap) (n0 : Nat) (ans : Int32) (v : Option Value) (h : Heap) (L : List Loc) : Prop := v = some (.int ans) ∧ Fr n0 L ∧ h = h0
set_option maxRecDepth 65536 in
set_option maxHeartbeats 40000000 in
theorem rm2 (l : Launch) (Z : State) (a0 : Array Value) (hw : ∀ d ∈ tables_1, d.before a0 Z = true) (p0 : Int32)  (h0 : Heap) (n0 : Nat) (Z0 : n0 ≤ h0.size)  :
    Meets l Z (⟨"com/example/taxigraph/taxigraph/NameCharacters", "isFollowing", "(I)Z"⟩ : MethodName) prog_70_method_3_code 1 (some .boolean) [] ({ frames := 0, cells := 0, slots := 0, locals := 0 } : Room) #[(.int p0)] h0 (Q2 Z  h0 n0 (F2 p0)) 0 0 := by
  refine Meets.of pn_2 ?_
  intro p e s m below meth c s₁ hx hby hml hZ hown hnm hret hlk X0 e0
  have hml : c.maxLocals = 1 := hml
  have hown : s.vm.findClass "com/example/taxigraph/taxigraph/NameCharacters" = some m.cls := hown
  have N0 := Fr.nil n0
  have b58 : ∀ (T : State) (L : List Loc) (X : Stand p l e ({ frames := 0, cells := 0, slots := 0, locals := 0 } : Room) s m #[(.int p0)] below meth c T L 0 0) (eT : T.heap = h0) (N : Fr n0 L) (t0 : Int32) (d0 : Slot) (od0 : OneS d0), Ends p e below s 0 0 (Q2 Z  h0 n0 (F2_58 t0)) (T.setTop (mkF m 58 #[d0] [(.int t0)])) := by
    intro T L X eT N t0 d0 od0
    exact Ends.ret X (v := some (.int (nar .boolean t0))) (fun q => by rw [hret] at q; cases q) hlk (fun fs hr => retN X hx (t := .boolean) hret (by simp) (hb hby d2_58) hr) (by decide) (by decide) ⟨rfl, N, eT⟩
  have b53 : ∀ (T : State) (L : List Loc) (X : Stand p l e ({ frames := 0, cells := 0, slots := 0, locals := 0 } : Room) s m #[(.int p0)] below meth c T L 0 0) (eT : T.heap = h0) (N : Fr n0 L) (d0 : Slot) (od0 : OneS d0), Ends p e below s 0 0 (Q2 Z  h0 n0 F2_53) (T.setTop (mkF m 53 #[d0] [])) := by
    intro T L X eT N d0 od0
    refine Ends.step (u' := (T.setTop (mkF m 54 #[d0] [(.int (1 : Int32))]))) ?_ (fun _ k => XT.iconstV X.here hx rfl (1 : Int32) (hb hby d2_53) rfl k)
    refine Ends.step (u' := (T.setTop (mkF m 58 #[d0] [(.int (1 : Int32))]))) ?_ (fun _ k => XS.goto X.here hx rfl (pc0 := 54) (pc' := 58) rfl (hb hby d2_54) (by decide) (by decide) k)
    exact b58 T _ X eT N (1 : Int32) (d0) od0
  have b57 : ∀ (T : State) (L : List Loc) (X : Stand p l e ({ frames := 0, cells := 0, slots := 0, locals := 0 } : Room) s m #[(.int p0)] below meth c T L 0 0) (eT : T.heap = h0) (N : Fr n0 L) (d0 : Slot) (od0 : OneS d0), Ends p e below s 0 0 (Q2 Z  h0 n0 F2_57) (T.setTop (mkF m 57 #[d0] [])) := by
    intro T L X eT N d0 od0
    refine Ends.step (u' := (T.setTop (mkF m 58 #[d0] [(.int (0 : Int32))]))) ?_ (fun _ k => XT.iconstV X.here hx rfl (0 : Int32) (hb hby d2_57) rfl k)
    exact b58 T _ X eT N (0 : Int32) (d0) od0
  have b46 : ∀ (T : State) (L : List Loc) (X : Stand p l e ({ frames := 0, cells := 0, slots := 0, locals := 0 } : Room) s m #[(.int p0)] below meth c T L 0 0) (eT : T.heap = h0) (N : Fr n0 L) (x0 : Int32), Ends p e below s 0 0 (Q2 Z  h0 n0 (F2_46 x0)) (T.setTop (mkF m 46 #[.val (.int x0)] [])) := by
    intro T L X eT N x0
    refine Ends.step (u' := (T.setTop (mkF m 47 #[.val (.int x0)] [(.int x0)]))) ?_ (fun _ k => XS.iloadN X.here hx rfl (hb hby d2_46) rfl k)
    refine Ends.step (u' := (T.setTop (mkF m 50 #[.val (.int x0)] [(.int (8256 : Int32)), (.int x0)]))) ?_ (fun _ k => XT.sipushV X.here hx rfl (8256 : Int32) (hb hby d2_47) rfl k)
    by_cases hc50 : (8256 : Int32) < x0
    · refine Eq.mp (congrArg (fun z => Ends p e below s 0 0 (Q2 Z  h0 n0 z) (T.setTop (mkF m 50 #[.val (.int x0)] [(.int (8256 : Int32)), (.int x0)]))) (show (F2_46 x0) = F2_57 from (if_pos hc50)).symm) ?_
      refine Ends.step (u' := (T.setTop (mkF m 57 #[.val (.int x0)] []))) ?_ (fun _ k => XS.icmpYes X.here hx rfl (pc0 := 50) (pc' := 57) rfl (hb hby d2_50) rfl (XT.ii_gt_t hc50) (by decide) (by decide) k)
      exact b57 T _ X eT N (.val (.int x0)) (Or.inr ⟨_, rfl, rfl⟩)
    · refine Eq.mp (congrArg (fun z => Ends p e below s 0 0 (Q2 Z  h0 n0 z) (T.setTop (mkF m 50 #[.val (.int x0)] [(.int (8256 : Int32)), (.int x0)]))) (show (F2_46 x0) = F2_53 from (if_neg hc50)).symm) ?_
      refine Ends.step (u' := (T.setTop (mkF m 53 #[.val (.int x0)] []))) ?_ (fun _ k => XS.icmpNo X.here hx rfl (hb hby d2_50) rfl (XT.ii_gt_f hc50) k)
      exact b53 T _ X eT N (.val (.int x0)) (Or.inr ⟨_, rfl, rfl⟩)
  have b39 : ∀ (T : State) (L : List Loc) (X : Stand p l e ({ frames := 0, cells := 0, slots := 0, locals := 0 } : Room) s m #[(.int p0)] below meth c T L 0 0) (eT : T.heap = h0) (N : Fr n0 L) (x0 : Int32), Ends p e below s 0 0 (Q2 Z  h0 n0 (F2_39 x0)) (T.setTop (mkF m 39 #[.val (.int x0)] [])) := by
    intro T L X eT N x0
    refine Ends.step (u' := (T.setTop (mkF m 40 #[.val (.int x0)] [(.int x0)]))) ?_ (fun _ k => XS.iloadN X.here hx rfl (hb hby d2_39) rfl k)
    refine Ends.step (u' := (T.setTop (mkF m 43 #[.val (.int x0)] [(.int (8255 : Int32)), (.int x0)]))) ?_ (fun _ k => XT.sipushV X.here hx rfl (8255 : Int32) (hb hby d2_40) rfl k)
    by_cases hc43 : x0 < (8255 : Int32)
    · refine Eq.mp (congrArg (fun z => Ends p e below s 0 0 (Q2 Z  h0 n0 z) (T.setTop (mkF m 43 #[.val (.int x0)] [(.int (8255 : Int32)), (.int x0)]))) (show (F2_39 x0) = F2_57 from (if_pos hc43)).symm) ?_
      refine Ends.step (u' := (T.setTop (mkF m 57 #[.val (.int x0)] []))) ?_ (fun _ k => XS.icmpYes X.here hx rfl (pc0 := 43) (pc' := 57) rfl (hb hby d2_43) rfl (XT.ii_lt_t hc43) (by decide) (by decide) k)
      exact b57 T _ X eT N (.val (.int x0)) (Or.inr ⟨_, rfl, rfl⟩)
    · refine Eq.mp (congrArg (fun z => Ends p e below s 0 0 (Q2 Z  h0 n0 z) (T.setTop (mkF m 43 #[.val (.int x0)] [(.int (8255 : Int32)), (.int x0)]))) (show (F2_39 x0) = (F2_46 x0) from (if_neg hc43)).symm) ?_
      refine Ends.step (u' := (T.setTop (mkF m 46 #[.val (.int x0)] []))) ?_ (fun _ k => XS.icmpNo X.here hx rfl (hb hby d2_43) rfl (XT.ii_lt_f hc43) k)
      exact b46 T _ X eT N x0
  have b32 : ∀ (T : State) (L : List Loc) (X : Stand p l e ({ frames := 0, cells := 0, slots := 0, locals := 0 } : Room) s m #[(.int p0)] below meth c T L 0 0) (eT : T.heap = h0) (N : Fr n0 L) (x0 : Int32), Ends p e below s 0 0 (Q2 Z  h0 n0 (F2_32 x0)) (T.setTop (mkF m 32 #[.val (.int x0)] [])) := by
    intro T L X eT N x0
    refine Ends.step (u' := (T.setTop (mkF m 33 #[.val (.int x0)] [(.int x0)]))) ?_ (fun _ k => XS.iloadN X.here hx rfl (hb hby d2_32) rfl k)
    refine Ends.step (u' := (T.setTop (mkF m 36 #[.val (.int x0)] [(.int (879 : Int32)), (.int x0)]))) ?_ (fun _ k => XT.sipushV X.here hx rfl (879 : Int32) (hb hby d2_33) rfl k)
    by_cases hc36 : (879 : Int32) < x0
    · refine Eq.mp (congrArg (fun z => Ends p e below s 0 0 (Q2 Z  h0 n0 z) (T.setTop (mkF m 36 #[.val (.int x0)] [(.int (879 : Int32)), (.int x0)]))) (show (F2_32 x0) = (F2_39 x0) from (if_pos hc36)).symm) ?_
      refine Ends.step (u' := (T.setTop (mkF m 39 #[.val (.int x0)] []))) ?_ (fun _ k => XS.icmpNo X.here hx rfl (hb hby d2_36) rfl (XT.ii_le_f hc36) k)
      exact b39 T _ X eT N x0
    · refine Eq.mp (congrArg (fun z => Ends p e below s 0 0 (Q2 Z  h0 n0 z) (T.setTop (mkF m 36 #[.val (.int x0)] [(.int (879 : Int32)), (.int x0)]))) (show (F2_32 x0) = F2_53 from (if_neg hc36)).symm) ?_
      refine Ends.step (u' := (T.setTop (mkF m 53 #[.val (.int x0)] []))) ?_ (fun _ k => XS.icmpYes X.here hx rfl (pc0 := 36) (pc' := 53) rfl (hb hby d2_36) rfl (XT.ii_le_t hc36) (by decide) (by decide) k)
      exact b53 T _ X eT N (.val (.int x0)) (Or.inr ⟨_, rfl, rfl⟩)
  have b25 : ∀ (T : State) (L : List Loc) (X : Stand p l e ({ frames := 0, cells := 0, slots := 0, locals := 0 } : Room) s m #[(.int p0)] below meth c T L 0 0) (eT : T.heap = h0) (N : Fr n0 L) (x0 : Int32), Ends p e below s 0 0 (Q2 Z  h0 n0 (F2_25 x0)) (T.setTop (mkF m 25 #[.val (.int x0)] [])) := by
    intro T L X eT N x0
    refine Ends.step (u' := (T.setTop (mkF m 26 #[.val (.int x0)] [(.int x0)]))) ?_ (fun _ k => XS.iloadN X.here hx rfl (hb hby d2_25) rfl k)
    refine Ends.step (u' := (T.setTop (mkF m 29 #[.val (.int x0)] [(.int (768 : Int32)), (.int x0)]))) ?_ (fun _ k => XT.sipushV X.here hx rfl (768 : Int32) (hb hby d2_26) rfl k)
    by_cases hc29 : x0 < (768 : Int32)
    · refine Eq.mp (congrArg (fun z => Ends p e below s 0 0 (Q2 Z  h0 n0 z) (T.setTop (mkF m 29 #[.val (.int x0)] [(.int (768 : Int32)), (.int x0)]))) (show (F2_25 x0) = (F2_39 x0) from (if_pos hc29)).symm) ?_
      refine Ends.step (u' := (T.setTop (mkF m 39 #[.val (.int x0)] []))) ?_ (fun _ k => XS.icmpYes X.here hx rfl (pc0 := 29) (pc' := 39) rfl (hb hby d2_29) rfl (XT.ii_lt_t hc29) (by decide) (by decide) k)
      exact b39 T _ X eT N x0
    · refine Eq.mp (congrArg (fun z => Ends p e below s 0 0 (Q2 Z  h0 n0 z) (T.setTop (mkF m 29 #[.val (.int x0)] [(.int (768 : Int32)), (.int x0)]))) (show (F2_25 x0) = (F2_32 x0) from (if_neg hc29)).symm) ?_
      refine Ends.step (u' := (T.setTop (mkF m 32 #[.val (.int x0)] []))) ?_ (fun _ k => XS.icmpNo X.here hx rfl (hb hby d2_29) rfl (XT.ii_lt_f hc29) k)
      exact b32 T _ X eT N x0
  have b18 : ∀ (T : State) (L : List Loc) (X : Stand p l e ({ frames := 0, cells := 0, slots := 0, locals := 0 } : Room) s m #[(.int p0)] below meth c T L 0 0) (eT : T.heap = h0) (N : Fr n0 L) (x0 : Int32), Ends p e below s 0 0 (Q2 Z  h0 n0 (F2_18 x0)) (T.setTop (mkF m 18 #[.val (.int x0)] [])) := by
    intro T L X eT N x0
    refine Ends.step (u' := (T.setTop (mkF m 19 #[.val (.int x0)] [(.int x0)]))) ?_ (fun _ k => XS.iloadN X.here hx rfl (hb hby d2_18) rfl k)
    refine Ends.step (u' := (T.setTop (mkF m 22 #[.val (.int x0)] [(.int (183 : Int32)), (.int x0)]))) ?_ (fun _ k => XT.sipushV X.here hx rfl (183 : Int32) (hb hby d2_19) rfl k)
    by_cases hc22 : x0 = (183 : Int32)
    · refine Eq.mp (congrArg (fun z => Ends p e below s 0 0 (Q2 Z  h0 n0 z) (T.setTop (mkF m 22 #[.val (.int x0)] [(.int (183 : Int32)), (.int x0)]))) (show (F2_18 x0) = F2_53 from (if_pos hc22)).symm) ?_
      refine Ends.step (u' := (T.setTop (mkF m 53 #[.val (.int x0)] []))) ?_ (fun _ k => XS.icmpYes X.here hx rfl (pc0 := 22) (pc' := 53) rfl (hb hby d2_22) rfl (XT.ii_eq_t hc22) (by decide) (by decide) k)
      exact b53 T _ X eT N (.val (.int x0)) (Or.inr ⟨_, rfl, rfl⟩)
    · refine Eq.mp (congrArg (fun z => Ends p e below s 0 0 (Q2 Z  h0 n0 z) (T.setTop (mkF m 22 #[.val (.int x0)] [(.int (183 : Int32)), (.int x0)]))) (show (F2_18 x0) = (F2_25 x0) from (if_neg hc22)).symm) ?_
      refine Ends.step (u' := (T.setTop (mkF m 25 #[.val (.int x0)] []))) ?_ (fun _ k => XS.icmpNo X.here hx rfl (hb hby d2_22) rfl (XT.ii_eq_f hc22) k)
      exact b25 T _ X eT N x0
  have b12 : ∀ (T : State) (L : List Loc) (X : Stand p l e ({ frames := 0, cells := 0, slots := 0, locals := 0 } : Room) s m #[(.int p0)] below meth c T L 0 0) (eT : T.heap = h0) (N : Fr n0 L) (x0 : Int32), Ends p e below s 0 0 (Q2 Z  h0 n0 (F2_12 x0)) (T.setTop (mkF m 12 #[.val (.int x0)] [])) := by
    intro T L X eT N x0
    refine Ends.step (u' := (T.setTop (mkF m 13 #[.val (.int x0)] [(.int x0)]))) ?_ (fun _ k => XS.iloadN X.here hx rfl (hb hby d2_12) rfl k)
    refine Ends.step (u' := (T.setTop (mkF m 15 #[.val (.int x0)] [(.int (57 : Int32)), (.int x0)]))) ?_ (fun _ k => XT.bipushV X.here hx rfl (57 : Int32) (hb hby d2_13) rfl k)
    by_cases hc15 : (57 : Int32) < x0
    · refine Eq.mp (congrArg (fun z => Ends p e below s 0 0 (Q2 Z  h0 n0 z) (T.setTop (mkF m 15 #[.val (.int x0)] [(.int (57 : Int32)), (.int x0)]))) (show (F2_12 x0) = (F2_18 x0) from (if_pos hc15)).symm) ?_
      refine Ends.step (u' := (T.setTop (mkF m 18 #[.val (.int x0)] []))) ?_ (fun _ k => XS.icmpNo X.here hx rfl (hb hby d2_15) rfl (XT.ii_le_f hc15) k)
      exact b18 T _ X eT N x0
    · refine Eq.mp (congrArg (fun z => Ends p e below s 0 0 (Q2 Z  h0 n0 z) (T.setTop (mkF m 15 #[.val (.int x0)] [(.int (57 : Int32)), (.int x0)]))) (show (F2_12 x0) = F2_53 from (if_neg hc15)).symm) ?_
      refine Ends.step (u' := (T.setTop (mkF m 53 #[.val (.int x0)] []))) ?_ (fun _ k => XS.icmpYes X.here hx rfl (pc0 := 15) (pc' := 53) rfl (hb hby d2_15) rfl (XT.ii_le_t hc15) (by decide) (by decide) k)
      exact b53 T _ X eT N (.val (.int x0)) (Or.inr ⟨_, rfl, rfl⟩)
  have b6 : ∀ (T : State) (L : List Loc) (X : Stand p l e ({ frames := 0, cells := 0, slots := 0, locals := 0 } : Room) s m #[(.int p0)] below meth c T L 0 0) (eT : T.heap = h0) (N : Fr n0 L) (x0 : Int32), Ends p e below s 0 0 (Q2 Z  h0 n0 (F2_6 x0)) (T.setTop (mkF m 6 #[.val (.int x0)] [])) := by
    intro T L X eT N x0
    refine Ends.step (u' := (T.setTop (mkF m 7 #[.val (.int x0)] [(.int x0)]))) ?_ (fun _ k => XS.iloadN X.here hx rfl (hb hby d2_6) rfl k)
    refine Ends.step (u' := (T.setTop (mkF m 9 #[.val (.int x0)] [(.int (48 : Int32)), (.int x0)]))) ?_ (fun _ k => XT.bipushV X.here hx rfl (48 : Int32) (hb hby d2_7) rfl k)
    by_cases hc9 : x0 < (48 : Int32)
    · refine Eq.mp (congrArg (fun z => Ends p e below s 0 0 (Q2 Z  h0 n0 z) (T.setTop (mkF m 9 #[.val (.int x0)] [(.int (48 : Int32)), (.int x0)]))) (show (F2_6 x0) = (F2_18 x0) from (if_pos hc9)).symm) ?_
      refine Ends.step (u' := (T.setTop (mkF m 18 #[.val (.int x0)] []))) ?_ (fun _ k => XS.icmpYes X.here hx rfl (pc0 := 9) (pc' := 18) rfl (hb hby d2_9) rfl (XT.ii_lt_t hc9) (by decide) (by decide) k)
      exact b18 T _ X eT N x0
    · refine Eq.mp (congrArg (fun z => Ends p e below s 0 0 (Q2 Z  h0 n0 z) (T.setTop (mkF m 9 #[.val (.int x0)] [(.int (48 : Int32)), (.int x0)]))) (show (F2_6 x0) = (F2_12 x0) from (if_neg hc9)).symm) ?_
      refine Ends.step (u' := (T.setTop (mkF m 12 #[.val (.int x0)] []))) ?_ (fun _ k => XS.icmpNo X.here hx rfl (hb hby d2_9) rfl (XT.ii_lt_f hc9) k)
      exact b12 T _ X eT N x0
  refine Ends.step (u' := (s₁.setTop (mkF m 0 #[.val (.int p0)] []))) ?_ (fun _ k => castTop (ef_2 m p0) k)
  refine Ends.step (u' := (s₁.setTop (mkF m 1 #[.val (.int p0)] [(.int p0)]))) ?_ (fun _ k => XS.iloadN X0.here hx rfl (hb hby d2_0) rfl k)
  refine Ends.step (u' := (s₁.setTop (mkF m 3 #[.val (.int p0)] [(.int (45 : Int32)), (.int p0)]))) ?_ (fun _ k => XT.bipushV X0.here hx rfl (45 : Int32) (hb hby d2_1) rfl k)
  by_cases hc3 : p0 = (45 : Int32)
  · refine Eq.mp (congrArg (fun z => Ends p e below s 0 0 (Q2 Z  h0 n0 z) (s₁.setTop (mkF m 3 #[.val (.int p0)] [(.int (45 : Int32)), (.int p0)]))) (show (F2 p0) = F2_53 from (if_pos hc3)).symm) ?_
    refine Ends.step (u' := (s₁.setTop (mkF m 53 #[.val (.int p0)] []))) ?_ (fun _ k => XS.icmpYes X0.here hx rfl (pc0 := 3) (pc' := 53) rfl (hb hby d2_3) rfl (XT.ii_eq_t hc3) (by decide) (by decide) k)
    exact b53 s₁ _ X0 e0 N0 (.val (.int p0)) (Or.inr ⟨_, rfl, rfl⟩)
  · refine Eq.mp (congrArg (fun z => Ends p e below s 0 0 (Q2 Z  h0 n0 z) (s₁.setTop (mkF m 3 #[.val (.int p0)] [(.int (45 : Int32)), (.int p0)]))) (show (F2 p0) = (F2_6 p0) from (if_neg hc3)).symm) ?_
    refine Ends.step (u' := (s₁.setTop (mkF m 6 #[.val (.int p0)] []))) ?_ (fun _ k => XS.icmpNo X0.here hx rfl (hb hby d2_3) rfl (XT.ii_eq_f hc3) k)
    exact b6 s₁ _ X0 e0 N0 p0
theorem d3_0 : decode prog_70_method_2_code 0 = .ok (.iload_n 0, 1) := by decide +kernel
theorem d3_1 : decode prog_70_method_2_code 1 = .ok (.bipush 97, 2) := by decide +kernel
theorem d3_3 : decode prog_70_method_2_code 3 = .ok (.if_icmp .lt 9, 3) := by decide +kernel
theorem d3_6 : decode prog_70_method_2_code 6 = .ok (.iload_n 0, 1) := by decide +kernel
theorem d3_7 : decode prog_70_method_2_code 7 = .ok (.bipush 122, 2) := by decide +kernel
theorem d3_9 : decode prog_70_method_2_code 9 = .ok (.if_icmp .le 176, 3) := by decide +kernel
theorem d3_12 : decode prog_70_method_2_code 12 = .ok (.iload_n 0, 1) := by decide +kernel
theorem d3_13 : decode prog_70_method_2_code 13 = .ok (.bipush 65, 2) := by decide +kernel
theorem d3_15 : decode prog_70_method_2_code 15 = .ok (.if_icmp .lt 9, 3) := by decide +kernel
theorem d3_18 : decode prog_70_method_2_code 18 = .ok (.iload_n 0, 1) := by decide +kernel
theorem d3_19 : decode prog_70_method_2_code 19 = .ok (.bipush 90, 2) := by decide +kernel
theorem d3_21 : decode prog_70_method_2_code 21 = .ok (.if_icmp .le 164, 3) := by decide +kernel
theorem d3_24 : decode prog_70_method_2_code 24 = .ok (.iload_n 0, 1) := by decide +kernel
theorem d3_25 : decode prog_70_method_2_code 25 = .ok (.sipush 192, 3) := by decide +kernel
theorem d3_28 : decode prog_70_method_2_code 28 = .ok (.if_icmp .lt 10, 3) := by decide +kernel
theorem d3_31 : decode prog_70_method_2_code 31 = .ok (.iload_n 0, 1) := by decide +kernel
theorem d3_32 : decode prog_70_method_2_code 32 = .ok (.sipush 214, 3) := by decide +kernel
theorem d3_35 : decode prog_70_method_2_code 35 = .ok (.if_icmp .le 150, 3) := by decide +kernel
theorem d3_38 : decode prog_70_method_2_code 38 = .ok (.iload_n 0, 1) := by decide +kernel
theorem d3_39 : decode prog_70_method_2_code 39 = .ok (.sipush 216, 3) := by decide +kernel
theorem d3_42 : decode prog_70_method_2_code 42 = .ok (.if_icmp .lt 10, 3) := by decide +kernel
theorem d3_45 : decode prog_70_method_2_code 45 = .ok (.iload_n 0, 1) := by decide +kernel
theorem d3_46 : decode prog_70_method_2_code 46 = .ok (.sipush 246, 3) := by decide +kernel
theorem d3_49 : decode prog_70_method_2_code 49 = .ok (.if_icmp .le 136, 3) := by decide +kernel
theorem d3_52 : decode prog_70_method_2_code 52 = .ok (.iload_n 0, 1) := by decide +kernel
theorem d3_53 : decode prog_70_method_2_code 53 = .ok (.sipush 248, 3) := by decide +kernel
theorem d3_56 : decode prog_70_method_2_code 56 = .ok (.if_icmp .lt 10, 3) := by decide +kernel
theorem d3_59 : decode prog_70_method_2_code 59 = .ok (.iload_n 0, 1) := by decide +kernel
theorem d3_60 : decode prog_70_method_2_code 60 = .ok (.sipush 767, 3) := by decide +kernel
theorem d3_63 : decode prog_70_method_2_code 63 = .ok (.if_icmp .le 122, 3) := by decide +kernel
theorem d3_66 : decode prog_70_method_2_code 66 = .ok (.iload_n 0, 1) := by decide +kernel
theorem d3_67 : decode prog_70_method_2_code 67 = .ok (.sipush 880, 3) := by decide +kernel
theorem d3_70 : decode prog_70_method_2_code 70 = .ok (.if_icmp .lt 10, 3) := by decide +kernel
theorem d3_73 : decode prog_70_method_2_code 73 = .ok (.iload_n 0, 1) := by decide +kernel
theorem d3_74 : decode prog_70_method_2_code 74 = .ok (.sipush 893, 3) := by decide +kernel
theorem d3_77 : decode prog_70_method_2_code 77 = .ok (.if_icmp .le 108, 3) := by decide +kernel
theorem d3_80 : decode prog_70_method_2_code 80 = .ok (.iload_n 0, 1) := by decide +kernel
theorem d3_81 : decode prog_70_method_2_code 81 = .ok (.sipush 895, 3) := by decide +kernel
theorem d3_84 : decode prog_70_method_2_code 84 = .ok (.if_icmp .lt 10, 3) := by decide +kernel
theorem d3_87 : decode prog_70_method_2_code 87 = .ok (.iload_n 0, 1) := by decide +kernel
theorem d3_88 : decode prog_70_method_2_code 88 = .ok (.sipush 8191, 3) := by decide +kernel
theorem d3_91 : decode prog_70_method_2_code 91 = .ok (.if_icmp .le 94, 3) := by decide +kernel
theorem d3_94 : decode prog_70_method_2_code 94 = .ok (.iload_n 0, 1) := by decide +kernel
theorem d3_95 : decode prog_70_method_2_code 95 = .ok (.sipush 8204, 3) := by decide +kernel
theorem d3_98 : decode prog_70_method_2_code 98 = .ok (.if_icmp .lt 10, 3) := by decide +kernel
theorem d3_101 : decode prog_70_method_2_code 101 = .ok (.iload_n 0, 1) := by decide +kernel
theorem d3_102 : decode prog_70_method_2_code 102 = .ok (.sipush 8205, 3) := by decide +kernel
theorem d3_105 : decode prog_70_method_2_code 105 = .ok (.if_icmp .le 80, 3) := by decide +kernel
theorem d3_108 : decode prog_70_method_2_code 108 = .ok (.iload_n 0, 1) := by decide +kernel
theorem d3_109 : decode prog_70_method_2_code 109 = .ok (.sipush 8304, 3) := by decide +kernel
theorem d3_112 : decode prog_70_method_2_code 112 = .ok (.if_icmp .lt 10, 3) := by decide +kernel
theorem d3_115 : decode prog_70_method_2_code 115 = .ok (.iload_n 0, 1) := by decide +kernel
theorem d3_116 : decode prog_70_method_2_code 116 = .ok (.sipush 8591, 3) := by decide +kernel
theorem d3_119 : decode prog_70_method_2_code 119 = .ok (.if_icmp .le 66, 3) := by decide +kernel
theorem d3_122 : decode prog_70_method_2_code 122 = .ok (.iload_n 0, 1) := by decide +kernel
theorem d3_123 : decode prog_70_method_2_code 123 = .ok (.sipush 11264, 3) := by decide +kernel
theorem d3_126 : decode prog_70_method_2_code 126 = .ok (.if_icmp .lt 10, 3) := by decide +kernel
theorem d3_129 : decode prog_70_method_2_code 129 = .ok (.iload_n 0, 1) := by decide +kernel
theorem d3_130 : decode prog_70_method_2_code 130 = .ok (.sipush 12271, 3) := by decide +kernel
theorem d3_133 : decode prog_70_method_2_code 133 = .ok (.if_icmp .le 52, 3) := by decide +kernel
theorem d3_136 : decode prog_70_method_2_code 136 = .ok (.iload_n 0, 1) := by decide +kernel
theorem d3_137 : decode prog_70_method_2_code 137 = .ok (.sipush 12289, 3) := by decide +kernel
theorem d3_140 : decode prog_70_method_2_code 140 = .ok (.if_icmp .lt 9, 3) := by decide +kernel
theorem d3_143 : decode prog_70_method_2_code 143 = .ok (.iload_n 0, 1) := by decide +kernel
theorem d3_144 : decode prog_70_method_2_code 144 = .ok (.ldc 7, 2) := by decide +kernel
theorem d3_146 : decode prog_70_method_2_code 146 = .ok (.if_icmp .le 39, 3) := by decide +kernel
theorem d3_149 : decode prog_70_method_2_code 149 = .ok (.iload_n 0, 1) := by decide +kernel
theorem d3_150 : decode prog_70_method_2_code 150 = .ok (.ldc 8, 2) := by decide +kernel
theorem d3_152 : decode prog_70_method_2_code 152 = .ok (.if_icmp .lt 9, 3) := by decide +kernel
theorem d3_155 : decode prog_70_method_2_code 155 = .ok (.iload_n 0, 1) := by decide +kernel
theorem d3_156 : decode prog_70_method_2_code 156 = .ok (.ldc 9, 2) := by decide +kernel
theorem d3_158 : decode prog_70_method_2_code 158 = .ok (.if_icmp .le 27, 3) := by decide +kernel
theorem d3_161 : decode prog_70_method_2_code 161 = .ok (.iload_n 0, 1) := by decide +kernel
theorem d3_162 : decode prog_70_method_2_code 162 = .ok (.ldc 10, 2) := by decide +kernel
theorem d3_164 : decode prog_70_method_2_code 164 = .ok (.if_icmp .lt 9, 3) := by decide +kernel
theorem d3_167 : decode prog_70_method_2_code 167 = .ok (.iload_n 0, 1) := by decide +kernel
theorem d3_168 : decode prog_70_method_2_code 168 = .ok (.ldc 11, 2) := by decide +kernel
theorem d3_170 : decode prog_70_method_2_code 170 = .ok (.if_icmp .le 15, 3) := by decide +kernel
theorem d3_173 : decode prog_70_method_2_code 173 = .ok (.iload_n 0, 1) := by decide +kernel
theorem d3_174 : decode prog_70_method_2_code 174 = .ok (.ldc 12, 2) := by decide +kernel
theorem d3_176 : decode prog_70_method_2_code 176 = .ok (.if_icmp .lt 13, 3) := by decide +kernel
theorem d3_179 : decode prog_70_method_2_code 179 = .ok (.iload_n 0, 1) := by decide +kernel
theorem d3_180 : decode prog_70_method_2_code 180 = .ok (.ldc 13, 2) := by decide +kernel
theorem d3_182 : decode prog_70_method_2_code 182 = .ok (.if_icmp .gt 7, 3) := by decide +kernel
theorem d3_185 : decode prog_70_method_2_code 185 = .ok (.iconst 1, 1) := by decide +kernel
theorem d3_186 : decode prog_70_method_2_code 186 = .ok (.goto 4, 3) := by decide +kernel
theorem d3_189 : decode prog_70_method_2_code 189 = .ok (.iconst 0, 1) := by decide +kernel
theorem d3_190 : decode prog_70_method_2_code 190 = .ok (.ireturn, 1) := by decide +kernel
theorem pn_3 : plainFor (⟨"com/example/taxigraph/taxigraph/NameCharacters", "isBase", "(I)Z"⟩ : MethodName) = true := by first | exact plainFor_of_name (by first | (simp [plainName, overriddenIn]; done) | decide +kernel) | decide +kernel
theorem ef_3 (m : MethodId) (y0 : Int32) : entryFrame m #[(.int y0)] 1 = mkF m 0 #[.val (.int y0)] [] := by first | (simp [entryFrame, mkF, argsToLocals, Value.category]; done) | rfl
def Q3 (Z : State)   (h0 : Heap) (n0 : Nat) (ans : Int32) (v : Option Value) (h : Heap) (L : List Loc) : Prop := v = some (.int ans) ∧ Fr n0 L ∧ h = h0
set_option maxRecDepth 65536 in
set_option maxHeartbeats 40000000 in
theorem rm3 (l : Launch) (Z : State) (a0 : Array Value) (hw : ∀ d ∈ tables_1, d.before a0 Z = true) (p0 : Int32)  (h0 : Heap) (n0 : Nat) (Z0 : n0 ≤ h0.size)  :
    Meets l Z (⟨"com/example/taxigraph/taxigraph/NameCharacters", "isBase", "(I)Z"⟩ : MethodName) prog_70_method_2_code 1 (some .boolean) [] ({ frames := 0, cells := 0, slots := 0, locals := 0 } : Room) #[(.int p0)] h0 (Q3 Z  h0 n0 (F3 p0)) 0 0 := by
  refine Meets.of pn_3 ?_
  intro p e s m below meth c s₁ hx hby hml hZ hown hnm hret hlk X0 e0
  have hml : c.maxLocals = 1 := hml
  have hown : s.vm.findClass "com/example/taxigraph/taxigraph/NameCharacters" = some m.cls := hown
  have N0 := Fr.nil n0
  have b190 : ∀ (T : State) (L : List Loc) (X : Stand p l e ({ frames := 0, cells := 0, slots := 0, locals := 0 } : Room) s m #[(.int p0)] below meth c T L 0 0) (eT : T.heap = h0) (N : Fr n0 L) (t0 : Int32) (d0 : Slot) (od0 : OneS d0), Ends p e below s 0 0 (Q3 Z  h0 n0 (F3_190 t0)) (T.setTop (mkF m 190 #[d0] [(.int t0)])) := by
    intro T L X eT N t0 d0 od0
    exact Ends.ret X (v := some (.int (nar .boolean t0))) (fun q => by rw [hret] at q; cases q) hlk (fun fs hr => retN X hx (t := .boolean) hret (by simp) (hb hby d3_190) hr) (by decide) (by decide) ⟨rfl, N, eT⟩
  have b185 : ∀ (T : State) (L : List Loc) (X : Stand p l e ({ frames := 0, cells := 0, slots := 0, locals := 0 } : Room) s m #[(.int p0)] below meth c T L 0 0) (eT : T.heap = h0) (N : Fr n0 L) (d0 : Slot) (od0 : OneS d0), Ends p e below s 0 0 (Q3 Z  h0 n0 F3_185) (T.setTop (mkF m 185 #[d0] [])) := by
    intro T L X eT N d0 od0
    refine Ends.step (u' := (T.setTop (mkF m 186 #[d0] [(.int (1 : Int32))]))) ?_ (fun _ k => XT.iconstV X.here hx rfl (1 : Int32) (hb hby d3_185) rfl k)
    refine Ends.step (u' := (T.setTop (mkF m 190 #[d0] [(.int (1 : Int32))]))) ?_ (fun _ k => XS.goto X.here hx rfl (pc0 := 186) (pc' := 190) rfl (hb hby d3_186) (by decide) (by decide) k)
    exact b190 T _ X eT N (1 : Int32) (d0) od0
  have b189 : ∀ (T : State) (L : List Loc) (X : Stand p l e ({ frames := 0, cells := 0, slots := 0, locals := 0 } : Room) s m #[(.int p0)] below meth c T L 0 0) (eT : T.heap = h0) (N : Fr n0 L) (d0 : Slot) (od0 : OneS d0), Ends p e below s 0 0 (Q3 Z  h0 n0 F3_189) (T.setTop (mkF m 189 #[d0] [])) := by
    intro T L X eT N d0 od0
    refine Ends.step (u' := (T.setTop (mkF m 190 #[d0] [(.int (0 : Int32))]))) ?_ (fun _ k => XT.iconstV X.here hx rfl (0 : Int32) (hb hby d3_189) rfl k)
    exact b190 T _ X eT N (0 : Int32) (d0) od0
  have b179 : ∀ (T : State) (L : List Loc) (X : Stand p l e ({ frames := 0, cells := 0, slots := 0, locals := 0 } : Room) s m #[(.int p0)] below meth c T L 0 0) (eT : T.heap = h0) (N : Fr n0 L) (x0 : Int32), Ends p e below s 0 0 (Q3 Z  h0 n0 (F3_179 x0)) (T.setTop (mkF m 179 #[.val (.int x0)] [])) := by
    intro T L X eT N x0
    refine Ends.step (u' := (T.setTop (mkF m 180 #[.val (.int x0)] [(.int x0)]))) ?_ (fun _ k => XS.iloadN X.here hx rfl (hb hby d3_179) rfl k)
    refine Ends.step (u' := (T.setTop (mkF m 182 #[.val (.int x0)] [(.int (983039 : Int32)), (.int x0)]))) ?_ (fun _ k => X.ldcI hx hown (mvT hZ (hw _ (List.mem_of_getElem? (i := 24) rfl))) rfl (hb hby d3_180) k)
    by_cases hc182 : (983039 : Int32) < x0
    · refine Eq.mp (congrArg (fun z => Ends p e below s 0 0 (Q3 Z  h0 n0 z) (T.setTop (mkF m 182 #[.val (.int x0)] [(.int (983039 : Int32)), (.int x0)]))) (show (F3_179 x0) = F3_189 from (if_pos hc182)).symm) ?_
      refine Ends.step (u' := (T.setTop (mkF m 189 #[.val (.int x0)] []))) ?_ (fun _ k => XS.icmpYes X.here hx rfl (pc0 := 182) (pc' := 189) rfl (hb hby d3_182) rfl (XT.ii_gt_t hc182) (by decide) (by decide) k)
      exact b189 T _ X eT N (.val (.int x0)) (Or.inr ⟨_, rfl, rfl⟩)
    · refine Eq.mp (congrArg (fun z => Ends p e below s 0 0 (Q3 Z  h0 n0 z) (T.setTop (mkF m 182 #[.val (.int x0)] [(.int (983039 : Int32)), (.int x0)]))) (show (F3_179 x0) = F3_185 from (if_neg hc182)).symm) ?_
      refine Ends.step (u' := (T.setTop (mkF m 185 #[.val (.int x0)] []))) ?_ (fun _ k => XS.icmpNo X.here hx rfl (hb hby d3_182) rfl (XT.ii_gt_f hc182) k)
      exact b185 T _ X eT N (.val (.int x0)) (Or.inr ⟨_, rfl, rfl⟩)
  have b173 : ∀ (T : State) (L : List Loc) (X : Stand p l e ({ frames := 0, cells := 0, slots := 0, locals := 0 } : Room) s m #[(.int p0)] below meth c T L 0 0) (eT : T.heap = h0) (N : Fr n0 L) (x0 : Int32), Ends p e below s 0 0 (Q3 Z  h0 n0 (F3_173 x0)) (T.setTop (mkF m 173 #[.val (.int x0)] [])) := by
    intro T L X eT N x0
    refine Ends.step (u' := (T.setTop (mkF m 174 #[.val (.int x0)] [(.int x0)]))) ?_ (fun _ k => XS.iloadN X.here hx rfl (hb hby d3_173) rfl k)
    refine Ends.step (u' := (T.setTop (mkF m 176 #[.val (.int x0)] [(.int (65536 : Int32)), (.int x0)]))) ?_ (fun _ k => X.ldcI hx hown (mvT hZ (hw _ (List.mem_of_getElem? (i := 20) rfl))) rfl (hb hby d3_174) k)
    by_cases hc176 : x0 < (65536 : Int32)
    · refine Eq.mp (congrArg (fun z => Ends p e below s 0 0 (Q3 Z  h0 n0 z) (T.setTop (mkF m 176 #[.val (.int x0)] [(.int (65536 : Int32)), (.int x0)]))) (show (F3_173 x0) = F3_189 from (if_pos hc176)).symm) ?_
      refine Ends.step (u' := (T.setTop (mkF m 189 #[.val (.int x0)] []))) ?_ (fun _ k => XS.icmpYes X.here hx rfl (pc0 := 176) (pc' := 189) rfl (hb hby d3_176) rfl (XT.ii_lt_t hc176) (by decide) (by decide) k)
      exact b189 T _ X eT N (.val (.int x0)) (Or.inr ⟨_, rfl, rfl⟩)
    · refine Eq.mp (congrArg (fun z => Ends p e below s 0 0 (Q3 Z  h0 n0 z) (T.setTop (mkF m 176 #[.val (.int x0)] [(.int (65536 : Int32)), (.int x0)]))) (show (F3_173 x0) = (F3_179 x0) from (if_neg hc176)).symm) ?_
      refine Ends.step (u' := (T.setTop (mkF m 179 #[.val (.int x0)] []))) ?_ (fun _ k => XS.icmpNo X.here hx rfl (hb hby d3_176) rfl (XT.ii_lt_f hc176) k)
      exact b179 T _ X eT N x0
  have b167 : ∀ (T : State) (L : List Loc) (X : Stand p l e ({ frames := 0, cells := 0, slots := 0, locals := 0 } : Room) s m #[(.int p0)] below meth c T L 0 0) (eT : T.heap = h0) (N : Fr n0 L) (x0 : Int32), Ends p e below s 0 0 (Q3 Z  h0 n0 (F3_167 x0)) (T.setTop (mkF m 167 #[.val (.int x0)] [])) := by
    intro T L X eT N x0
    refine Ends.step (u' := (T.setTop (mkF m 168 #[.val (.int x0)] [(.int x0)]))) ?_ (fun _ k => XS.iloadN X.here hx rfl (hb hby d3_167) rfl k)
    refine Ends.step (u' := (T.setTop (mkF m 170 #[.val (.int x0)] [(.int (65533 : Int32)), (.int x0)]))) ?_ (fun _ k => X.ldcI hx hown (mvT hZ (hw _ (List.mem_of_getElem? (i := 23) rfl))) rfl (hb hby d3_168) k)
    by_cases hc170 : (65533 : Int32) < x0
    · refine Eq.mp (congrArg (fun z => Ends p e below s 0 0 (Q3 Z  h0 n0 z) (T.setTop (mkF m 170 #[.val (.int x0)] [(.int (65533 : Int32)), (.int x0)]))) (show (F3_167 x0) = (F3_173 x0) from (if_pos hc170)).symm) ?_
      refine Ends.step (u' := (T.setTop (mkF m 173 #[.val (.int x0)] []))) ?_ (fun _ k => XS.icmpNo X.here hx rfl (hb hby d3_170) rfl (XT.ii_le_f hc170) k)
      exact b173 T _ X eT N x0
    · refine Eq.mp (congrArg (fun z => Ends p e below s 0 0 (Q3 Z  h0 n0 z) (T.setTop (mkF m 170 #[.val (.int x0)] [(.int (65533 : Int32)), (.int x0)]))) (show (F3_167 x0) = F3_185 from (if_neg hc170)).symm) ?_
      refine Ends.step (u' := (T.setTop (mkF m 185 #[.val (.int x0)] []))) ?_ (fun _ k => XS.icmpYes X.here hx rfl (pc0 := 170) (pc' := 185) rfl (hb hby d3_170) rfl (XT.ii_le_t hc170) (by decide) (by decide) k)
      exact b185 T _ X eT N (.val (.int x0)) (Or.inr ⟨_, rfl, rfl⟩)
  have b161 : ∀ (T : State) (L : List Loc) (X : Stand p l e ({ frames := 0, cells := 0, slots := 0, locals := 0 } : Room) s m #[(.int p0)] below meth c T L 0 0) (eT : T.heap = h0) (N : Fr n0 L) (x0 : Int32), Ends p e below s 0 0 (Q3 Z  h0 n0 (F3_161 x0)) (T.setTop (mkF m 161 #[.val (.int x0)] [])) := by
    intro T L X eT N x0
    refine Ends.step (u' := (T.setTop (mkF m 162 #[.val (.int x0)] [(.int x0)]))) ?_ (fun _ k => XS.iloadN X.here hx rfl (hb hby d3_161) rfl k)
    refine Ends.step (u' := (T.setTop (mkF m 164 #[.val (.int x0)] [(.int (65008 : Int32)), (.int x0)]))) ?_ (fun _ k => X.ldcI hx hown (mvT hZ (hw _ (List.mem_of_getElem? (i := 19) rfl))) rfl (hb hby d3_162) k)
    by_cases hc164 : x0 < (65008 : Int32)
    · refine Eq.mp (congrArg (fun z => Ends p e below s 0 0 (Q3 Z  h0 n0 z) (T.setTop (mkF m 164 #[.val (.int x0)] [(.int (65008 : Int32)), (.int x0)]))) (show (F3_161 x0) = (F3_173 x0) from (if_pos hc164)).symm) ?_
      refine Ends.step (u' := (T.setTop (mkF m 173 #[.val (.int x0)] []))) ?_ (fun _ k => XS.icmpYes X.here hx rfl (pc0 := 164) (pc' := 173) rfl (hb hby d3_164) rfl (XT.ii_lt_t hc164) (by decide) (by decide) k)
      exact b173 T _ X eT N x0
    · refine Eq.mp (congrArg (fun z => Ends p e below s 0 0 (Q3 Z  h0 n0 z) (T.setTop (mkF m 164 #[.val (.int x0)] [(.int (65008 : Int32)), (.int x0)]))) (show (F3_161 x0) = (F3_167 x0) from (if_neg hc164)).symm) ?_
      refine Ends.step (u' := (T.setTop (mkF m 167 #[.val (.int x0)] []))) ?_ (fun _ k => XS.icmpNo X.here hx rfl (hb hby d3_164) rfl (XT.ii_lt_f hc164) k)
      exact b167 T _ X eT N x0
  have b155 : ∀ (T : State) (L : List Loc) (X : Stand p l e ({ frames := 0, cells := 0, slots := 0, locals := 0 } : Room) s m #[(.int p0)] below meth c T L 0 0) (eT : T.heap = h0) (N : Fr n0 L) (x0 : Int32), Ends p e below s 0 0 (Q3 Z  h0 n0 (F3_155 x0)) (T.setTop (mkF m 155 #[.val (.int x0)] [])) := by
    intro T L X eT N x0
    refine Ends.step (u' := (T.setTop (mkF m 156 #[.val (.int x0)] [(.int x0)]))) ?_ (fun _ k => XS.iloadN X.here hx rfl (hb hby d3_155) rfl k)
    refine Ends.step (u' := (T.setTop (mkF m 158 #[.val (.int x0)] [(.int (64975 : Int32)), (.int x0)]))) ?_ (fun _ k => X.ldcI hx hown (mvT hZ (hw _ (List.mem_of_getElem? (i := 22) rfl))) rfl (hb hby d3_156) k)
    by_cases hc158 : (64975 : Int32) < x0
    · refine Eq.mp (congrArg (fun z => Ends p e below s 0 0 (Q3 Z  h0 n0 z) (T.setTop (mkF m 158 #[.val (.int x0)] [(.int (64975 : Int32)), (.int x0)]))) (show (F3_155 x0) = (F3_161 x0) from (if_pos hc158)).symm) ?_
      refine Ends.step (u' := (T.setTop (mkF m 161 #[.val (.int x0)] []))) ?_ (fun _ k => XS.icmpNo X.here hx rfl (hb hby d3_158) rfl (XT.ii_le_f hc158) k)
      exact b161 T _ X eT N x0
    · refine Eq.mp (congrArg (fun z => Ends p e below s 0 0 (Q3 Z  h0 n0 z) (T.setTop (mkF m 158 #[.val (.int x0)] [(.int (64975 : Int32)), (.int x0)]))) (show (F3_155 x0) = F3_185 from (if_neg hc158)).symm) ?_
      refine Ends.step (u' := (T.setTop (mkF m 185 #[.val (.int x0)] []))) ?_ (fun _ k => XS.icmpYes X.here hx rfl (pc0 := 158) (pc' := 185) rfl (hb hby d3_158) rfl (XT.ii_le_t hc158) (by decide) (by decide) k)
      exact b185 T _ X eT N (.val (.int x0)) (Or.inr ⟨_, rfl, rfl⟩)
  have b149 : ∀ (T : State) (L : List Loc) (X : Stand p l e ({ frames := 0, cells := 0, slots := 0, locals := 0 } : Room) s m #[(.int p0)] below meth c T L 0 0) (eT : T.heap = h0) (N : Fr n0 L) (x0 : Int32), Ends p e below s 0 0 (Q3 Z  h0 n0 (F3_149 x0)) (T.setTop (mkF m 149 #[.val (.int x0)] [])) := by
    intro T L X eT N x0
    refine Ends.step (u' := (T.setTop (mkF m 150 #[.val (.int x0)] [(.int x0)]))) ?_ (fun _ k => XS.iloadN X.here hx rfl (hb hby d3_149) rfl k)
    refine Ends.step (u' := (T.setTop (mkF m 152 #[.val (.int x0)] [(.int (63744 : Int32)), (.int x0)]))) ?_ (fun _ k => X.ldcI hx hown (mvT hZ (hw _ (List.mem_of_getElem? (i := 18) rfl))) rfl (hb hby d3_150) k)
    by_cases hc152 : x0 < (63744 : Int32)
    · refine Eq.mp (congrArg (fun z => Ends p e below s 0 0 (Q3 Z  h0 n0 z) (T.setTop (mkF m 152 #[.val (.int x0)] [(.int (63744 : Int32)), (.int x0)]))) (show (F3_149 x0) = (F3_161 x0) from (if_pos hc152)).symm) ?_
      refine Ends.step (u' := (T.setTop (mkF m 161 #[.val (.int x0)] []))) ?_ (fun _ k => XS.icmpYes X.here hx rfl (pc0 := 152) (pc' := 161) rfl (hb hby d3_152) rfl (XT.ii_lt_t hc152) (by decide) (by decide) k)
      exact b161 T _ X eT N x0
    · refine Eq.mp (congrArg (fun z => Ends p e below s 0 0 (Q3 Z  h0 n0 z) (T.setTop (mkF m 152 #[.val (.int x0)] [(.int (63744 : Int32)), (.int x0)]))) (show (F3_149 x0) = (F3_155 x0) from (if_neg hc152)).symm) ?_
      refine Ends.step (u' := (T.setTop (mkF m 155 #[.val (.int x0)] []))) ?_ (fun _ k => XS.icmpNo X.here hx rfl (hb hby d3_152) rfl (XT.ii_lt_f hc152) k)
      exact b155 T _ X eT N x0
  have b143 : ∀ (T : State) (L : List Loc) (X : Stand p l e ({ frames := 0, cells := 0, slots := 0, locals := 0 } : Room) s m #[(.int p0)] below meth c T L 0 0) (eT : T.heap = h0) (N : Fr n0 L) (x0 : Int32), Ends p e below s 0 0 (Q3 Z  h0 n0 (F3_143 x0)) (T.setTop (mkF m 143 #[.val (.int x0)] [])) := by
    intro T L X eT N x0
    refine Ends.step (u' := (T.setTop (mkF m 144 #[.val (.int x0)] [(.int x0)]))) ?_ (fun _ k => XS.iloadN X.here hx rfl (hb hby d3_143) rfl k)
    refine Ends.step (u' := (T.setTop (mkF m 146 #[.val (.int x0)] [(.int (55295 : Int32)), (.int x0)]))) ?_ (fun _ k => X.ldcI hx hown (mvT hZ (hw _ (List.mem_of_getElem? (i := 21) rfl))) rfl (hb hby d3_144) k)
    by_cases hc146 : (55295 : Int32) < x0
    · refine Eq.mp (congrArg (fun z => Ends p e below s 0 0 (Q3 Z  h0 n0 z) (T.setTop (mkF m 146 #[.val (.int x0)] [(.int (55295 : Int32)), (.int x0)]))) (show (F3_143 x0) = (F3_149 x0) from (if_pos hc146)).symm) ?_
      refine Ends.step (u' := (T.setTop (mkF m 149 #[.val (.int x0)] []))) ?_ (fun _ k => XS.icmpNo X.here hx rfl (hb hby d3_146) rfl (XT.ii_le_f hc146) k)
      exact b149 T _ X eT N x0
    · refine Eq.mp (congrArg (fun z => Ends p e below s 0 0 (Q3 Z  h0 n0 z) (T.setTop (mkF m 146 #[.val (.int x0)] [(.int (55295 : Int32)), (.int x0)]))) (show (F3_143 x0) = F3_185 from (if_neg hc146)).symm) ?_
      refine Ends.step (u' := (T.setTop (mkF m 185 #[.val (.int x0)] []))) ?_ (fun _ k => XS.icmpYes X.here hx rfl (pc0 := 146) (pc' := 185) rfl (hb hby d3_146) rfl (XT.ii_le_t hc146) (by decide) (by decide) k)
      exact b185 T _ X eT N (.val (.int x0)) (Or.inr ⟨_, rfl, rfl⟩)
  have b136 : ∀ (T : State) (L : List Loc) (X : Stand p l e ({ frames := 0, cells := 0, slots := 0, locals := 0 } : Room) s m #[(.int p0)] below meth c T L 0 0) (eT : T.heap = h0) (N : Fr n0 L) (x0 : Int32), Ends p e below s 0 0 (Q3 Z  h0 n0 (F3_136 x0)) (T.setTop (mkF m 136 #[.val (.int x0)] [])) := by
    intro T L X eT N x0
    refine Ends.step (u' := (T.setTop (mkF m 137 #[.val (.int x0)] [(.int x0)]))) ?_ (fun _ k => XS.iloadN X.here hx rfl (hb hby d3_136) rfl k)
    refine Ends.step (u' := (T.setTop (mkF m 140 #[.val (.int x0)] [(.int (12289 : Int32)), (.int x0)]))) ?_ (fun _ k => XT.sipushV X.here hx rfl (12289 : Int32) (hb hby d3_137) rfl k)
    by_cases hc140 : x0 < (12289 : Int32)
    · refine Eq.mp (congrArg (fun z => Ends p e below s 0 0 (Q3 Z  h0 n0 z) (T.setTop (mkF m 140 #[.val (.int x0)] [(.int (12289 : Int32)), (.int x0)]))) (show (F3_136 x0) = (F3_149 x0) from (if_pos hc140)).symm) ?_
      refine Ends.step (u' := (T.setTop (mkF m 149 #[.val (.int x0)] []))) ?_ (fun _ k => XS.icmpYes X.here hx rfl (pc0 := 140) (pc' := 149) rfl (hb hby d3_140) rfl (XT.ii_lt_t hc140) (by decide) (by decide) k)
      exact b149 T _ X eT N x0
    · refine Eq.mp (congrArg (fun z => Ends p e below s 0 0 (Q3 Z  h0 n0 z) (T.setTop (mkF m 140 #[.val (.int x0)] [(.int (12289 : Int32)), (.int x0)]))) (show (F3_136 x0) = (F3_143 x0) from (if_neg hc140)).symm) ?_
      refine Ends.step (u' := (T.setTop (mkF m 143 #[.val (.int x0)] []))) ?_ (fun _ k => XS.icmpNo X.here hx rfl (hb hby d3_140) rfl (XT.ii_lt_f hc140) k)
      exact b143 T _ X eT N x0
  have b129 : ∀ (T : State) (L : List Loc) (X : Stand p l e ({ frames := 0, cells := 0, slots := 0, locals := 0 } : Room) s m #[(.int p0)] below meth c T L 0 0) (eT : T.heap = h0) (N : Fr n0 L) (x0 : Int32), Ends p e below s 0 0 (Q3 Z  h0 n0 (F3_129 x0)) (T.setTop (mkF m 129 #[.val (.int x0)] [])) := by
    intro T L X eT N x0
    refine Ends.step (u' := (T.setTop (mkF m 130 #[.val (.int x0)] [(.int x0)]))) ?_ (fun _ k => XS.iloadN X.here hx rfl (hb hby d3_129) rfl k)
    refine Ends.step (u' := (T.setTop (mkF m 133 #[.val (.int x0)] [(.int (12271 : Int32)), (.int x0)]))) ?_ (fun _ k => XT.sipushV X.here hx rfl (12271 : Int32) (hb hby d3_130) rfl k)
    by_cases hc133 : (12271 : Int32) < x0
    · refine Eq.mp (congrArg (fun z => Ends p e below s 0 0 (Q3 Z  h0 n0 z) (T.setTop (mkF m 133 #[.val (.int x0)] [(.int (12271 : Int32)), (.int x0)]))) (show (F3_129 x0) = (F3_136 x0) from (if_pos hc133)).symm) ?_
      refine Ends.step (u' := (T.setTop (mkF m 136 #[.val (.int x0)] []))) ?_ (fun _ k => XS.icmpNo X.here hx rfl (hb hby d3_133) rfl (XT.ii_le_f hc133) k)
      exact b136 T _ X eT N x0
    · refine Eq.mp (congrArg (fun z => Ends p e below s 0 0 (Q3 Z  h0 n0 z) (T.setTop (mkF m 133 #[.val (.int x0)] [(.int (12271 : Int32)), (.int x0)]))) (show (F3_129 x0) = F3_185 from (if_neg hc133)).symm) ?_
      refine Ends.step (u' := (T.setTop (mkF m 185 #[.val (.int x0)] []))) ?_ (fun _ k => XS.icmpYes X.here hx rfl (pc0 := 133) (pc' := 185) rfl (hb hby d3_133) rfl (XT.ii_le_t hc133) (by decide) (by decide) k)
      exact b185 T _ X eT N (.val (.int x0)) (Or.inr ⟨_, rfl, rfl⟩)
  have b122 : ∀ (T : State) (L : List Loc) (X : Stand p l e ({ frames := 0, cells := 0, slots := 0, locals := 0 } : Room) s m #[(.int p0)] below meth c T L 0 0) (eT : T.heap = h0) (N : Fr n0 L) (x0 : Int32), Ends p e below s 0 0 (Q3 Z  h0 n0 (F3_122 x0)) (T.setTop (mkF m 122 #[.val (.int x0)] [])) := by
    intro T L X eT N x0
    refine Ends.step (u' := (T.setTop (mkF m 123 #[.val (.int x0)] [(.int x0)]))) ?_ (fun _ k => XS.iloadN X.here hx rfl (hb hby d3_122) rfl k)
    refine Ends.step (u' := (T.setTop (mkF m 126 #[.val (.int x0)] [(.int (11264 : Int32)), (.int x0)]))) ?_ (fun _ k => XT.sipushV X.here hx rfl (11264 : Int32) (hb hby d3_123) rfl k)
    by_cases hc126 : x0 < (11264 : Int32)
    · refine Eq.mp (congrArg (fun z => Ends p e below s 0 0 (Q3 Z  h0 n0 z) (T.setTop (mkF m 126 #[.val (.int x0)] [(.int (11264 : Int32)), (.int x0)]))) (show (F3_122 x0) = (F3_136 x0) from (if_pos hc126)).symm) ?_
      refine Ends.step (u' := (T.setTop (mkF m 136 #[.val (.int x0)] []))) ?_ (fun _ k => XS.icmpYes X.here hx rfl (pc0 := 126) (pc' := 136) rfl (hb hby d3_126) rfl (XT.ii_lt_t hc126) (by decide) (by decide) k)
      exact b136 T _ X eT N x0
    · refine Eq.mp (congrArg (fun z => Ends p e below s 0 0 (Q3 Z  h0 n0 z) (T.setTop (mkF m 126 #[.val (.int x0)] [(.int (11264 : Int32)), (.int x0)]))) (show (F3_122 x0) = (F3_129 x0) from (if_neg hc126)).symm) ?_
      refine Ends.step (u' := (T.setTop (mkF m 129 #[.val (.int x0)] []))) ?_ (fun _ k => XS.icmpNo X.here hx rfl (hb hby d3_126) rfl (XT.ii_lt_f hc126) k)
      exact b129 T _ X eT N x0
  have b115 : ∀ (T : State) (L : List Loc) (X : Stand p l e ({ frames := 0, cells := 0, slots := 0, locals := 0 } : Room) s m #[(.int p0)] below meth c T L 0 0) (eT : T.heap = h0) (N : Fr n0 L) (x0 : Int32), Ends p e below s 0 0 (Q3 Z  h0 n0 (F3_115 x0)) (T.setTop (mkF m 115 #[.val (.int x0)] [])) := by
    intro T L X eT N x0
    refine Ends.step (u' := (T.setTop (mkF m 116 #[.val (.int x0)] [(.int x0)]))) ?_ (fun _ k => XS.iloadN X.here hx rfl (hb hby d3_115) rfl k)
    refine Ends.step (u' := (T.setTop (mkF m 119 #[.val (.int x0)] [(.int (8591 : Int32)), (.int x0)]))) ?_ (fun _ k => XT.sipushV X.here hx rfl (8591 : Int32) (hb hby d3_116) rfl k)
    by_cases hc119 : (8591 : Int32) < x0
    · refine Eq.mp (congrArg (fun z => Ends p e below s 0 0 (Q3 Z  h0 n0 z) (T.setTop (mkF m 119 #[.val (.int x0)] [(.int (8591 : Int32)), (.int x0)]))) (show (F3_115 x0) = (F3_122 x0) from (if_pos hc119)).symm) ?_
      refine Ends.step (u' := (T.setTop (mkF m 122 #[.val (.int x0)] []))) ?_ (fun _ k => XS.icmpNo X.here hx rfl (hb hby d3_119) rfl (XT.ii_le_f hc119) k)
      exact b122 T _ X eT N x0
    · refine Eq.mp (congrArg (fun z => Ends p e below s 0 0 (Q3 Z  h0 n0 z) (T.setTop (mkF m 119 #[.val (.int x0)] [(.int (8591 : Int32)), (.int x0)]))) (show (F3_115 x0) = F3_185 from (if_neg hc119)).symm) ?_
      refine Ends.step (u' := (T.setTop (mkF m 185 #[.val (.int x0)] []))) ?_ (fun _ k => XS.icmpYes X.here hx rfl (pc0 := 119) (pc' := 185) rfl (hb hby d3_119) rfl (XT.ii_le_t hc119) (by decide) (by decide) k)
      exact b185 T _ X eT N (.val (.int x0)) (Or.inr ⟨_, rfl, rfl⟩)
  have b108 : ∀ (T : State) (L : List Loc) (X : Stand p l e ({ frames := 0, cells := 0, slots := 0, locals := 0 } : Room) s m #[(.int p0)] below meth c T L 0 0) (eT : T.heap = h0) (N : Fr n0 L) (x0 : Int32), Ends p e below s 0 0 (Q3 Z  h0 n0 (F3_108 x0)) (T.setTop (mkF m 108 #[.val (.int x0)] [])) := by
    intro T L X eT N x0
    refine Ends.step (u' := (T.setTop (mkF m 109 #[.val (.int x0)] [(.int x0)]))) ?_ (fun _ k => XS.iloadN X.here hx rfl (hb hby d3_108) rfl k)
    refine Ends.step (u' := (T.setTop (mkF m 112 #[.val (.int x0)] [(.int (8304 : Int32)), (.int x0)]))) ?_ (fun _ k => XT.sipushV X.here hx rfl (8304 : Int32) (hb hby d3_109) rfl k)
    by_cases hc112 : x0 < (8304 : Int32)
    · refine Eq.mp (congrArg (fun z => Ends p e below s 0 0 (Q3 Z  h0 n0 z) (T.setTop (mkF m 112 #[.val (.int x0)] [(.int (8304 : Int32)), (.int x0)]))) (show (F3_108 x0) = (F3_122 x0) from (if_pos hc112)).symm) ?_
      refine Ends.step (u' := (T.setTop (mkF m 122 #[.val (.int x0)] []))) ?_ (fun _ k => XS.icmpYes X.here hx rfl (pc0 := 112) (pc' := 122) rfl (hb hby d3_112) rfl (XT.ii_lt_t hc112) (by decide) (by decide) k)
      exact b122 T _ X eT N x0
    · refine Eq.mp (congrArg (fun z => Ends p e below s 0 0 (Q3 Z  h0 n0 z) (T.setTop (mkF m 112 #[.val (.int x0)] [(.int (8304 : Int32)), (.int x0)]))) (show (F3_108 x0) = (F3_115 x0) from (if_neg hc112)).symm) ?_
      refine Ends.step (u' := (T.setTop (mkF m 115 #[.val (.int x0)] []))) ?_ (fun _ k => XS.icmpNo X.here hx rfl (hb hby d3_112) rfl (XT.ii_lt_f hc112) k)
      exact b115 T _ X eT N x0
  have b101 : ∀ (T : State) (L : List Loc) (X : Stand p l e ({ frames := 0, cells := 0, slots := 0, locals := 0 } : Room) s m #[(.int p0)] below meth c T L 0 0) (eT : T.heap = h0) (N : Fr n0 L) (x0 : Int32), Ends p e below s 0 0 (Q3 Z  h0 n0 (F3_101 x0)) (T.setTop (mkF m 101 #[.val (.int x0)] [])) := by
    intro T L X eT N x0
    refine Ends.step (u' := (T.setTop (mkF m 102 #[.val (.int x0)] [(.int x0)]))) ?_ (fun _ k => XS.iloadN X.here hx rfl (hb hby d3_101) rfl k)
    refine Ends.step (u' := (T.setTop (mkF m 105 #[.val (.int x0)] [(.int (8205 : Int32)), (.int x0)]))) ?_ (fun _ k => XT.sipushV X.here hx rfl (8205 : Int32) (hb hby d3_102) rfl k)
    by_cases hc105 : (8205 : Int32) < x0
    · refine Eq.mp (congrArg (fun z => Ends p e below s 0 0 (Q3 Z  h0 n0 z) (T.setTop (mkF m 105 #[.val (.int x0)] [(.int (8205 : Int32)), (.int x0)]))) (show (F3_101 x0) = (F3_108 x0) from (if_pos hc105)).symm) ?_
      refine Ends.step (u' := (T.setTop (mkF m 108 #[.val (.int x0)] []))) ?_ (fun _ k => XS.icmpNo X.here hx rfl (hb hby d3_105) rfl (XT.ii_le_f hc105) k)
      exact b108 T _ X eT N x0
    · refine Eq.mp (congrArg (fun z => Ends p e below s 0 0 (Q3 Z  h0 n0 z) (T.setTop (mkF m 105 #[.val (.int x0)] [(.int (8205 : Int32)), (.int x0)]))) (show (F3_101 x0) = F3_185 from (if_neg hc105)).symm) ?_
      refine Ends.step (u' := (T.setTop (mkF m 185 #[.val (.int x0)] []))) ?_ (fun _ k => XS.icmpYes X.here hx rfl (pc0 := 105) (pc' := 185) rfl (hb hby d3_105) rfl (XT.ii_le_t hc105) (by decide) (by decide) k)
      exact b185 T _ X eT N (.val (.int x0)) (Or.inr ⟨_, rfl, rfl⟩)
  have b94 : ∀ (T : State) (L : List Loc) (X : Stand p l e ({ frames := 0, cells := 0, slots := 0, locals := 0 } : Room) s m #[(.int p0)] below meth c T L 0 0) (eT : T.heap = h0) (N : Fr n0 L) (x0 : Int32), Ends p e below s 0 0 (Q3 Z  h0 n0 (F3_94 x0)) (T.setTop (mkF m 94 #[.val (.int x0)] [])) := by
    intro T L X eT N x0
    refine Ends.step (u' := (T.setTop (mkF m 95 #[.val (.int x0)] [(.int x0)]))) ?_ (fun _ k => XS.iloadN X.here hx rfl (hb hby d3_94) rfl k)
    refine Ends.step (u' := (T.setTop (mkF m 98 #[.val (.int x0)] [(.int (8204 : Int32)), (.int x0)]))) ?_ (fun _ k => XT.sipushV X.here hx rfl (8204 : Int32) (hb hby d3_95) rfl k)
    by_cases hc98 : x0 < (8204 : Int32)
    · refine Eq.mp (congrArg (fun z => Ends p e below s 0 0 (Q3 Z  h0 n0 z) (T.setTop (mkF m 98 #[.val (.int x0)] [(.int (8204 : Int32)), (.int x0)]))) (show (F3_94 x0) = (F3_108 x0) from (if_pos hc98)).symm) ?_
      refine Ends.step (u' := (T.setTop (mkF m 108 #[.val (.int x0)] []))) ?_ (fun _ k => XS.icmpYes X.here hx rfl (pc0 := 98) (pc' := 108) rfl (hb hby d3_98) rfl (XT.ii_lt_t hc98) (by decide) (by decide) k)
      exact b108 T _ X eT N x0
    · refine Eq.mp (congrArg (fun z => Ends p e below s 0 0 (Q3 Z  h0 n0 z) (T.setTop (mkF m 98 #[.val (.int x0)] [(.int (8204 : Int32)), (.int x0)]))) (show (F3_94 x0) = (F3_101 x0) from (if_neg hc98)).symm) ?_
      refine Ends.step (u' := (T.setTop (mkF m 101 #[.val (.int x0)] []))) ?_ (fun _ k => XS.icmpNo X.here hx rfl (hb hby d3_98) rfl (XT.ii_lt_f hc98) k)
      exact b101 T _ X eT N x0
  have b87 : ∀ (T : State) (L : List Loc) (X : Stand p l e ({ frames := 0, cells := 0, slots := 0, locals := 0 } : Room) s m #[(.int p0)] below meth c T L 0 0) (eT : T.heap = h0) (N : Fr n0 L) (x0 : Int32), Ends p e below s 0 0 (Q3 Z  h0 n0 (F3_87 x0)) (T.setTop (mkF m 87 #[.val (.int x0)] [])) := by
    intro T L X eT N x0
    refine Ends.step (u' := (T.setTop (mkF m 88 #[.val (.int x0)] [(.int x0)]))) ?_ (fun _ k => XS.iloadN X.here hx rfl (hb hby d3_87) rfl k)
    refine Ends.step (u' := (T.setTop (mkF m 91 #[.val (.int x0)] [(.int (8191 : Int32)), (.int x0)]))) ?_ (fun _ k => XT.sipushV X.here hx rfl (8191 : Int32) (hb hby d3_88) rfl k)
    by_cases hc91 : (8191 : Int32) < x0
    · refine Eq.mp (congrArg (fun z => Ends p e below s 0 0 (Q3 Z  h0 n0 z) (T.setTop (mkF m 91 #[.val (.int x0)] [(.int (8191 : Int32)), (.int x0)]))) (show (F3_87 x0) = (F3_94 x0) from (if_pos hc91)).symm) ?_
      refine Ends.step (u' := (T.setTop (mkF m 94 #[.val (.int x0)] []))) ?_ (fun _ k => XS.icmpNo X.here hx rfl (hb hby d3_91) rfl (XT.ii_le_f hc91) k)
      exact b94 T _ X eT N x0
    · refine Eq.mp (congrArg (fun z => Ends p e below s 0 0 (Q3 Z  h0 n0 z) (T.setTop (mkF m 91 #[.val (.int x0)] [(.int (8191 : Int32)), (.int x0)]))) (show (F3_87 x0) = F3_185 from (if_neg hc91)).symm) ?_
      refine Ends.step (u' := (T.setTop (mkF m 185 #[.val (.int x0)] []))) ?_ (fun _ k => XS.icmpYes X.here hx rfl (pc0 := 91) (pc' := 185) rfl (hb hby d3_91) rfl (XT.ii_le_t hc91) (by decide) (by decide) k)
      exact b185 T _ X eT N (.val (.int x0)) (Or.inr ⟨_, rfl, rfl⟩)
  have b80 : ∀ (T : State) (L : List Loc) (X : Stand p l e ({ frames := 0, cells := 0, slots := 0, locals := 0 } : Room) s m #[(.int p0)] below meth c T L 0 0) (eT : T.heap = h0) (N : Fr n0 L) (x0 : Int32), Ends p e below s 0 0 (Q3 Z  h0 n0 (F3_80 x0)) (T.setTop (mkF m 80 #[.val (.int x0)] [])) := by
    intro T L X eT N x0
    refine Ends.step (u' := (T.setTop (mkF m 81 #[.val (.int x0)] [(.int x0)]))) ?_ (fun _ k => XS.iloadN X.here hx rfl (hb hby d3_80) rfl k)
    refine Ends.step (u' := (T.setTop (mkF m 84 #[.val (.int x0)] [(.int (895 : Int32)), (.int x0)]))) ?_ (fun _ k => XT.sipushV X.here hx rfl (895 : Int32) (hb hby d3_81) rfl k)
    by_cases hc84 : x0 < (895 : Int32)
    · refine Eq.mp (congrArg (fun z => Ends p e below s 0 0 (Q3 Z  h0 n0 z) (T.setTop (mkF m 84 #[.val (.int x0)] [(.int (895 : Int32)), (.int x0)]))) (show (F3_80 x0) = (F3_94 x0) from (if_pos hc84)).symm) ?_
      refine Ends.step (u' := (T.setTop (mkF m 94 #[.val (.int x0)] []))) ?_ (fun _ k => XS.icmpYes X.here hx rfl (pc0 := 84) (pc' := 94) rfl (hb hby d3_84) rfl (XT.ii_lt_t hc84) (by decide) (by decide) k)
      exact b94 T _ X eT N x0
    · refine Eq.mp (congrArg (fun z => Ends p e below s 0 0 (Q3 Z  h0 n0 z) (T.setTop (mkF m 84 #[.val (.int x0)] [(.int (895 : Int32)), (.int x0)]))) (show (F3_80 x0) = (F3_87 x0) from (if_neg hc84)).symm) ?_
      refine Ends.step (u' := (T.setTop (mkF m 87 #[.val (.int x0)] []))) ?_ (fun _ k => XS.icmpNo X.here hx rfl (hb hby d3_84) rfl (XT.ii_lt_f hc84) k)
      exact b87 T _ X eT N x0
  have b73 : ∀ (T : State) (L : List Loc) (X : Stand p l e ({ frames := 0, cells := 0, slots := 0, locals := 0 } : Room) s m #[(.int p0)] below meth c T L 0 0) (eT : T.heap = h0) (N : Fr n0 L) (x0 : Int32), Ends p e below s 0 0 (Q3 Z  h0 n0 (F3_73 x0)) (T.setTop (mkF m 73 #[.val (.int x0)] [])) := by
    intro T L X eT N x0
    refine Ends.step (u' := (T.setTop (mkF m 74 #[.val (.int x0)] [(.int x0)]))) ?_ (fun _ k => XS.iloadN X.here hx rfl (hb hby d3_73) rfl k)
    refine Ends.step (u' := (T.setTop (mkF m 77 #[.val (.int x0)] [(.int (893 : Int32)), (.int x0)]))) ?_ (fun _ k => XT.sipushV X.here hx rfl (893 : Int32) (hb hby d3_74) rfl k)
    by_cases hc77 : (893 : Int32) < x0
    · refine Eq.mp (congrArg (fun z => Ends p e below s 0 0 (Q3 Z  h0 n0 z) (T.setTop (mkF m 77 #[.val (.int x0)] [(.int (893 : Int32)), (.int x0)]))) (show (F3_73 x0) = (F3_80 x0) from (if_pos hc77)).symm) ?_
      refine Ends.step (u' := (T.setTop (mkF m 80 #[.val (.int x0)] []))) ?_ (fun _ k => XS.icmpNo X.here hx rfl (hb hby d3_77) rfl (XT.ii_le_f hc77) k)
      exact b80 T _ X eT N x0
    · refine Eq.mp (congrArg (fun z => Ends p e below s 0 0 (Q3 Z  h0 n0 z) (T.setTop (mkF m 77 #[.val (.int x0)] [(.int (893 : Int32)), (.int x0)]))) (show (F3_73 x0) = F3_185 from (if_neg hc77)).symm) ?_
      refine Ends.step (u' := (T.setTop (mkF m 185 #[.val (.int x0)] []))) ?_ (fun _ k => XS.icmpYes X.here hx rfl (pc0 := 77) (pc' := 185) rfl (hb hby d3_77) rfl (XT.ii_le_t hc77) (by decide) (by decide) k)
      exact b185 T _ X eT N (.val (.int x0)) (Or.inr ⟨_, rfl, rfl⟩)
  have b66 : ∀ (T : State) (L : List Loc) (X : Stand p l e ({ frames := 0, cells := 0, slots := 0, locals := 0 } : Room) s m #[(.int p0)] below meth c T L 0 0) (eT : T.heap = h0) (N : Fr n0 L) (x0 : Int32), Ends p e below s 0 0 (Q3 Z  h0 n0 (F3_66 x0)) (T.setTop (mkF m 66 #[.val (.int x0)] [])) := by
    intro T L X eT N x0
    refine Ends.step (u' := (T.setTop (mkF m 67 #[.val (.int x0)] [(.int x0)]))) ?_ (fun _ k => XS.iloadN X.here hx rfl (hb hby d3_66) rfl k)
    refine Ends.step (u' := (T.setTop (mkF m 70 #[.val (.int x0)] [(.int (880 : Int32)), (.int x0)]))) ?_ (fun _ k => XT.sipushV X.here hx rfl (880 : Int32) (hb hby d3_67) rfl k)
    by_cases hc70 : x0 < (880 : Int32)
    · refine Eq.mp (congrArg (fun z => Ends p e below s 0 0 (Q3 Z  h0 n0 z) (T.setTop (mkF m 70 #[.val (.int x0)] [(.int (880 : Int32)), (.int x0)]))) (show (F3_66 x0) = (F3_80 x0) from (if_pos hc70)).symm) ?_
      refine Ends.step (u' := (T.setTop (mkF m 80 #[.val (.int x0)] []))) ?_ (fun _ k => XS.icmpYes X.here hx rfl (pc0 := 70) (pc' := 80) rfl (hb hby d3_70) rfl (XT.ii_lt_t hc70) (by decide) (by decide) k)
      exact b80 T _ X eT N x0
    · refine Eq.mp (congrArg (fun z => Ends p e below s 0 0 (Q3 Z  h0 n0 z) (T.setTop (mkF m 70 #[.val (.int x0)] [(.int (880 : Int32)), (.int x0)]))) (show (F3_66 x0) = (F3_73 x0) from (if_neg hc70)).symm) ?_
      refine Ends.step (u' := (T.setTop (mkF m 73 #[.val (.int x0)] []))) ?_ (fun _ k => XS.icmpNo X.here hx rfl (hb hby d3_70) rfl (XT.ii_lt_f hc70) k)
      exact b73 T _ X eT N x0
  have b59 : ∀ (T : State) (L : List Loc) (X : Stand p l e ({ frames := 0, cells := 0, slots := 0, locals := 0 } : Room) s m #[(.int p0)] below meth c T L 0 0) (eT : T.heap = h0) (N : Fr n0 L) (x0 : Int32), Ends p e below s 0 0 (Q3 Z  h0 n0 (F3_59 x0)) (T.setTop (mkF m 59 #[.val (.int x0)] [])) := by
    intro T L X eT N x0
    refine Ends.step (u' := (T.setTop (mkF m 60 #[.val (.int x0)] [(.int x0)]))) ?_ (fun _ k => XS.iloadN X.here hx rfl (hb hby d3_59) rfl k)
    refine Ends.step (u' := (T.setTop (mkF m 63 #[.val (.int x0)] [(.int (767 : Int32)), (.int x0)]))) ?_ (fun _ k => XT.sipushV X.here hx rfl (767 : Int32) (hb hby d3_60) rfl k)
    by_cases hc63 : (767 : Int32) < x0
    · refine Eq.mp (congrArg (fun z => Ends p e below s 0 0 (Q3 Z  h0 n0 z) (T.setTop (mkF m 63 #[.val (.int x0)] [(.int (767 : Int32)), (.int x0)]))) (show (F3_59 x0) = (F3_66 x0) from (if_pos hc63)).symm) ?_
      refine Ends.step (u' := (T.setTop (mkF m 66 #[.val (.int x0)] []))) ?_ (fun _ k => XS.icmpNo X.here hx rfl (hb hby d3_63) rfl (XT.ii_le_f hc63) k)
      exact b66 T _ X eT N x0
    · refine Eq.mp (congrArg (fun z => Ends p e below s 0 0 (Q3 Z  h0 n0 z) (T.setTop (mkF m 63 #[.val (.int x0)] [(.int (767 : Int32)), (.int x0)]))) (show (F3_59 x0) = F3_185 from (if_neg hc63)).symm) ?_
      refine Ends.step (u' := (T.setTop (mkF m 185 #[.val (.int x0)] []))) ?_ (fun _ k => XS.icmpYes X.here hx rfl (pc0 := 63) (pc' := 185) rfl (hb hby d3_63) rfl (XT.ii_le_t hc63) (by decide) (by decide) k)
      exact b185 T _ X eT N (.val (.int x0)) (Or.inr ⟨_, rfl, rfl⟩)
  have b52 : ∀ (T : State) (L : List Loc) (X : Stand p l e ({ frames := 0, cells := 0, slots := 0, locals := 0 } : Room) s m #[(.int p0)] below meth c T L 0 0) (eT : T.heap = h0) (N : Fr n0 L) (x0 : Int32), Ends p e below s 0 0 (Q3 Z  h0 n0 (F3_52 x0)) (T.setTop (mkF m 52 #[.val (.int x0)] [])) := by
    intro T L X eT N x0
    refine Ends.step (u' := (T.setTop (mkF m 53 #[.val (.int x0)] [(.int x0)]))) ?_ (fun _ k => XS.iloadN X.here hx rfl (hb hby d3_52) rfl k)
    refine Ends.step (u' := (T.setTop (mkF m 56 #[.val (.int x0)] [(.int (248 : Int32)), (.int x0)]))) ?_ (fun _ k => XT.sipushV X.here hx rfl (248 : Int32) (hb hby d3_53) rfl k)
    by_cases hc56 : x0 < (248 : Int32)
    · refine Eq.mp (congrArg (fun z => Ends p e below s 0 0 (Q3 Z  h0 n0 z) (T.setTop (mkF m 56 #[.val (.int x0)] [(.int (248 : Int32)), (.int x0)]))) (show (F3_52 x0) = (F3_66 x0) from (if_pos hc56)).symm) ?_
      refine Ends.step (u' := (T.setTop (mkF m 66 #[.val (.int x0)] []))) ?_ (fun _ k => XS.icmpYes X.here hx rfl (pc0 := 56) (pc' := 66) rfl (hb hby d3_56) rfl (XT.ii_lt_t hc56) (by decide) (by decide) k)
      exact b66 T _ X eT N x0
    · refine Eq.mp (congrArg (fun z => Ends p e below s 0 0 (Q3 Z  h0 n0 z) (T.setTop (mkF m 56 #[.val (.int x0)] [(.int (248 : Int32)), (.int x0)]))) (show (F3_52 x0) = (F3_59 x0) from (if_neg hc56)).symm) ?_
      refine Ends.step (u' := (T.setTop (mkF m 59 #[.val (.int x0)] []))) ?_ (fun _ k => XS.icmpNo X.here hx rfl (hb hby d3_56) rfl (XT.ii_lt_f hc56) k)
      exact b59 T _ X eT N x0
  have b45 : ∀ (T : State) (L : List Loc) (X : Stand p l e ({ frames := 0, cells := 0, slots := 0, locals := 0 } : Room) s m #[(.int p0)] below meth c T L 0 0) (eT : T.heap = h0) (N : Fr n0 L) (x0 : Int32), Ends p e below s 0 0 (Q3 Z  h0 n0 (F3_45 x0)) (T.setTop (mkF m 45 #[.val (.int x0)] [])) := by
    intro T L X eT N x0
    refine Ends.step (u' := (T.setTop (mkF m 46 #[.val (.int x0)] [(.int x0)]))) ?_ (fun _ k => XS.iloadN X.here hx rfl (hb hby d3_45) rfl k)
    refine Ends.step (u' := (T.setTop (mkF m 49 #[.val (.int x0)] [(.int (246 : Int32)), (.int x0)]))) ?_ (fun _ k => XT.sipushV X.here hx rfl (246 : Int32) (hb hby d3_46) rfl k)
    by_cases hc49 : (246 : Int32) < x0
    · refine Eq.mp (congrArg (fun z => Ends p e below s 0 0 (Q3 Z  h0 n0 z) (T.setTop (mkF m 49 #[.val (.int x0)] [(.int (246 : Int32)), (.int x0)]))) (show (F3_45 x0) = (F3_52 x0) from (if_pos hc49)).symm) ?_
      refine Ends.step (u' := (T.setTop (mkF m 52 #[.val (.int x0)] []))) ?_ (fun _ k => XS.icmpNo X.here hx rfl (hb hby d3_49) rfl (XT.ii_le_f hc49) k)
      exact b52 T _ X eT N x0
    · refine Eq.mp (congrArg (fun z => Ends p e below s 0 0 (Q3 Z  h0 n0 z) (T.setTop (mkF m 49 #[.val (.int x0)] [(.int (246 : Int32)), (.int x0)]))) (show (F3_45 x0) = F3_185 from (if_neg hc49)).symm) ?_
      refine Ends.step (u' := (T.setTop (mkF m 185 #[.val (.int x0)] []))) ?_ (fun _ k => XS.icmpYes X.here hx rfl (pc0 := 49) (pc' := 185) rfl (hb hby d3_49) rfl (XT.ii_le_t hc49) (by decide) (by decide) k)
      exact b185 T _ X eT N (.val (.int x0)) (Or.inr ⟨_, rfl, rfl⟩)
  have b38 : ∀ (T : State) (L : List Loc) (X : Stand p l e ({ frames := 0, cells := 0, slots := 0, locals := 0 } : Room) s m #[(.int p0)] below meth c T L 0 0) (eT : T.heap = h0) (N : Fr n0 L) (x0 : Int32), Ends p e below s 0 0 (Q3 Z  h0 n0 (F3_38 x0)) (T.setTop (mkF m 38 #[.val (.int x0)] [])) := by
    intro T L X eT N x0
    refine Ends.step (u' := (T.setTop (mkF m 39 #[.val (.int x0)] [(.int x0)]))) ?_ (fun _ k => XS.iloadN X.here hx rfl (hb hby d3_38) rfl k)
    refine Ends.step (u' := (T.setTop (mkF m 42 #[.val (.int x0)] [(.int (216 : Int32)), (.int x0)]))) ?_ (fun _ k => XT.sipushV X.here hx rfl (216 : Int32) (hb hby d3_39) rfl k)
    by_cases hc42 : x0 < (216 : Int32)
    · refine Eq.mp (congrArg (fun z => Ends p e below s 0 0 (Q3 Z  h0 n0 z) (T.setTop (mkF m 42 #[.val (.int x0)] [(.int (216 : Int32)), (.int x0)]))) (show (F3_38 x0) = (F3_52 x0) from (if_pos hc42)).symm) ?_
      refine Ends.step (u' := (T.setTop (mkF m 52 #[.val (.int x0)] []))) ?_ (fun _ k => XS.icmpYes X.here hx rfl (pc0 := 42) (pc' := 52) rfl (hb hby d3_42) rfl (XT.ii_lt_t hc42) (by decide) (by decide) k)
      exact b52 T _ X eT N x0
    · refine Eq.mp (congrArg (fun z => Ends p e below s 0 0 (Q3 Z  h0 n0 z) (T.setTop (mkF m 42 #[.val (.int x0)] [(.int (216 : Int32)), (.int x0)]))) (show (F3_38 x0) = (F3_45 x0) from (if_neg hc42)).symm) ?_
      refine Ends.step (u' := (T.setTop (mkF m 45 #[.val (.int x0)] []))) ?_ (fun _ k => XS.icmpNo X.here hx rfl (hb hby d3_42) rfl (XT.ii_lt_f hc42) k)
      exact b45 T _ X eT N x0
  have b31 : ∀ (T : State) (L : List Loc) (X : Stand p l e ({ frames := 0, cells := 0, slots := 0, locals := 0 } : Room) s m #[(.int p0)] below meth c T L 0 0) (eT : T.heap = h0) (N : Fr n0 L) (x0 : Int32), Ends p e below s 0 0 (Q3 Z  h0 n0 (F3_31 x0)) (T.setTop (mkF m 31 #[.val (.int x0)] [])) := by
    intro T L X eT N x0
    refine Ends.step (u' := (T.setTop (mkF m 32 #[.val (.int x0)] [(.int x0)]))) ?_ (fun _ k => XS.iloadN X.here hx rfl (hb hby d3_31) rfl k)
    refine Ends.step (u' := (T.setTop (mkF m 35 #[.val (.int x0)] [(.int (214 : Int32)), (.int x0)]))) ?_ (fun _ k => XT.sipushV X.here hx rfl (214 : Int32) (hb hby d3_32) rfl k)
    by_cases hc35 : (214 : Int32) < x0
    · refine Eq.mp (congrArg (fun z => Ends p e below s 0 0 (Q3 Z  h0 n0 z) (T.setTop (mkF m 35 #[.val (.int x0)] [(.int (214 : Int32)), (.int x0)]))) (show (F3_31 x0) = (F3_38 x0) from (if_pos hc35)).symm) ?_
      refine Ends.step (u' := (T.setTop (mkF m 38 #[.val (.int x0)] []))) ?_ (fun _ k => XS.icmpNo X.here hx rfl (hb hby d3_35) rfl (XT.ii_le_f hc35) k)
      exact b38 T _ X eT N x0
    · refine Eq.mp (congrArg (fun z => Ends p e below s 0 0 (Q3 Z  h0 n0 z) (T.setTop (mkF m 35 #[.val (.int x0)] [(.int (214 : Int32)), (.int x0)]))) (show (F3_31 x0) = F3_185 from (if_neg hc35)).symm) ?_
      refine Ends.step (u' := (T.setTop (mkF m 185 #[.val (.int x0)] []))) ?_ (fun _ k => XS.icmpYes X.here hx rfl (pc0 := 35) (pc' := 185) rfl (hb hby d3_35) rfl (XT.ii_le_t hc35) (by decide) (by decide) k)
      exact b185 T _ X eT N (.val (.int x0)) (Or.inr ⟨_, rfl, rfl⟩)
  have b24 : ∀ (T : State) (L : List Loc) (X : Stand p l e ({ frames := 0, cells := 0, slots := 0, locals := 0 } : Room) s m #[(.int p0)] below meth c T L 0 0) (eT : T.heap = h0) (N : Fr n0 L) (x0 : Int32), Ends p e below s 0 0 (Q3 Z  h0 n0 (F3_24 x0)) (T.setTop (mkF m 24 #[.val (.int x0)] [])) := by
    intro T L X eT N x0
    refine Ends.step (u' := (T.setTop (mkF m 25 #[.val (.int x0)] [(.int x0)]))) ?_ (fun _ k => XS.iloadN X.here hx rfl (hb hby d3_24) rfl k)
    refine Ends.step (u' := (T.setTop (mkF m 28 #[.val (.int x0)] [(.int (192 : Int32)), (.int x0)]))) ?_ (fun _ k => XT.sipushV X.here hx rfl (192 : Int32) (hb hby d3_25) rfl k)
    by_cases hc28 : x0 < (192 : Int32)
    · refine Eq.mp (congrArg (fun z => Ends p e below s 0 0 (Q3 Z  h0 n0 z) (T.setTop (mkF m 28 #[.val (.int x0)] [(.int (192 : Int32)), (.int x0)]))) (show (F3_24 x0) = (F3_38 x0) from (if_pos hc28)).symm) ?_
      refine Ends.step (u' := (T.setTop (mkF m 38 #[.val (.int x0)] []))) ?_ (fun _ k => XS.icmpYes X.here hx rfl (pc0 := 28) (pc' := 38) rfl (hb hby d3_28) rfl (XT.ii_lt_t hc28) (by decide) (by decide) k)
      exact b38 T _ X eT N x0
    · refine Eq.mp (congrArg (fun z => Ends p e below s 0 0 (Q3 Z  h0 n0 z) (T.setTop (mkF m 28 #[.val (.int x0)] [(.int (192 : Int32)), (.int x0)]))) (show (F3_24 x0) = (F3_31 x0) from (if_neg hc28)).symm) ?_
      refine Ends.step (u' := (T.setTop (mkF m 31 #[.val (.int x0)] []))) ?_ (fun _ k => XS.icmpNo X.here hx rfl (hb hby d3_28) rfl (XT.ii_lt_f hc28) k)
      exact b31 T _ X eT N x0
  have b18 : ∀ (T : State) (L : List Loc) (X : Stand p l e ({ frames := 0, cells := 0, slots := 0, locals := 0 } : Room) s m #[(.int p0)] below meth c T L 0 0) (eT : T.heap = h0) (N : Fr n0 L) (x0 : Int32), Ends p e below s 0 0 (Q3 Z  h0 n0 (F3_18 x0)) (T.setTop (mkF m 18 #[.val (.int x0)] [])) := by
    intro T L X eT N x0
    refine Ends.step (u' := (T.setTop (mkF m 19 #[.val (.int x0)] [(.int x0)]))) ?_ (fun _ k => XS.iloadN X.here hx rfl (hb hby d3_18) rfl k)
    refine Ends.step (u' := (T.setTop (mkF m 21 #[.val (.int x0)] [(.int (90 : Int32)), (.int x0)]))) ?_ (fun _ k => XT.bipushV X.here hx rfl (90 : Int32) (hb hby d3_19) rfl k)
    by_cases hc21 : (90 : Int32) < x0
    · refine Eq.mp (congrArg (fun z => Ends p e below s 0 0 (Q3 Z  h0 n0 z) (T.setTop (mkF m 21 #[.val (.int x0)] [(.int (90 : Int32)), (.int x0)]))) (show (F3_18 x0) = (F3_24 x0) from (if_pos hc21)).symm) ?_
      refine Ends.step (u' := (T.setTop (mkF m 24 #[.val (.int x0)] []))) ?_ (fun _ k => XS.icmpNo X.here hx rfl (hb hby d3_21) rfl (XT.ii_le_f hc21) k)
      exact b24 T _ X eT N x0
    · refine Eq.mp (congrArg (fun z => Ends p e below s 0 0 (Q3 Z  h0 n0 z) (T.setTop (mkF m 21 #[.val (.int x0)] [(.int (90 : Int32)), (.int x0)]))) (show (F3_18 x0) = F3_185 from (if_neg hc21)).symm) ?_
      refine Ends.step (u' := (T.setTop (mkF m 185 #[.val (.int x0)] []))) ?_ (fun _ k => XS.icmpYes X.here hx rfl (pc0 := 21) (pc' := 185) rfl (hb hby d3_21) rfl (XT.ii_le_t hc21) (by decide) (by decide) k)
      exact b185 T _ X eT N (.val (.int x0)) (Or.inr ⟨_, rfl, rfl⟩)
  have b12 : ∀ (T : State) (L : List Loc) (X : Stand p l e ({ frames := 0, cells := 0, slots := 0, locals := 0 } : Room) s m #[(.int p0)] below meth c T L 0 0) (eT : T.heap = h0) (N : Fr n0 L) (x0 : Int32), Ends p e below s 0 0 (Q3 Z  h0 n0 (F3_12 x0)) (T.setTop (mkF m 12 #[.val (.int x0)] [])) := by
    intro T L X eT N x0
    refine Ends.step (u' := (T.setTop (mkF m 13 #[.val (.int x0)] [(.int x0)]))) ?_ (fun _ k => XS.iloadN X.here hx rfl (hb hby d3_12) rfl k)
    refine Ends.step (u' := (T.setTop (mkF m 15 #[.val (.int x0)] [(.int (65 : Int32)), (.int x0)]))) ?_ (fun _ k => XT.bipushV X.here hx rfl (65 : Int32) (hb hby d3_13) rfl k)
    by_cases hc15 : x0 < (65 : Int32)
    · refine Eq.mp (congrArg (fun z => Ends p e below s 0 0 (Q3 Z  h0 n0 z) (T.setTop (mkF m 15 #[.val (.int x0)] [(.int (65 : Int32)), (.int x0)]))) (show (F3_12 x0) = (F3_24 x0) from (if_pos hc15)).symm) ?_
      refine Ends.step (u' := (T.setTop (mkF m 24 #[.val (.int x0)] []))) ?_ (fun _ k => XS.icmpYes X.here hx rfl (pc0 := 15) (pc' := 24) rfl (hb hby d3_15) rfl (XT.ii_lt_t hc15) (by decide) (by decide) k)
      exact b24 T _ X eT N x0
    · refine Eq.mp (congrArg (fun z => Ends p e below s 0 0 (Q3 Z  h0 n0 z) (T.setTop (mkF m 15 #[.val (.int x0)] [(.int (65 : Int32)), (.int x0)]))) (show (F3_12 x0) = (F3_18 x0) from (if_neg hc15)).symm) ?_
      refine Ends.step (u' := (T.setTop (mkF m 18 #[.val (.int x0)] []))) ?_ (fun _ k => XS.icmpNo X.here hx rfl (hb hby d3_15) rfl (XT.ii_lt_f hc15) k)
      exact b18 T _ X eT N x0
  have b6 : ∀ (T : State) (L : List Loc) (X : Stand p l e ({ frames := 0, cells := 0, slots := 0, locals := 0 } : Room) s m #[(.int p0)] below meth c T L 0 0) (eT : T.heap = h0) (N : Fr n0 L) (x0 : Int32), Ends p e below s 0 0 (Q3 Z  h0 n0 (F3_6 x0)) (T.setTop (mkF m 6 #[.val (.int x0)] [])) := by
    intro T L X eT N x0
    refine Ends.step (u' := (T.setTop (mkF m 7 #[.val (.int x0)] [(.int x0)]))) ?_ (fun _ k => XS.iloadN X.here hx rfl (hb hby d3_6) rfl k)
    refine Ends.step (u' := (T.setTop (mkF m 9 #[.val (.int x0)] [(.int (122 : Int32)), (.int x0)]))) ?_ (fun _ k => XT.bipushV X.here hx rfl (122 : Int32) (hb hby d3_7) rfl k)
    by_cases hc9 : (122 : Int32) < x0
    · refine Eq.mp (congrArg (fun z => Ends p e below s 0 0 (Q3 Z  h0 n0 z) (T.setTop (mkF m 9 #[.val (.int x0)] [(.int (122 : Int32)), (.int x0)]))) (show (F3_6 x0) = (F3_12 x0) from (if_pos hc9)).symm) ?_
      refine Ends.step (u' := (T.setTop (mkF m 12 #[.val (.int x0)] []))) ?_ (fun _ k => XS.icmpNo X.here hx rfl (hb hby d3_9) rfl (XT.ii_le_f hc9) k)
      exact b12 T _ X eT N x0
    · refine Eq.mp (congrArg (fun z => Ends p e below s 0 0 (Q3 Z  h0 n0 z) (T.setTop (mkF m 9 #[.val (.int x0)] [(.int (122 : Int32)), (.int x0)]))) (show (F3_6 x0) = F3_185 from (if_neg hc9)).symm) ?_
      refine Ends.step (u' := (T.setTop (mkF m 185 #[.val (.int x0)] []))) ?_ (fun _ k => XS.icmpYes X.here hx rfl (pc0 := 9) (pc' := 185) rfl (hb hby d3_9) rfl (XT.ii_le_t hc9) (by decide) (by decide) k)
      exact b185 T _ X eT N (.val (.int x0)) (Or.inr ⟨_, rfl, rfl⟩)
  refine Ends.step (u' := (s₁.setTop (mkF m 0 #[.val (.int p0)] []))) ?_ (fun _ k => castTop (ef_3 m p0) k)
  refine Ends.step (u' := (s₁.setTop (mkF m 1 #[.val (.int p0)] [(.int p0)]))) ?_ (fun _ k => XS.iloadN X0.here hx rfl (hb hby d3_0) rfl k)
  refine Ends.step (u' := (s₁.setTop (mkF m 3 #[.val (.int p0)] [(.int (97 : Int32)), (.int p0)]))) ?_ (fun _ k => XT.bipushV X0.here hx rfl (97 : Int32) (hb hby d3_1) rfl k)
  by_cases hc3 : p0 < (97 : Int32)
  · refine Eq.mp (congrArg (fun z => Ends p e below s 0 0 (Q3 Z  h0 n0 z) (s₁.setTop (mkF m 3 #[.val (.int p0)] [(.int (97 : Int32)), (.int p0)]))) (show (F3 p0) = (F3_12 p0) from (if_pos hc3)).symm) ?_
    refine Ends.step (u' := (s₁.setTop (mkF m 12 #[.val (.int p0)] []))) ?_ (fun _ k => XS.icmpYes X0.here hx rfl (pc0 := 3) (pc' := 12) rfl (hb hby d3_3) rfl (XT.ii_lt_t hc3) (by decide) (by decide) k)
    exact b12 s₁ _ X0 e0 N0 p0
  · refine Eq.mp (congrArg (fun z => Ends p e below s 0 0 (Q3 Z  h0 n0 z) (s₁.setTop (mkF m 3 #[.val (.int p0)] [(.int (97 : Int32)), (.int p0)]))) (show (F3 p0) = (F3_6 p0) from (if_neg hc3)).symm) ?_
    refine Ends.step (u' := (s₁.setTop (mkF m 6 #[.val (.int p0)] []))) ?_ (fun _ k => XS.icmpNo X0.here hx rfl (hb hby d3_3) rfl (XT.ii_lt_f hc3) k)
    exact b6 s₁ _ X0 e0 N0 p0
theorem pn_0 : plainFor x = true := by first | exact plainFor_of_name (by first | (simp [plainName, overriddenIn]; done) | decide +kernel) | decide +kernel
theorem ef_0 (m : MethodId) (y0 : Int32) (y1 : Int32) : entryFrame m #[(.int y0), (.int y1)] maxLocals = mkF m 0 #[.val (.int y0), .val (.int y1), .unset, .unset, .unset, .unset] [] := by first | (simp [entryFrame, mkF, argsToLocals, Value.category, maxLocals]; done) | rfl
def Q0 (Z : State)   (h0 : Heap) (n0 : Nat) (ans : Int32) (v : Option Value) (h : Heap) (L : List Loc) : Prop := v = some (.int ans) ∧ Fr n0 L
set_option maxRecDepth 65536 in
set_option maxHeartbeats 40000000 in
theorem rm0 (l : Launch) (Z : State) (a0 : Array Value) (hw : ∀ d ∈ tables_1, d.before a0 Z = true) (p0 : Int32) (p1 : Int32)  (h0 : Heap) (n0 : Nat) (Z0 : n0 ≤ h0.size)  (ok : O0 p0 p1) :
    Meets l Z x code maxLocals ret tables_1 room_1 #[(.int p0), (.int p1)] h0 (Q0 Z  h0 n0 (F0 p0 p1)) 1 8 := by
  refine Meets.of pn_0 ?_
  intro p e s m below meth c s₁ hx hby hml hZ hown hnm hret hlk X0 e0
  have hml : c.maxLocals = 6 := hml
  have hown : s.vm.findClass "com/example/taxigraph/taxigraph/NameCharactersIsFollowingPinLaw" = some m.cls := hown
  have N0 := Fr.nil n0
  have b150 : ∀ (T : State) (L : List Loc) (h : Heap) (X : Stand p l e room_1 s m #[(.int p0), (.int p1)] below meth c T L 1 8) (eT : T.heap = h) (N : Fr n0 L) (Zs : n0 ≤ h.size) (d0 : Slot) (od0 : OneS d0) (d1 : Slot) (od1 : OneS d1) (d2 : Slot) (od2 : OneS d2) (d3 : Slot) (od3 : OneS d3) (d4 : Slot) (od4 : OneS d4) (d5 : Slot) (od5 : OneS d5), Ends p e below s 1 8 (Q0 Z  h0 n0 F0_150) (T.setTop (mkF m 150 #[d0, d1, d2, d3, d4, d5] [])) := by
    intro T L h X eT N Zs d0 od0 d1 od1 d2 od2 d3 od3 d4 od4 d5 od5
    refine Ends.step (u' := (T.setTop (mkF m 151 #[d0, d1, d2, d3, d4, d5] [(.int (0 : Int32))]))) ?_ (fun _ k => XT.iconstV X.here hx rfl (0 : Int32) (hb hby at_150) rfl k)
    exact Ends.ret X (v := some (.int (nar .boolean (0 : Int32)))) (fun q => by rw [hret] at q; cases q) hlk (fun fs hr => retN X hx (t := .boolean) hret (by simp) (hb hby at_151) hr) (by decide) (by decide) ⟨rfl, N⟩
  have b164 : ∀ (T : State) (L : List Loc) (h : Heap) (X : Stand p l e room_1 s m #[(.int p0), (.int p1)] below meth c T L 1 8) (eT : T.heap = h) (N : Fr n0 L) (Zs : n0 ≤ h.size) (d0 : Slot) (od0 : OneS d0) (d1 : Slot) (od1 : OneS d1) (d2 : Slot) (od2 : OneS d2) (d3 : Slot) (od3 : OneS d3) (d4 : Slot) (od4 : OneS d4) (d5 : Slot) (od5 : OneS d5), Ends p e below s 1 8 (Q0 Z  h0 n0 F0_164) (T.setTop (mkF m 164 #[d0, d1, d2, d3, d4, d5] [])) := by
    intro T L h X eT N Zs d0 od0 d1 od1 d2 od2 d3 od3 d4 od4 d5 od5
    refine Ends.step (u' := (T.setTop (mkF m 165 #[d0, d1, d2, d3, d4, d5] [(.int (0 : Int32))]))) ?_ (fun _ k => XT.iconstV X.here hx rfl (0 : Int32) (hb hby at_164) rfl k)
    exact Ends.ret X (v := some (.int (nar .boolean (0 : Int32)))) (fun q => by rw [hret] at q; cases q) hlk (fun fs hr => retN X hx (t := .boolean) hret (by simp) (hb hby at_165) hr) (by decide) (by decide) ⟨rfl, N⟩
  have b184 : ∀ (T : State) (L : List Loc) (h : Heap) (X : Stand p l e room_1 s m #[(.int p0), (.int p1)] below meth c T L 1 8) (eT : T.heap = h) (N : Fr n0 L) (Zs : n0 ≤ h.size) (d0 : Slot) (od0 : OneS d0) (d1 : Slot) (od1 : OneS d1) (d2 : Slot) (od2 : OneS d2) (d3 : Slot) (od3 : OneS d3) (d4 : Slot) (od4 : OneS d4) (d5 : Slot) (od5 : OneS d5), Ends p e below s 1 8 (Q0 Z  h0 n0 F0_184) (T.setTop (mkF m 184 #[d0, d1, d2, d3, d4, d5] [])) := by
    intro T L h X eT N Zs d0 od0 d1 od1 d2 od2 d3 od3 d4 od4 d5 od5
    refine Ends.step (u' := (T.setTop (mkF m 185 #[d0, d1, d2, d3, d4, d5] [(.int (0 : Int32))]))) ?_ (fun _ k => XT.iconstV X.here hx rfl (0 : Int32) (hb hby at_184) rfl k)
    exact Ends.ret X (v := some (.int (nar .boolean (0 : Int32)))) (fun q => by rw [hret] at q; cases q) hlk (fun fs hr => retN X hx (t := .boolean) hret (by simp) (hb hby at_185) hr) (by decide) (by decide) ⟨rfl, N⟩
  have b186 : ∀ (T : State) (L : List Loc) (h : Heap) (X : Stand p l e room_1 s m #[(.int p0), (.int p1)] below meth c T L 1 8) (eT : T.heap = h) (N : Fr n0 L) (Zs : n0 ≤ h.size) (d0 : Slot) (od0 : OneS d0) (d1 : Slot) (od1 : OneS d1) (d2 : Slot) (od2 : OneS d2) (d3 : Slot) (od3 : OneS d3) (d4 : Slot) (od4 : OneS d4) (d5 : Slot) (od5 : OneS d5), Ends p e below s 1 8 (Q0 Z  h0 n0 F0_186) (T.setTop (mkF m 186 #[d0, d1, d2, d3, d4, d5] [])) := by
    intro T L h X eT N Zs d0 od0 d1 od1 d2 od2 d3 od3 d4 od4 d5 od5
    refine Ends.step (u' := (T.setTop (mkF m 187 #[d0, d1, d2, d3, d4, d5] [(.int (1 : Int32))]))) ?_ (fun _ k => XT.iconstV X.here hx rfl (1 : Int32) (hb hby at_186) rfl k)
    exact Ends.ret X (v := some (.int (nar .boolean (1 : Int32)))) (fun q => by rw [hret] at q; cases q) hlk (fun fs hr => retN X hx (t := .boolean) hret (by simp) (hb hby at_187) hr) (by decide) (by decide) ⟨rfl, N⟩
  have b178 : ∀ (T : State) (L : List Loc) (h : Heap) (X : Stand p l e room_1 s m #[(.int p0), (.int p1)] below meth c T L 1 8) (eT : T.heap = h) (N : Fr n0 L) (Zs : n0 ≤ h.size) (x3 : Int32) (d0 : Slot) (od0 : OneS d0) (d1 : Slot) (od1 : OneS d1) (d2 : Slot) (od2 : OneS d2) (d4 : Slot) (od4 : OneS d4) (d5 : Slot) (od5 : OneS d5), Ends p e below s 1 8 (Q0 Z  h0 n0 (F0_178 x3)) (T.setTop (mkF m 178 #[d0, d1, d2, .val (.int x3), d4, d5] [])) := by
    intro T L h X eT N Zs x3 d0 od0 d1 od1 d2 od2 d4 od4 d5 od5
    refine Ends.step (u' := (T.setTop (mkF m 179 #[d0, d1, d2, .val (.int x3), d4, d5] [(.int x3)]))) ?_ (fun _ k => XS.iloadN X.here hx rfl (hb hby at_178) rfl k)
    refine Ends.step (u' := (T.setTop (mkF m 181 #[d0, d1, d2, .val (.int x3), d4, d5] [(.int (46 : Int32)), (.int x3)]))) ?_ (fun _ k => XT.bipushV X.here hx rfl (46 : Int32) (hb hby at_179) rfl k)
    by_cases hc181 : x3 = (46 : Int32)
    · refine Eq.mp (congrArg (fun z => Ends p e below s 1 8 (Q0 Z  h0 n0 z) (T.setTop (mkF m 181 #[d0, d1, d2, .val (.int x3), d4, d5] [(.int (46 : Int32)), (.int x3)]))) (show (F0_178 x3) = F0_184 from (if_pos hc181)).symm) ?_
      refine Ends.step (u' := (T.setTop (mkF m 184 #[d0, d1, d2, .val (.int x3), d4, d5] []))) ?_ (fun _ k => XS.icmpNo X.here hx rfl (hb hby at_181) rfl (XT.ii_ne_f hc181) k)
      exact b184 T _ _ X eT N Zs (d0) od0 (d1) od1 (d2) od2 (.val (.int x3)) (Or.inr ⟨_, rfl, rfl⟩) (d4) od4 (d5) od5
    · refine Eq.mp (congrArg (fun z => Ends p e below s 1 8 (Q0 Z  h0 n0 z) (T.setTop (mkF m 181 #[d0, d1, d2, .val (.int x3), d4, d5] [(.int (46 : Int32)), (.int x3)]))) (show (F0_178 x3) = F0_186 from (if_neg hc181)).symm) ?_
      refine Ends.step (u' := (T.setTop (mkF m 186 #[d0, d1, d2, .val (.int x3), d4, d5] []))) ?_ (fun _ k => XS.icmpYes X.here hx rfl (pc0 := 181) (pc' := 186) rfl (hb hby at_181) rfl (XT.ii_ne_t hc181) (by decide) (by decide) k)
      exact b186 T _ _ X eT N Zs (d0) od0 (d1) od1 (d2) od2 (.val (.int x3)) (Or.inr ⟨_, rfl, rfl⟩) (d4) od4 (d5) od5
  have b172 : ∀ (T : State) (L : List Loc) (h : Heap) (X : Stand p l e room_1 s m #[(.int p0), (.int p1)] below meth c T L 1 8) (eT : T.heap = h) (N : Fr n0 L) (Zs : n0 ≤ h.size) (x3 : Int32) (d0 : Slot) (od0 : OneS d0) (d1 : Slot) (od1 : OneS d1) (d2 : Slot) (od2 : OneS d2) (d4 : Slot) (od4 : OneS d4) (d5 : Slot) (od5 : OneS d5), Ends p e below s 1 8 (Q0 Z  h0 n0 (F0_172 x3)) (T.setTop (mkF m 172 #[d0, d1, d2, .val (.int x3), d4, d5] [])) := by
    intro T L h X eT N Zs x3 d0 od0 d1 od1 d2 od2 d4 od4 d5 od5
    refine Ends.step (u' := (T.setTop (mkF m 173 #[d0, d1, d2, .val (.int x3), d4, d5] [(.int x3)]))) ?_ (fun _ k => XS.iloadN X.here hx rfl (hb hby at_172) rfl k)
    refine Ends.step (u' := (T.setTop (mkF m 175 #[d0, d1, d2, .val (.int x3), d4, d5] [(.int (58 : Int32)), (.int x3)]))) ?_ (fun _ k => XT.bipushV X.here hx rfl (58 : Int32) (hb hby at_173) rfl k)
    by_cases hc175 : x3 = (58 : Int32)
    · refine Eq.mp (congrArg (fun z => Ends p e below s 1 8 (Q0 Z  h0 n0 z) (T.setTop (mkF m 175 #[d0, d1, d2, .val (.int x3), d4, d5] [(.int (58 : Int32)), (.int x3)]))) (show (F0_172 x3) = F0_184 from (if_pos hc175)).symm) ?_
      refine Ends.step (u' := (T.setTop (mkF m 184 #[d0, d1, d2, .val (.int x3), d4, d5] []))) ?_ (fun _ k => XS.icmpYes X.here hx rfl (pc0 := 175) (pc' := 184) rfl (hb hby at_175) rfl (XT.ii_eq_t hc175) (by decide) (by decide) k)
      exact b184 T _ _ X eT N Zs (d0) od0 (d1) od1 (d2) od2 (.val (.int x3)) (Or.inr ⟨_, rfl, rfl⟩) (d4) od4 (d5) od5
    · refine Eq.mp (congrArg (fun z => Ends p e below s 1 8 (Q0 Z  h0 n0 z) (T.setTop (mkF m 175 #[d0, d1, d2, .val (.int x3), d4, d5] [(.int (58 : Int32)), (.int x3)]))) (show (F0_172 x3) = (F0_178 x3) from (if_neg hc175)).symm) ?_
      refine Ends.step (u' := (T.setTop (mkF m 178 #[d0, d1, d2, .val (.int x3), d4, d5] []))) ?_ (fun _ k => XS.icmpNo X.here hx rfl (hb hby at_175) rfl (XT.ii_eq_f hc175) k)
      exact b178 T _ _ X eT N Zs x3 (d0) od0 (d1) od1 (d2) od2 (d4) od4 (d5) od5
  have b166 : ∀ (T : State) (L : List Loc) (h : Heap) (X : Stand p l e room_1 s m #[(.int p0), (.int p1)] below meth c T L 1 8) (eT : T.heap = h) (N : Fr n0 L) (Zs : n0 ≤ h.size) (x3 : Int32) (d0 : Slot) (od0 : OneS d0) (d1 : Slot) (od1 : OneS d1) (d2 : Slot) (od2 : OneS d2) (d4 : Slot) (od4 : OneS d4) (d5 : Slot) (od5 : OneS d5), Ends p e below s 1 8 (Q0 Z  h0 n0 (F0_166 x3)) (T.setTop (mkF m 166 #[d0, d1, d2, .val (.int x3), d4, d5] [])) := by
    intro T L h X eT N Zs x3 d0 od0 d1 od1 d2 od2 d4 od4 d5 od5
    refine Ends.step (u' := (T.setTop (mkF m 167 #[d0, d1, d2, .val (.int x3), d4, d5] [(.int x3)]))) ?_ (fun _ k => XS.iloadN X.here hx rfl (hb hby at_166) rfl k)
    refine Ends.step (u' := (T.setTop (mkF m 169 #[d0, d1, d2, .val (.int x3), d4, d5] [(.int (95 : Int32)), (.int x3)]))) ?_ (fun _ k => XT.bipushV X.here hx rfl (95 : Int32) (hb hby at_167) rfl k)
    by_cases hc169 : x3 = (95 : Int32)
    · refine Eq.mp (congrArg (fun z => Ends p e below s 1 8 (Q0 Z  h0 n0 z) (T.setTop (mkF m 169 #[d0, d1, d2, .val (.int x3), d4, d5] [(.int (95 : Int32)), (.int x3)]))) (show (F0_166 x3) = F0_184 from (if_pos hc169)).symm) ?_
      refine Ends.step (u' := (T.setTop (mkF m 184 #[d0, d1, d2, .val (.int x3), d4, d5] []))) ?_ (fun _ k => XS.icmpYes X.here hx rfl (pc0 := 169) (pc' := 184) rfl (hb hby at_169) rfl (XT.ii_eq_t hc169) (by decide) (by decide) k)
      exact b184 T _ _ X eT N Zs (d0) od0 (d1) od1 (d2) od2 (.val (.int x3)) (Or.inr ⟨_, rfl, rfl⟩) (d4) od4 (d5) od5
    · refine Eq.mp (congrArg (fun z => Ends p e below s 1 8 (Q0 Z  h0 n0 z) (T.setTop (mkF m 169 #[d0, d1, d2, .val (.int x3), d4, d5] [(.int (95 : Int32)), (.int x3)]))) (show (F0_166 x3) = (F0_172 x3) from (if_neg hc169)).symm) ?_
      refine Ends.step (u' := (T.setTop (mkF m 172 #[d0, d1, d2, .val (.int x3), d4, d5] []))) ?_ (fun _ k => XS.icmpNo X.here hx rfl (hb hby at_169) rfl (XT.ii_eq_f hc169) k)
      exact b172 T _ _ X eT N Zs x3 (d0) od0 (d1) od1 (d2) od2 (d4) od4 (d5) od5
  have b157 : ∀ (T : State) (L : List Loc) (h : Heap) (X : Stand p l e room_1 s m #[(.int p0), (.int p1)] below meth c T L 1 8) (eT : T.heap = h) (N : Fr n0 L) (Zs : n0 ≤ h.size) (x3 : Int32) (d0 : Slot) (od0 : OneS d0) (d1 : Slot) (od1 : OneS d1) (d2 : Slot) (od2 : OneS d2) (d4 : Slot) (od4 : OneS d4) (d5 : Slot) (od5 : OneS d5), Ends p e below s 1 8 (Q0 Z  h0 n0 (F0_157 x3)) (T.setTop (mkF m 157 #[d0, d1, d2, .val (.int x3), d4, d5] [])) := by
    intro T L h X eT N Zs x3 d0 od0 d1 od1 d2 od2 d4 od4 d5 od5
    refine Ends.step (u' := (T.setTop (mkF m 158 #[d0, d1, d2, .val (.int x3), d4, d5] [(.int x3)]))) ?_ (fun _ k => XS.iloadN X.here hx rfl (hb hby at_157) rfl k)
    refine Ends.callS X hx hZ hown (hw _ (List.mem_of_getElem? (i := 15) rfl)) (hw _ (List.mem_of_getElem? (i := 16) rfl)) (hw _ (List.mem_of_getElem? (i := 13) rfl)) (hw _ (List.mem_of_getElem? (i := 17) rfl)) (by decide) (rm3 l Z a0 hw x3 h n0 Zs) 0 (by decide) (by decide) eT  (g := (mkF m 158 #[d0, d1, d2, .val (.int x3), d4, d5] [(.int x3)])) rfl (by rw [hml]; rfl)  [(.int x3)] [] (lenOf pd_1 rfl) rfl (by show 2 * 0 + _ ≤ _; exact Nat.le_of_eq rfl) (hb hby at_158) rfl (by decide) (by decide) (fun v1 T1 L1 X1 hQ1 => ?_)
    obtain ⟨rfl, Nq1, e1⟩ := hQ1
    have N1 := Fr.app N Nq1
    show Ends p e below s _ _ _ (T1.setTop (mkF m 161 #[d0, d1, d2, .val (.int x3), d4, d5] [(.int (F3 x3))]))
    by_cases hc161 : (F3 x3) = 0
    · refine Eq.mp (congrArg (fun z => Ends p e below s 1 8 (Q0 Z  h0 n0 z) (T1.setTop (mkF m 161 #[d0, d1, d2, .val (.int x3), d4, d5] [(.int (F3 x3))]))) (show (F0_157 x3) = (F0_166 x3) from (if_pos hc161)).symm) ?_
      refine Ends.step (u' := (T1.setTop (mkF m 166 #[d0, d1, d2, .val (.int x3), d4, d5] []))) ?_ (fun _ k => XS.ifYes X1.here hx rfl (pc0 := 161) (pc' := 166) rfl (hb hby at_161) rfl (XT.i0_eq_t hc161) (by decide) (by decide) k)
      exact b166 T1 _ _ X1 e1 N1 Zs x3 (d0) od0 (d1) od1 (d2) od2 (d4) od4 (d5) od5
    · refine Eq.mp (congrArg (fun z => Ends p e below s 1 8 (Q0 Z  h0 n0 z) (T1.setTop (mkF m 161 #[d0, d1, d2, .val (.int x3), d4, d5] [(.int (F3 x3))]))) (show (F0_157 x3) = F0_164 from (if_neg hc161)).symm) ?_
      refine Ends.step (u' := (T1.setTop (mkF m 164 #[d0, d1, d2, .val (.int x3), d4, d5] []))) ?_ (fun _ k => XS.ifNo X1.here hx rfl (hb hby at_161) rfl (XT.i0_eq_f hc161) k)
      exact b164 T1 _ _ X1 e1 N1 Zs (d0) od0 (d1) od1 (d2) od2 (.val (.int x3)) (Or.inr ⟨_, rfl, rfl⟩) (d4) od4 (d5) od5
  have b152 : ∀ (T : State) (L : List Loc) (h : Heap) (X : Stand p l e room_1 s m #[(.int p0), (.int p1)] below meth c T L 1 8) (eT : T.heap = h) (N : Fr n0 L) (Zs : n0 ≤ h.size) (x3 : Int32) (x5 : Int32) (d0 : Slot) (od0 : OneS d0) (d1 : Slot) (od1 : OneS d1) (d2 : Slot) (od2 : OneS d2) (d4 : Slot) (od4 : OneS d4), Ends p e below s 1 8 (Q0 Z  h0 n0 (F0_152 x3 x5)) (T.setTop (mkF m 152 #[d0, d1, d2, .val (.int x3), d4, .val (.int x5)] [])) := by
    intro T L h X eT N Zs x3 x5 d0 od0 d1 od1 d2 od2 d4 od4
    refine Ends.step (u' := (T.setTop (mkF m 154 #[d0, d1, d2, .val (.int x3), d4, .val (.int x5)] [(.int x5)]))) ?_ (fun _ k => XS.iload X.here hx rfl (hb hby at_152) rfl k)
    by_cases hc154 : x5 = 0
    · refine Eq.mp (congrArg (fun z => Ends p e below s 1 8 (Q0 Z  h0 n0 z) (T.setTop (mkF m 154 #[d0, d1, d2, .val (.int x3), d4, .val (.int x5)] [(.int x5)]))) (show (F0_152 x3 x5) = F0_186 from (if_pos hc154)).symm) ?_
      refine Ends.step (u' := (T.setTop (mkF m 186 #[d0, d1, d2, .val (.int x3), d4, .val (.int x5)] []))) ?_ (fun _ k => XS.ifYes X.here hx rfl (pc0 := 154) (pc' := 186) rfl (hb hby at_154) rfl (XT.i0_eq_t hc154) (by decide) (by decide) k)
      exact b186 T _ _ X eT N Zs (d0) od0 (d1) od1 (d2) od2 (.val (.int x3)) (Or.inr ⟨_, rfl, rfl⟩) (d4) od4 (.val (.int x5)) (Or.inr ⟨_, rfl, rfl⟩)
    · refine Eq.mp (congrArg (fun z => Ends p e below s 1 8 (Q0 Z  h0 n0 z) (T.setTop (mkF m 154 #[d0, d1, d2, .val (.int x3), d4, .val (.int x5)] [(.int x5)]))) (show (F0_152 x3 x5) = (F0_157 x3) from (if_neg hc154)).symm) ?_
      refine Ends.step (u' := (T.setTop (mkF m 157 #[d0, d1, d2, .val (.int x3), d4, .val (.int x5)] []))) ?_ (fun _ k => XS.ifNo X.here hx rfl (hb hby at_154) rfl (XT.i0_eq_f hc154) k)
      exact b157 T _ _ X eT N Zs x3 (d0) od0 (d1) od1 (d2) od2 (d4) od4 (.val (.int x5)) (Or.inr ⟨_, rfl, rfl⟩)
  have b143 : ∀ (T : State) (L : List Loc) (h : Heap) (X : Stand p l e room_1 s m #[(.int p0), (.int p1)] below meth c T L 1 8) (eT : T.heap = h) (N : Fr n0 L) (Zs : n0 ≤ h.size) (x3 : Int32) (x4 : Int32) (x5 : Int32) (d0 : Slot) (od0 : OneS d0) (d1 : Slot) (od1 : OneS d1) (d2 : Slot) (od2 : OneS d2), Ends p e below s 1 8 (Q0 Z  h0 n0 (F0_143 x3 x4 x5)) (T.setTop (mkF m 143 #[d0, d1, d2, .val (.int x3), .val (.int x4), .val (.int x5)] [])) := by
    intro T L h X eT N Zs x3 x4 x5 d0 od0 d1 od1 d2 od2
    refine Ends.step (u' := (T.setTop (mkF m 145 #[d0, d1, d2, .val (.int x3), .val (.int x4), .val (.int x5)] [(.int x5)]))) ?_ (fun _ k => XS.iload X.here hx rfl (hb hby at_143) rfl k)
    refine Ends.step (u' := (T.setTop (mkF m 147 #[d0, d1, d2, .val (.int x3), .val (.int x4), .val (.int x5)] [(.int x4), (.int x5)]))) ?_ (fun _ k => XS.iload X.here hx rfl (hb hby at_145) rfl k)
    by_cases hc147 : x5 = x4
    · refine Eq.mp (congrArg (fun z => Ends p e below s 1 8 (Q0 Z  h0 n0 z) (T.setTop (mkF m 147 #[d0, d1, d2, .val (.int x3), .val (.int x4), .val (.int x5)] [(.int x4), (.int x5)]))) (show (F0_143 x3 x4 x5) = (F0_152 x3 x5) from (if_pos hc147)).symm) ?_
      refine Ends.step (u' := (T.setTop (mkF m 152 #[d0, d1, d2, .val (.int x3), .val (.int x4), .val (.int x5)] []))) ?_ (fun _ k => XS.icmpYes X.here hx rfl (pc0 := 147) (pc' := 152) rfl (hb hby at_147) rfl (XT.ii_eq_t hc147) (by decide) (by decide) k)
      exact b152 T _ _ X eT N Zs x3 x5 (d0) od0 (d1) od1 (d2) od2 (.val (.int x4)) (Or.inr ⟨_, rfl, rfl⟩)
    · refine Eq.mp (congrArg (fun z => Ends p e below s 1 8 (Q0 Z  h0 n0 z) (T.setTop (mkF m 147 #[d0, d1, d2, .val (.int x3), .val (.int x4), .val (.int x5)] [(.int x4), (.int x5)]))) (show (F0_143 x3 x4 x5) = F0_150 from (if_neg hc147)).symm) ?_
      refine Ends.step (u' := (T.setTop (mkF m 150 #[d0, d1, d2, .val (.int x3), .val (.int x4), .val (.int x5)] []))) ?_ (fun _ k => XS.icmpNo X.here hx rfl (hb hby at_147) rfl (XT.ii_eq_f hc147) k)
      exact b150 T _ _ X eT N Zs (d0) od0 (d1) od1 (d2) od2 (.val (.int x3)) (Or.inr ⟨_, rfl, rfl⟩) (.val (.int x4)) (Or.inr ⟨_, rfl, rfl⟩) (.val (.int x5)) (Or.inr ⟨_, rfl, rfl⟩)
  have b135 : ∀ (T : State) (L : List Loc) (h : Heap) (X : Stand p l e room_1 s m #[(.int p0), (.int p1)] below meth c T L 1 8) (eT : T.heap = h) (N : Fr n0 L) (Zs : n0 ≤ h.size) (x3 : Int32) (t0 : Int32) (d0 : Slot) (od0 : OneS d0) (d1 : Slot) (od1 : OneS d1) (d2 : Slot) (od2 : OneS d2), Ends p e below s 1 8 (Q0 Z  h0 n0 (F0_135 x3 t0)) (T.setTop (mkF m 135 #[d0, d1, d2, .val (.int x3), .unset, .unset] [(.int t0)])) := by
    intro T L h X eT N Zs x3 t0 d0 od0 d1 od1 d2 od2
    refine Ends.step (u' := (T.setTop (mkF m 137 #[d0, d1, d2, .val (.int x3), .val (.int t0), .unset] []))) ?_ (fun _ k => XS.istore X.here hx rfl (hb hby at_135) rfl (l' := #[d0, d1, d2, .val (.int x3), .val (.int t0), .unset]) rfl k)
    refine Ends.step (u' := (T.setTop (mkF m 138 #[d0, d1, d2, .val (.int x3), .val (.int t0), .unset] [(.int x3)]))) ?_ (fun _ k => XS.iloadN X.here hx rfl (hb hby at_137) rfl k)
    refine Ends.callS X hx hZ hown (hw _ (List.mem_of_getElem? (i := 11) rfl)) (hw _ (List.mem_of_getElem? (i := 12) rfl)) (hw _ (List.mem_of_getElem? (i := 13) rfl)) (hw _ (List.mem_of_getElem? (i := 14) rfl)) (by decide) (rm2 l Z a0 hw x3 h n0 Zs) 0 (by decide) (by decide) eT  (g := (mkF m 138 #[d0, d1, d2, .val (.int x3), .val (.int t0), .unset] [(.int x3)])) rfl (by rw [hml]; rfl)  [(.int x3)] [] (lenOf pd_1 rfl) rfl (by show 2 * 0 + _ ≤ _; exact Nat.le_of_eq rfl) (hb hby at_138) rfl (by decide) (by decide) (fun v2 T2 L2 X2 hQ2 => ?_)
    obtain ⟨rfl, Nq2, e2⟩ := hQ2
    have N2 := Fr.app N Nq2
    show Ends p e below s _ _ _ (T2.setTop (mkF m 141 #[d0, d1, d2, .val (.int x3), .val (.int t0), .unset] [(.int (F2 x3))]))
    refine Ends.step (u' := (T2.setTop (mkF m 143 #[d0, d1, d2, .val (.int x3), .val (.int t0), .val (.int (F2 x3))] []))) ?_ (fun _ k => XS.istore X2.here hx rfl (hb hby at_141) rfl (l' := #[d0, d1, d2, .val (.int x3), .val (.int t0), .val (.int (F2 x3))]) rfl k)
    exact b143 T2 _ _ X2 e2 N2 Zs x3 t0 (F2 x3) (d0) od0 (d1) od1 (d2) od2
  have b130 : ∀ (T : State) (L : List Loc) (h : Heap) (X : Stand p l e room_1 s m #[(.int p0), (.int p1)] below meth c T L 1 8) (eT : T.heap = h) (N : Fr n0 L) (Zs : n0 ≤ h.size) (x3 : Int32) (d0 : Slot) (od0 : OneS d0) (d1 : Slot) (od1 : OneS d1) (d2 : Slot) (od2 : OneS d2), Ends p e below s 1 8 (Q0 Z  h0 n0 (F0_130 x3)) (T.setTop (mkF m 130 #[d0, d1, d2, .val (.int x3), .unset, .unset] [])) := by
    intro T L h X eT N Zs x3 d0 od0 d1 od1 d2 od2
    refine Ends.step (u' := (T.setTop (mkF m 131 #[d0, d1, d2, .val (.int x3), .unset, .unset] [(.int (1 : Int32))]))) ?_ (fun _ k => XT.iconstV X.here hx rfl (1 : Int32) (hb hby at_130) rfl k)
    refine Ends.step (u' := (T.setTop (mkF m 135 #[d0, d1, d2, .val (.int x3), .unset, .unset] [(.int (1 : Int32))]))) ?_ (fun _ k => XS.goto X.here hx rfl (pc0 := 131) (pc' := 135) rfl (hb hby at_131) (by decide) (by decide) k)
    exact b135 T _ _ X eT N Zs x3 (1 : Int32) (d0) od0 (d1) od1 (d2) od2
  have b134 : ∀ (T : State) (L : List Loc) (h : Heap) (X : Stand p l e room_1 s m #[(.int p0), (.int p1)] below meth c T L 1 8) (eT : T.heap = h) (N : Fr n0 L) (Zs : n0 ≤ h.size) (x3 : Int32) (d0 : Slot) (od0 : OneS d0) (d1 : Slot) (od1 : OneS d1) (d2 : Slot) (od2 : OneS d2), Ends p e below s 1 8 (Q0 Z  h0 n0 (F0_134 x3)) (T.setTop (mkF m 134 #[d0, d1, d2, .val (.int x3), .unset, .unset] [])) := by
    intro T L h X eT N Zs x3 d0 od0 d1 od1 d2 od2
    refine Ends.step (u' := (T.setTop (mkF m 135 #[d0, d1, d2, .val (.int x3), .unset, .unset] [(.int (0 : Int32))]))) ?_ (fun _ k => XT.iconstV X.here hx rfl (0 : Int32) (hb hby at_134) rfl k)
    exact b135 T _ _ X eT N Zs x3 (0 : Int32) (d0) od0 (d1) od1 (d2) od2
  have b117 : ∀ (T : State) (L : List Loc) (h : Heap) (X : Stand p l e room_1 s m #[(.int p0), (.int p1)] below meth c T L 1 8) (eT : T.heap = h) (N : Fr n0 L) (Zs : n0 ≤ h.size) (x3 : Int32) (d0 : Slot) (od0 : OneS d0) (d1 : Slot) (od1 : OneS d1) (d2 : Slot) (od2 : OneS d2), Ends p e below s 1 8 (Q0 Z  h0 n0 (F0_117 x3)) (T.setTop (mkF m 117 #[d0, d1, d2, .val (.int x3), .unset, .unset] [])) := by
    intro T L h X eT N Zs x3 d0 od0 d1 od1 d2 od2
    refine Ends.step (u' := (T.setTop (mkF m 118 #[d0, d1, d2, .val (.int x3), .unset, .unset] [(.int x3)]))) ?_ (fun _ k => XS.iloadN X.here hx rfl (hb hby at_117) rfl k)
    refine Ends.step (u' := (T.setTop (mkF m 121 #[d0, d1, d2, .val (.int x3), .unset, .unset] [(.long (8255 : Int64)), (.int x3)]))) ?_ (fun _ k => X.ldc2J hx hown (mvT hZ (hw _ (List.mem_of_getElem? (i := 9) rfl))) rfl (hb hby at_118) k)
    refine Ends.step (u' := (T.setTop (mkF m 124 #[d0, d1, d2, .val (.int x3), .unset, .unset] [(.long (2 : Int64)), (.long (8255 : Int64)), (.int x3)]))) ?_ (fun _ k => X.ldc2J hx hown (mvT hZ (hw _ (List.mem_of_getElem? (i := 10) rfl))) rfl (hb hby at_121) k)
    refine Ends.callS X hx hZ hown (hw _ (List.mem_of_getElem? (i := 3) rfl)) (hw _ (List.mem_of_getElem? (i := 4) rfl)) (hw _ (List.mem_of_getElem? (i := 5) rfl)) (hw _ (List.mem_of_getElem? (i := 6) rfl)) (by decide) (rm1 l Z a0 hw x3 (8255 : Int64) (2 : Int64) h n0 Zs) 0 (by decide) (by decide) eT  (g := (mkF m 124 #[d0, d1, d2, .val (.int x3), .unset, .unset] [(.long (2 : Int64)), (.long (8255 : Int64)), (.int x3)])) rfl (by rw [hml]; rfl)  [(.int x3), (.long (8255 : Int64)), (.long (2 : Int64))] [] (lenOf pd_0 rfl) rfl (by show 2 * 0 + _ ≤ _; exact Nat.le_of_eq rfl) (hb hby at_124) rfl (by decide) (by decide) (fun v3 T3 L3 X3 hQ3 => ?_)
    obtain ⟨rfl, Nq3, e3⟩ := hQ3
    have N3 := Fr.app N Nq3
    show Ends p e below s _ _ _ (T3.setTop (mkF m 127 #[d0, d1, d2, .val (.int x3), .unset, .unset] [(.int (F1 x3 (8255 : Int64) (2 : Int64)))]))
    by_cases hc127 : (F1 x3 (8255 : Int64) (2 : Int64)) = 0
    · refine Eq.mp (congrArg (fun z => Ends p e below s 1 8 (Q0 Z  h0 n0 z) (T3.setTop (mkF m 127 #[d0, d1, d2, .val (.int x3), .unset, .unset] [(.int (F1 x3 (8255 : Int64) (2 : Int64)))]))) (show (F0_117 x3) = (F0_134 x3) from (if_pos hc127)).symm) ?_
      refine Ends.step (u' := (T3.setTop (mkF m 134 #[d0, d1, d2, .val (.int x3), .unset, .unset] []))) ?_ (fun _ k => XS.ifYes X3.here hx rfl (pc0 := 127) (pc' := 134) rfl (hb hby at_127) rfl (XT.i0_eq_t hc127) (by decide) (by decide) k)
      exact b134 T3 _ _ X3 e3 N3 Zs x3 (d0) od0 (d1) od1 (d2) od2
    · refine Eq.mp (congrArg (fun z => Ends p e below s 1 8 (Q0 Z  h0 n0 z) (T3.setTop (mkF m 127 #[d0, d1, d2, .val (.int x3), .unset, .unset] [(.int (F1 x3 (8255 : Int64) (2 : Int64)))]))) (show (F0_117 x3) = (F0_130 x3) from (if_neg hc127)).symm) ?_
      refine Ends.step (u' := (T3.setTop (mkF m 130 #[d0, d1, d2, .val (.int x3), .unset, .unset] []))) ?_ (fun _ k => XS.ifNo X3.here hx rfl (hb hby at_127) rfl (XT.i0_eq_f hc127) k)
      exact b130 T3 _ _ X3 e3 N3 Zs x3 (d0) od0 (d1) od1 (d2) od2
  have b104 : ∀ (T : State) (L : List Loc) (h : Heap) (X : Stand p l e room_1 s m #[(.int p0), (.int p1)] below meth c T L 1 8) (eT : T.heap = h) (N : Fr n0 L) (Zs : n0 ≤ h.size) (x3 : Int32) (d0 : Slot) (od0 : OneS d0) (d1 : Slot) (od1 : OneS d1) (d2 : Slot) (od2 : OneS d2), Ends p e below s 1 8 (Q0 Z  h0 n0 (F0_104 x3)) (T.setTop (mkF m 104 #[d0, d1, d2, .val (.int x3), .unset, .unset] [])) := by
    intro T L h X eT N Zs x3 d0 od0 d1 od1 d2 od2
    refine Ends.step (u' := (T.setTop (mkF m 105 #[d0, d1, d2, .val (.int x3), .unset, .unset] [(.int x3)]))) ?_ (fun _ k => XS.iloadN X.here hx rfl (hb hby at_104) rfl k)
    refine Ends.step (u' := (T.setTop (mkF m 108 #[d0, d1, d2, .val (.int x3), .unset, .unset] [(.long (768 : Int64)), (.int x3)]))) ?_ (fun _ k => X.ldc2J hx hown (mvT hZ (hw _ (List.mem_of_getElem? (i := 7) rfl))) rfl (hb hby at_105) k)
    refine Ends.step (u' := (T.setTop (mkF m 111 #[d0, d1, d2, .val (.int x3), .unset, .unset] [(.long (112 : Int64)), (.long (768 : Int64)), (.int x3)]))) ?_ (fun _ k => X.ldc2J hx hown (mvT hZ (hw _ (List.mem_of_getElem? (i := 8) rfl))) rfl (hb hby at_108) k)
    refine Ends.callS X hx hZ hown (hw _ (List.mem_of_getElem? (i := 3) rfl)) (hw _ (List.mem_of_getElem? (i := 4) rfl)) (hw _ (List.mem_of_getElem? (i := 5) rfl)) (hw _ (List.mem_of_getElem? (i := 6) rfl)) (by decide) (rm1 l Z a0 hw x3 (768 : Int64) (112 : Int64) h n0 Zs) 0 (by decide) (by decide) eT  (g := (mkF m 111 #[d0, d1, d2, .val (.int x3), .unset, .unset] [(.long (112 : Int64)), (.long (768 : Int64)), (.int x3)])) rfl (by rw [hml]; rfl)  [(.int x3), (.long (768 : Int64)), (.long (112 : Int64))] [] (lenOf pd_0 rfl) rfl (by show 2 * 0 + _ ≤ _; exact Nat.le_of_eq rfl) (hb hby at_111) rfl (by decide) (by decide) (fun v4 T4 L4 X4 hQ4 => ?_)
    obtain ⟨rfl, Nq4, e4⟩ := hQ4
    have N4 := Fr.app N Nq4
    show Ends p e below s _ _ _ (T4.setTop (mkF m 114 #[d0, d1, d2, .val (.int x3), .unset, .unset] [(.int (F1 x3 (768 : Int64) (112 : Int64)))]))
    by_cases hc114 : (F1 x3 (768 : Int64) (112 : Int64)) = 0
    · refine Eq.mp (congrArg (fun z => Ends p e below s 1 8 (Q0 Z  h0 n0 z) (T4.setTop (mkF m 114 #[d0, d1, d2, .val (.int x3), .unset, .unset] [(.int (F1 x3 (768 : Int64) (112 : Int64)))]))) (show (F0_104 x3) = (F0_117 x3) from (if_pos hc114)).symm) ?_
      refine Ends.step (u' := (T4.setTop (mkF m 117 #[d0, d1, d2, .val (.int x3), .unset, .unset] []))) ?_ (fun _ k => XS.ifNo X4.here hx rfl (hb hby at_114) rfl (XT.i0_ne_f hc114) k)
      exact b117 T4 _ _ X4 e4 N4 Zs x3 (d0) od0 (d1) od1 (d2) od2
    · refine Eq.mp (congrArg (fun z => Ends p e below s 1 8 (Q0 Z  h0 n0 z) (T4.setTop (mkF m 114 #[d0, d1, d2, .val (.int x3), .unset, .unset] [(.int (F1 x3 (768 : Int64) (112 : Int64)))]))) (show (F0_104 x3) = (F0_130 x3) from (if_neg hc114)).symm) ?_
      refine Ends.step (u' := (T4.setTop (mkF m 130 #[d0, d1, d2, .val (.int x3), .unset, .unset] []))) ?_ (fun _ k => XS.ifYes X4.here hx rfl (pc0 := 114) (pc' := 130) rfl (hb hby at_114) rfl (XT.i0_ne_t hc114) (by decide) (by decide) k)
      exact b130 T4 _ _ X4 e4 N4 Zs x3 (d0) od0 (d1) od1 (d2) od2
  have b97 : ∀ (T : State) (L : List Loc) (h : Heap) (X : Stand p l e room_1 s m #[(.int p0), (.int p1)] below meth c T L 1 8) (eT : T.heap = h) (N : Fr n0 L) (Zs : n0 ≤ h.size) (x3 : Int32) (d0 : Slot) (od0 : OneS d0) (d1 : Slot) (od1 : OneS d1) (d2 : Slot) (od2 : OneS d2), Ends p e below s 1 8 (Q0 Z  h0 n0 (F0_97 x3)) (T.setTop (mkF m 97 #[d0, d1, d2, .val (.int x3), .unset, .unset] [])) := by
    intro T L h X eT N Zs x3 d0 od0 d1 od1 d2 od2
    refine Ends.step (u' := (T.setTop (mkF m 98 #[d0, d1, d2, .val (.int x3), .unset, .unset] [(.int x3)]))) ?_ (fun _ k => XS.iloadN X.here hx rfl (hb hby at_97) rfl k)
    refine Ends.step (u' := (T.setTop (mkF m 101 #[d0, d1, d2, .val (.int x3), .unset, .unset] [(.int (183 : Int32)), (.int x3)]))) ?_ (fun _ k => XT.sipushV X.here hx rfl (183 : Int32) (hb hby at_98) rfl k)
    by_cases hc101 : x3 = (183 : Int32)
    · refine Eq.mp (congrArg (fun z => Ends p e below s 1 8 (Q0 Z  h0 n0 z) (T.setTop (mkF m 101 #[d0, d1, d2, .val (.int x3), .unset, .unset] [(.int (183 : Int32)), (.int x3)]))) (show (F0_97 x3) = (F0_130 x3) from (if_pos hc101)).symm) ?_
      refine Ends.step (u' := (T.setTop (mkF m 130 #[d0, d1, d2, .val (.int x3), .unset, .unset] []))) ?_ (fun _ k => XS.icmpYes X.here hx rfl (pc0 := 101) (pc' := 130) rfl (hb hby at_101) rfl (XT.ii_eq_t hc101) (by decide) (by decide) k)
      exact b130 T _ _ X eT N Zs x3 (d0) od0 (d1) od1 (d2) od2
    · refine Eq.mp (congrArg (fun z => Ends p e below s 1 8 (Q0 Z  h0 n0 z) (T.setTop (mkF m 101 #[d0, d1, d2, .val (.int x3), .unset, .unset] [(.int (183 : Int32)), (.int x3)]))) (show (F0_97 x3) = (F0_104 x3) from (if_neg hc101)).symm) ?_
      refine Ends.step (u' := (T.setTop (mkF m 104 #[d0, d1, d2, .val (.int x3), .unset, .unset] []))) ?_ (fun _ k => XS.icmpNo X.here hx rfl (hb hby at_101) rfl (XT.ii_eq_f hc101) k)
      exact b104 T _ _ X eT N Zs x3 (d0) od0 (d1) od1 (d2) od2
  have b84 : ∀ (T : State) (L : List Loc) (h : Heap) (X : Stand p l e room_1 s m #[(.int p0), (.int p1)] below meth c T L 1 8) (eT : T.heap = h) (N : Fr n0 L) (Zs : n0 ≤ h.size) (x3 : Int32) (d0 : Slot) (od0 : OneS d0) (d1 : Slot) (od1 : OneS d1) (d2 : Slot) (od2 : OneS d2), Ends p e below s 1 8 (Q0 Z  h0 n0 (F0_84 x3)) (T.setTop (mkF m 84 #[d0, d1, d2, .val (.int x3), .unset, .unset] [])) := by
    intro T L h X eT N Zs x3 d0 od0 d1 od1 d2 od2
    refine Ends.step (u' := (T.setTop (mkF m 85 #[d0, d1, d2, .val (.int x3), .unset, .unset] [(.int x3)]))) ?_ (fun _ k => XS.iloadN X.here hx rfl (hb hby at_84) rfl k)
    refine Ends.step (u' := (T.setTop (mkF m 88 #[d0, d1, d2, .val (.int x3), .unset, .unset] [(.long (48 : Int64)), (.int x3)]))) ?_ (fun _ k => X.ldc2J hx hown (mvT hZ (hw _ (List.mem_of_getElem? (i := 1) rfl))) rfl (hb hby at_85) k)
    refine Ends.step (u' := (T.setTop (mkF m 91 #[d0, d1, d2, .val (.int x3), .unset, .unset] [(.long (10 : Int64)), (.long (48 : Int64)), (.int x3)]))) ?_ (fun _ k => X.ldc2J hx hown (mvT hZ (hw _ (List.mem_of_getElem? (i := 2) rfl))) rfl (hb hby at_88) k)
    refine Ends.callS X hx hZ hown (hw _ (List.mem_of_getElem? (i := 3) rfl)) (hw _ (List.mem_of_getElem? (i := 4) rfl)) (hw _ (List.mem_of_getElem? (i := 5) rfl)) (hw _ (List.mem_of_getElem? (i := 6) rfl)) (by decide) (rm1 l Z a0 hw x3 (48 : Int64) (10 : Int64) h n0 Zs) 0 (by decide) (by decide) eT  (g := (mkF m 91 #[d0, d1, d2, .val (.int x3), .unset, .unset] [(.long (10 : Int64)), (.long (48 : Int64)), (.int x3)])) rfl (by rw [hml]; rfl)  [(.int x3), (.long (48 : Int64)), (.long (10 : Int64))] [] (lenOf pd_0 rfl) rfl (by show 2 * 0 + _ ≤ _; exact Nat.le_of_eq rfl) (hb hby at_91) rfl (by decide) (by decide) (fun v5 T5 L5 X5 hQ5 => ?_)
    obtain ⟨rfl, Nq5, e5⟩ := hQ5
    have N5 := Fr.app N Nq5
    show Ends p e below s _ _ _ (T5.setTop (mkF m 94 #[d0, d1, d2, .val (.int x3), .unset, .unset] [(.int (F1 x3 (48 : Int64) (10 : Int64)))]))
    by_cases hc94 : (F1 x3 (48 : Int64) (10 : Int64)) = 0
    · refine Eq.mp (congrArg (fun z => Ends p e below s 1 8 (Q0 Z  h0 n0 z) (T5.setTop (mkF m 94 #[d0, d1, d2, .val (.int x3), .unset, .unset] [(.int (F1 x3 (48 : Int64) (10 : Int64)))]))) (show (F0_84 x3) = (F0_97 x3) from (if_pos hc94)).symm) ?_
      refine Ends.step (u' := (T5.setTop (mkF m 97 #[d0, d1, d2, .val (.int x3), .unset, .unset] []))) ?_ (fun _ k => XS.ifNo X5.here hx rfl (hb hby at_94) rfl (XT.i0_ne_f hc94) k)
      exact b97 T5 _ _ X5 e5 N5 Zs x3 (d0) od0 (d1) od1 (d2) od2
    · refine Eq.mp (congrArg (fun z => Ends p e below s 1 8 (Q0 Z  h0 n0 z) (T5.setTop (mkF m 94 #[d0, d1, d2, .val (.int x3), .unset, .unset] [(.int (F1 x3 (48 : Int64) (10 : Int64)))]))) (show (F0_84 x3) = (F0_130 x3) from (if_neg hc94)).symm) ?_
      refine Ends.step (u' := (T5.setTop (mkF m 130 #[d0, d1, d2, .val (.int x3), .unset, .unset] []))) ?_ (fun _ k => XS.ifYes X5.here hx rfl (pc0 := 94) (pc' := 130) rfl (hb hby at_94) rfl (XT.i0_ne_t hc94) (by decide) (by decide) k)
      exact b130 T5 _ _ X5 e5 N5 Zs x3 (d0) od0 (d1) od1 (d2) od2
  have b78 : ∀ (T : State) (L : List Loc) (h : Heap) (X : Stand p l e room_1 s m #[(.int p0), (.int p1)] below meth c T L 1 8) (eT : T.heap = h) (N : Fr n0 L) (Zs : n0 ≤ h.size) (x3 : Int32) (d0 : Slot) (od0 : OneS d0) (d1 : Slot) (od1 : OneS d1) (d2 : Slot) (od2 : OneS d2), Ends p e below s 1 8 (Q0 Z  h0 n0 (F0_78 x3)) (T.setTop (mkF m 78 #[d0, d1, d2, .val (.int x3), .unset, .unset] [])) := by
    intro T L h X eT N Zs x3 d0 od0 d1 od1 d2 od2
    refine Ends.step (u' := (T.setTop (mkF m 79 #[d0, d1, d2, .val (.int x3), .unset, .unset] [(.int x3)]))) ?_ (fun _ k => XS.iloadN X.here hx rfl (hb hby at_78) rfl k)
    refine Ends.step (u' := (T.setTop (mkF m 81 #[d0, d1, d2, .val (.int x3), .unset, .unset] [(.int (45 : Int32)), (.int x3)]))) ?_ (fun _ k => XT.bipushV X.here hx rfl (45 : Int32) (hb hby at_79) rfl k)
    by_cases hc81 : x3 = (45 : Int32)
    · refine Eq.mp (congrArg (fun z => Ends p e below s 1 8 (Q0 Z  h0 n0 z) (T.setTop (mkF m 81 #[d0, d1, d2, .val (.int x3), .unset, .unset] [(.int (45 : Int32)), (.int x3)]))) (show (F0_78 x3) = (F0_130 x3) from (if_pos hc81)).symm) ?_
      refine Ends.step (u' := (T.setTop (mkF m 130 #[d0, d1, d2, .val (.int x3), .unset, .unset] []))) ?_ (fun _ k => XS.icmpYes X.here hx rfl (pc0 := 81) (pc' := 130) rfl (hb hby at_81) rfl (XT.ii_eq_t hc81) (by decide) (by decide) k)
      exact b130 T _ _ X eT N Zs x3 (d0) od0 (d1) od1 (d2) od2
    · refine Eq.mp (congrArg (fun z => Ends p e below s 1 8 (Q0 Z  h0 n0 z) (T.setTop (mkF m 81 #[d0, d1, d2, .val (.int x3), .unset, .unset] [(.int (45 : Int32)), (.int x3)]))) (show (F0_78 x3) = (F0_84 x3) from (if_neg hc81)).symm) ?_
      refine Ends.step (u' := (T.setTop (mkF m 84 #[d0, d1, d2, .val (.int x3), .unset, .unset] []))) ?_ (fun _ k => XS.icmpNo X.here hx rfl (hb hby at_81) rfl (XT.ii_eq_f hc81) k)
      exact b84 T _ _ X eT N Zs x3 (d0) od0 (d1) od1 (d2) od2
  have b58 : ∀ (T : State) (L : List Loc) (h : Heap) (X : Stand p l e room_1 s m #[(.int p0), (.int p1)] below meth c T L 1 8) (eT : T.heap = h) (N : Fr n0 L) (Zs : n0 ≤ h.size) (x0 : Int32) (d1 : Slot) (od1 : OneS d1) (d2 : Slot) (od2 : OneS d2), Ends p e below s 1 8 (Q0 Z  h0 n0 (F0_58 x0)) (T.setTop (mkF m 58 #[.val (.int x0), d1, d2, .unset, .unset, .unset] [])) := by
    intro T L h X eT N Zs x0 d1 od1 d2 od2
    refine Ends.step (u' := (T.setTop (mkF m 59 #[.val (.int x0), d1, d2, .unset, .unset, .unset] [(.int x0)]))) ?_ (fun _ k => XS.iloadN X.here hx rfl (hb hby at_58) rfl k)
    refine Ends.step (u' := (T.setTop (mkF m 60 #[.val (.int x0), d1, d2, .val (.int x0), .unset, .unset] []))) ?_ (fun _ k => XS.istoreN X.here hx rfl (hb hby at_59) rfl (l' := #[.val (.int x0), d1, d2, .val (.int x0), .unset, .unset]) rfl k)
    refine Ends.step (u' := (T.setTop (mkF m 78 #[.val (.int x0), d1, d2, .val (.int x0), .unset, .unset] []))) ?_ (fun _ k => XS.goto X.here hx rfl (pc0 := 60) (pc' := 78) rfl (hb hby at_60) (by decide) (by decide) k)
    exact b78 T _ _ X eT N Zs x0 (.val (.int x0)) (Or.inr ⟨_, rfl, rfl⟩) (d1) od1 (d2) od2
  have b63 : ∀ (T : State) (L : List Loc) (h : Heap) (X : Stand p l e room_1 s m #[(.int p0), (.int p1)] below meth c T L 1 8) (eT : T.heap = h) (N : Fr n0 L) (Zs : n0 ≤ h.size) (cf_q2 : Nat → Int32) (x0 : Int32) (x1 : Int32) (a_q2 : Addr) (g_q2 : n0 ≤ a_q2) (A_q2 : Ar Z h a_q2 .int 8 cf_q2) (ok : (O0_63 cf_q2 x0 x1)), Ends p e below s 1 8 (Q0 Z  h0 n0 (F0_63 cf_q2 x0 x1)) (T.setTop (mkF m 63 #[.val (.int x0), .val (.int x1), .val (.ref a_q2), .unset, .unset, .unset] [])) := by
    intro T L h X eT N Zs cf_q2 x0 x1 a_q2 g_q2 A_q2 ok
    obtain ⟨o1, ok⟩ := ok
    refine Ends.step (u' := (T.setTop (mkF m 64 #[.val (.int x0), .val (.int x1), .val (.ref a_q2), .unset, .unset, .unset] [(.ref a_q2)]))) ?_ (fun _ k => XS.aloadN X.here hx rfl (hb hby at_63) rfl rfl k)
    refine Ends.step (u' := (T.setTop (mkF m 65 #[.val (.int x0), .val (.int x1), .val (.ref a_q2), .unset, .unset, .unset] [(.int x1), (.ref a_q2)]))) ?_ (fun _ k => XS.iloadN X.here hx rfl (hb hby at_64) rfl k)
    refine Ends.step (u' := (T.setTop (mkF m 66 #[.val (.int x0), .val (.int x1), .val (.ref a_q2), .unset, .unset, .unset] [(.int (2 : Int32)), (.int x1), (.ref a_q2)]))) ?_ (fun _ k => XT.iconstV X.here hx rfl (2 : Int32) (hb hby at_65) rfl k)
    refine Ends.step (u' := (T.setTop (mkF m 67 #[.val (.int x0), .val (.int x1), .val (.ref a_q2), .unset, .unset, .unset] [(.int (XT.ushr x1 (2 : Int32))), (.ref a_q2)]))) ?_ (fun _ k => XT.iushr X.here hx rfl (hb hby at_66) rfl k)
    refine Ends.step (u' := (T.setTop (mkF m 69 #[.val (.int x0), .val (.int x1), .val (.ref a_q2), .unset, .unset, .unset] [(.int (8 : Int32)), (.int (XT.ushr x1 (2 : Int32))), (.ref a_q2)]))) ?_ (fun _ k => XT.bipushV X.here hx rfl (8 : Int32) (hb hby at_67) rfl k)
    refine Ends.step (u' := (T.setTop (mkF m 70 #[.val (.int x0), .val (.int x1), .val (.ref a_q2), .unset, .unset, .unset] [(.int ((XT.ushr x1 (2 : Int32)) % (8 : Int32))), (.ref a_q2)]))) ?_ (fun _ k => iremM X hx rfl (hb hby at_69) rfl (by decide) k)
    refine Ends.iaload X hx hZ eT A_q2 o1 (g := (mkF m 70 #[.val (.int x0), .val (.int x1), .val (.ref a_q2), .unset, .unset, .unset] [(.int ((XT.ushr x1 (2 : Int32)) % (8 : Int32))), (.ref a_q2)])) rfl rfl (hb hby at_70) ?_
    show Ends p e below s _ _ _ (T.setTop (mkF m 71 #[.val (.int x0), .val (.int x1), .val (.ref a_q2), .unset, .unset, .unset] [(.int (cf_q2 (((XT.ushr x1 (2 : Int32)) % (8 : Int32))).toNatClampNeg))]))
    refine Ends.step (u' := (T.setTop (mkF m 72 #[.val (.int x0), .val (.int x1), .val (.ref a_q2), .unset, .unset, .unset] [(.int x0), (.int (cf_q2 (((XT.ushr x1 (2 : Int32)) % (8 : Int32))).toNatClampNeg))]))) ?_ (fun _ k => XS.iloadN X.here hx rfl (hb hby at_71) rfl k)
    refine Ends.step (u' := (T.setTop (mkF m 73 #[.val (.int x0), .val (.int x1), .val (.ref a_q2), .unset, .unset, .unset] [(.int (3 : Int32)), (.int x0), (.int (cf_q2 (((XT.ushr x1 (2 : Int32)) % (8 : Int32))).toNatClampNeg))]))) ?_ (fun _ k => XT.iconstV X.here hx rfl (3 : Int32) (hb hby at_72) rfl k)
    refine Ends.step (u' := (T.setTop (mkF m 74 #[.val (.int x0), .val (.int x1), .val (.ref a_q2), .unset, .unset, .unset] [(.int (x0 &&& (3 : Int32))), (.int (cf_q2 (((XT.ushr x1 (2 : Int32)) % (8 : Int32))).toNatClampNeg))]))) ?_ (fun _ k => XS.iand X.here hx rfl (hb hby at_73) rfl k)
    refine Ends.step (u' := (T.setTop (mkF m 75 #[.val (.int x0), .val (.int x1), .val (.ref a_q2), .unset, .unset, .unset] [(.int (1 : Int32)), (.int (x0 &&& (3 : Int32))), (.int (cf_q2 (((XT.ushr x1 (2 : Int32)) % (8 : Int32))).toNatClampNeg))]))) ?_ (fun _ k => XT.iconstV X.here hx rfl (1 : Int32) (hb hby at_74) rfl k)
    refine Ends.step (u' := (T.setTop (mkF m 76 #[.val (.int x0), .val (.int x1), .val (.ref a_q2), .unset, .unset, .unset] [(.int ((x0 &&& (3 : Int32)) - (1 : Int32))), (.int (cf_q2 (((XT.ushr x1 (2 : Int32)) % (8 : Int32))).toNatClampNeg))]))) ?_ (fun _ k => XS.isub X.here hx rfl (hb hby at_75) rfl k)
    refine Ends.step (u' := (T.setTop (mkF m 77 #[.val (.int x0), .val (.int x1), .val (.ref a_q2), .unset, .unset, .unset] [(.int ((cf_q2 (((XT.ushr x1 (2 : Int32)) % (8 : Int32))).toNatClampNeg) + ((x0 &&& (3 : Int32)) - (1 : Int32))))]))) ?_ (fun _ k => XS.iadd X.here hx rfl (hb hby at_76) rfl k)
    refine Ends.step (u' := (T.setTop (mkF m 78 #[.val (.int x0), .val (.int x1), .val (.ref a_q2), .val (.int ((cf_q2 (((XT.ushr x1 (2 : Int32)) % (8 : Int32))).toNatClampNeg) + ((x0 &&& (3 : Int32)) - (1 : Int32)))), .unset, .unset] []))) ?_ (fun _ k => XS.istoreN X.here hx rfl (hb hby at_77) rfl (l' := #[.val (.int x0), .val (.int x1), .val (.ref a_q2), .val (.int ((cf_q2 (((XT.ushr x1 (2 : Int32)) % (8 : Int32))).toNatClampNeg) + ((x0 &&& (3 : Int32)) - (1 : Int32)))), .unset, .unset]) rfl k)
    exact b78 T _ _ X eT N Zs ((cf_q2 (((XT.ushr x1 (2 : Int32)) % (8 : Int32))).toNatClampNeg) + ((x0 &&& (3 : Int32)) - (1 : Int32))) (.val (.int x0)) (Or.inr ⟨_, rfl, rfl⟩) (.val (.int x1)) (Or.inr ⟨_, rfl, rfl⟩) (.val (.ref a_q2)) (Or.inr ⟨_, rfl, rfl⟩)
  have b52 : ∀ (T : State) (L : List Loc) (h : Heap) (X : Stand p l e room_1 s m #[(.int p0), (.int p1)] below meth c T L 1 8) (eT : T.heap = h) (N : Fr n0 L) (Zs : n0 ≤ h.size) (cf_q2 : Nat → Int32) (x0 : Int32) (x1 : Int32) (a_q2 : Addr) (g_q2 : n0 ≤ a_q2) (A_q2 : Ar Z h a_q2 .int 8 cf_q2) (ok : (O0_52 cf_q2 x0 x1)), Ends p e below s 1 8 (Q0 Z  h0 n0 (F0_52 cf_q2 x0 x1)) (T.setTop (mkF m 52 #[.val (.int x0), .val (.int x1), .val (.ref a_q2), .unset, .unset, .unset] [])) := by
    intro T L h X eT N Zs cf_q2 x0 x1 a_q2 g_q2 A_q2 ok
    obtain ⟨okt, okf⟩ := ok
    refine Ends.step (u' := (T.setTop (mkF m 53 #[.val (.int x0), .val (.int x1), .val (.ref a_q2), .unset, .unset, .unset] [(.int x1)]))) ?_ (fun _ k => XS.iloadN X.here hx rfl (hb hby at_52) rfl k)
    refine Ends.step (u' := (T.setTop (mkF m 54 #[.val (.int x0), .val (.int x1), .val (.ref a_q2), .unset, .unset, .unset] [(.int (3 : Int32)), (.int x1)]))) ?_ (fun _ k => XT.iconstV X.here hx rfl (3 : Int32) (hb hby at_53) rfl k)
    refine Ends.step (u' := (T.setTop (mkF m 55 #[.val (.int x0), .val (.int x1), .val (.ref a_q2), .unset, .unset, .unset] [(.int (x1 &&& (3 : Int32)))]))) ?_ (fun _ k => XS.iand X.here hx rfl (hb hby at_54) rfl k)
    by_cases hc55 : (x1 &&& (3 : Int32)) = 0
    · refine Eq.mp (congrArg (fun z => Ends p e below s 1 8 (Q0 Z  h0 n0 z) (T.setTop (mkF m 55 #[.val (.int x0), .val (.int x1), .val (.ref a_q2), .unset, .unset, .unset] [(.int (x1 &&& (3 : Int32)))]))) (show (F0_52 cf_q2 x0 x1) = (F0_58 x0) from (if_pos hc55)).symm) ?_
      refine Ends.step (u' := (T.setTop (mkF m 58 #[.val (.int x0), .val (.int x1), .val (.ref a_q2), .unset, .unset, .unset] []))) ?_ (fun _ k => XS.ifNo X.here hx rfl (hb hby at_55) rfl (XT.i0_ne_f hc55) k)
      exact b58 T _ _ X eT N Zs x0 (.val (.int x1)) (Or.inr ⟨_, rfl, rfl⟩) (.val (.ref a_q2)) (Or.inr ⟨_, rfl, rfl⟩)
    · refine Eq.mp (congrArg (fun z => Ends p e below s 1 8 (Q0 Z  h0 n0 z) (T.setTop (mkF m 55 #[.val (.int x0), .val (.int x1), .val (.ref a_q2), .unset, .unset, .unset] [(.int (x1 &&& (3 : Int32)))]))) (show (F0_52 cf_q2 x0 x1) = (F0_63 cf_q2 x0 x1) from (if_neg hc55)).symm) ?_
      refine Ends.step (u' := (T.setTop (mkF m 63 #[.val (.int x0), .val (.int x1), .val (.ref a_q2), .unset, .unset, .unset] []))) ?_ (fun _ k => XS.ifYes X.here hx rfl (pc0 := 55) (pc' := 63) rfl (hb hby at_55) rfl (XT.i0_ne_t hc55) (by decide) (by decide) k)
      exact b63 T _ _ X eT N Zs cf_q2 x0 x1 a_q2 g_q2 A_q2 (okf hc55)
  refine Ends.step (u' := (s₁.setTop (mkF m 0 #[.val (.int p0), .val (.int p1), .unset, .unset, .unset, .unset] []))) ?_ (fun _ k => castTop (ef_0 m p0 p1) k)
  refine Ends.step (u' := (s₁.setTop (mkF m 2 #[.val (.int p0), .val (.int p1), .unset, .unset, .unset, .unset] [(.int (8 : Int32))]))) ?_ (fun _ k => XT.bipushV X0.here hx rfl (8 : Int32) (hb hby at_0) rfl k)
  refine Ends.newA X0 hx hZ (hw _ (List.mem_of_getElem? (i := 0) rfl)) e0 (g := (mkF m 2 #[.val (.int p0), .val (.int p1), .unset, .unset, .unset, .unset] [(.int (8 : Int32))])) rfl (hb hby at_2) rfl rfl (by decide) 8 (by decide) (by decide) (by decide) (by decide) (fun T6 h6 a6 X6 e6 E6 q6 A6 => ?_)
  have g7 : n0 ≤ a6 := q6 ▸ Z0
  have Z8 := Nat.le_trans Z0 E6.1
  show Ends p e below s _ _ _ (T6.setTop (mkF m 4 #[.val (.int p0), .val (.int p1), .unset, .unset, .unset, .unset] [(.ref a6)]))
  refine Ends.step (u' := (T6.setTop (mkF m 5 #[.val (.int p0), .val (.int p1), .unset, .unset, .unset, .unset] [(.ref a6), (.ref a6)]))) ?_ (fun _ k => XS.dup X6.here hx rfl (hb hby at_4) rfl rfl k)
  refine Ends.step (u' := (T6.setTop (mkF m 6 #[.val (.int p0), .val (.int p1), .unset, .unset, .unset, .unset] [(.int (0 : Int32)), (.ref a6), (.ref a6)]))) ?_ (fun _ k => XT.iconstV X6.here hx rfl (0 : Int32) (hb hby at_5) rfl k)
  refine Ends.step (u' := (T6.setTop (mkF m 8 #[.val (.int p0), .val (.int p1), .unset, .unset, .unset, .unset] [(.int (45 : Int32)), (.int (0 : Int32)), (.ref a6), (.ref a6)]))) ?_ (fun _ k => XT.bipushV X6.here hx rfl (45 : Int32) (hb hby at_6) rfl k)
  refine Ends.iastore X6 hx hZ e6 A6 (by unfold inb; decide) N0 g7 (g := (mkF m 8 #[.val (.int p0), .val (.int p1), .unset, .unset, .unset, .unset] [(.int (45 : Int32)), (.int (0 : Int32)), (.ref a6), (.ref a6)])) rfl rfl (hb hby at_8) (fun T9 h9 sl9 X9 e9 N9 W9 A9 => ?_)
  show Ends p e below s _ _ _ (T9.setTop (mkF m 9 #[.val (.int p0), .val (.int p1), .unset, .unset, .unset, .unset] [(.ref a6)]))
  have Z10 : n0 ≤ h9.size := W9.size.symm ▸ Z8
  refine Ends.step (u' := (T9.setTop (mkF m 10 #[.val (.int p0), .val (.int p1), .unset, .unset, .unset, .unset] [(.ref a6), (.ref a6)]))) ?_ (fun _ k => XS.dup X9.here hx rfl (hb hby at_9) rfl rfl k)
  refine Ends.step (u' := (T9.setTop (mkF m 11 #[.val (.int p0), .val (.int p1), .unset, .unset, .unset, .unset] [(.int (1 : Int32)), (.ref a6), (.ref a6)]))) ?_ (fun _ k => XT.iconstV X9.here hx rfl (1 : Int32) (hb hby at_10) rfl k)
  refine Ends.step (u' := (T9.setTop (mkF m 13 #[.val (.int p0), .val (.int p1), .unset, .unset, .unset, .unset] [(.int (48 : Int32)), (.int (1 : Int32)), (.ref a6), (.ref a6)]))) ?_ (fun _ k => XT.bipushV X9.here hx rfl (48 : Int32) (hb hby at_11) rfl k)
  refine Ends.iastore X9 hx hZ e9 A9 (by unfold inb; decide) N9 g7 (g := (mkF m 13 #[.val (.int p0), .val (.int p1), .unset, .unset, .unset, .unset] [(.int (48 : Int32)), (.int (1 : Int32)), (.ref a6), (.ref a6)])) rfl rfl (hb hby at_13) (fun T11 h11 sl11 X11 e11 N11 W11 A11 => ?_)
  show Ends p e below s _ _ _ (T11.setTop (mkF m 14 #[.val (.int p0), .val (.int p1), .unset, .unset, .unset, .unset] [(.ref a6)]))
  have Z12 : n0 ≤ h11.size := W11.size.symm ▸ Z10
  refine Ends.step (u' := (T11.setTop (mkF m 15 #[.val (.int p0), .val (.int p1), .unset, .unset, .unset, .unset] [(.ref a6), (.ref a6)]))) ?_ (fun _ k => XS.dup X11.here hx rfl (hb hby at_14) rfl rfl k)
  refine Ends.step (u' := (T11.setTop (mkF m 16 #[.val (.int p0), .val (.int p1), .unset, .unset, .unset, .unset] [(.int (2 : Int32)), (.ref a6), (.ref a6)]))) ?_ (fun _ k => XT.iconstV X11.here hx rfl (2 : Int32) (hb hby at_15) rfl k)
  refine Ends.step (u' := (T11.setTop (mkF m 18 #[.val (.int p0), .val (.int p1), .unset, .unset, .unset, .unset] [(.int (57 : Int32)), (.int (2 : Int32)), (.ref a6), (.ref a6)]))) ?_ (fun _ k => XT.bipushV X11.here hx rfl (57 : Int32) (hb hby at_16) rfl k)
  refine Ends.iastore X11 hx hZ e11 A11 (by unfold inb; decide) N11 g7 (g := (mkF m 18 #[.val (.int p0), .val (.int p1), .unset, .unset, .unset, .unset] [(.int (57 : Int32)), (.int (2 : Int32)), (.ref a6), (.ref a6)])) rfl rfl (hb hby at_18) (fun T13 h13 sl13 X13 e13 N13 W13 A13 => ?_)
  show Ends p e below s _ _ _ (T13.setTop (mkF m 19 #[.val (.int p0), .val (.int p1), .unset, .unset, .unset, .unset] [(.ref a6)]))
  have Z14 : n0 ≤ h13.size := W13.size.symm ▸ Z12
  refine Ends.step (u' := (T13.setTop (mkF m 20 #[.val (.int p0), .val (.int p1), .unset, .unset, .unset, .unset] [(.ref a6), (.ref a6)]))) ?_ (fun _ k => XS.dup X13.here hx rfl (hb hby at_19) rfl rfl k)
  refine Ends.step (u' := (T13.setTop (mkF m 21 #[.val (.int p0), .val (.int p1), .unset, .unset, .unset, .unset] [(.int (3 : Int32)), (.ref a6), (.ref a6)]))) ?_ (fun _ k => XT.iconstV X13.here hx rfl (3 : Int32) (hb hby at_20) rfl k)
  refine Ends.step (u' := (T13.setTop (mkF m 24 #[.val (.int p0), .val (.int p1), .unset, .unset, .unset, .unset] [(.int (183 : Int32)), (.int (3 : Int32)), (.ref a6), (.ref a6)]))) ?_ (fun _ k => XT.sipushV X13.here hx rfl (183 : Int32) (hb hby at_21) rfl k)
  refine Ends.iastore X13 hx hZ e13 A13 (by unfold inb; decide) N13 g7 (g := (mkF m 24 #[.val (.int p0), .val (.int p1), .unset, .unset, .unset, .unset] [(.int (183 : Int32)), (.int (3 : Int32)), (.ref a6), (.ref a6)])) rfl rfl (hb hby at_24) (fun T15 h15 sl15 X15 e15 N15 W15 A15 => ?_)
  show Ends p e below s _ _ _ (T15.setTop (mkF m 25 #[.val (.int p0), .val (.int p1), .unset, .unset, .unset, .unset] [(.ref a6)]))
  have Z16 : n0 ≤ h15.size := W15.size.symm ▸ Z14
  refine Ends.step (u' := (T15.setTop (mkF m 26 #[.val (.int p0), .val (.int p1), .unset, .unset, .unset, .unset] [(.ref a6), (.ref a6)]))) ?_ (fun _ k => XS.dup X15.here hx rfl (hb hby at_25) rfl rfl k)
  refine Ends.step (u' := (T15.setTop (mkF m 27 #[.val (.int p0), .val (.int p1), .unset, .unset, .unset, .unset] [(.int (4 : Int32)), (.ref a6), (.ref a6)]))) ?_ (fun _ k => XT.iconstV X15.here hx rfl (4 : Int32) (hb hby at_26) rfl k)
  refine Ends.step (u' := (T15.setTop (mkF m 30 #[.val (.int p0), .val (.int p1), .unset, .unset, .unset, .unset] [(.int (768 : Int32)), (.int (4 : Int32)), (.ref a6), (.ref a6)]))) ?_ (fun _ k => XT.sipushV X15.here hx rfl (768 : Int32) (hb hby at_27) rfl k)
  refine Ends.iastore X15 hx hZ e15 A15 (by unfold inb; decide) N15 g7 (g := (mkF m 30 #[.val (.int p0), .val (.int p1), .unset, .unset, .unset, .unset] [(.int (768 : Int32)), (.int (4 : Int32)), (.ref a6), (.ref a6)])) rfl rfl (hb hby at_30) (fun T17 h17 sl17 X17 e17 N17 W17 A17 => ?_)
  show Ends p e below s _ _ _ (T17.setTop (mkF m 31 #[.val (.int p0), .val (.int p1), .unset, .unset, .unset, .unset] [(.ref a6)]))
  have Z18 : n0 ≤ h17.size := W17.size.symm ▸ Z16
  refine Ends.step (u' := (T17.setTop (mkF m 32 #[.val (.int p0), .val (.int p1), .unset, .unset, .unset, .unset] [(.ref a6), (.ref a6)]))) ?_ (fun _ k => XS.dup X17.here hx rfl (hb hby at_31) rfl rfl k)
  refine Ends.step (u' := (T17.setTop (mkF m 33 #[.val (.int p0), .val (.int p1), .unset, .unset, .unset, .unset] [(.int (5 : Int32)), (.ref a6), (.ref a6)]))) ?_ (fun _ k => XT.iconstV X17.here hx rfl (5 : Int32) (hb hby at_32) rfl k)
  refine Ends.step (u' := (T17.setTop (mkF m 36 #[.val (.int p0), .val (.int p1), .unset, .unset, .unset, .unset] [(.int (879 : Int32)), (.int (5 : Int32)), (.ref a6), (.ref a6)]))) ?_ (fun _ k => XT.sipushV X17.here hx rfl (879 : Int32) (hb hby at_33) rfl k)
  refine Ends.iastore X17 hx hZ e17 A17 (by unfold inb; decide) N17 g7 (g := (mkF m 36 #[.val (.int p0), .val (.int p1), .unset, .unset, .unset, .unset] [(.int (879 : Int32)), (.int (5 : Int32)), (.ref a6), (.ref a6)])) rfl rfl (hb hby at_36) (fun T19 h19 sl19 X19 e19 N19 W19 A19 => ?_)
  show Ends p e below s _ _ _ (T19.setTop (mkF m 37 #[.val (.int p0), .val (.int p1), .unset, .unset, .unset, .unset] [(.ref a6)]))
  have Z20 : n0 ≤ h19.size := W19.size.symm ▸ Z18
  refine Ends.step (u' := (T19.setTop (mkF m 38 #[.val (.int p0), .val (.int p1), .unset, .unset, .unset, .unset] [(.ref a6), (.ref a6)]))) ?_ (fun _ k => XS.dup X19.here hx rfl (hb hby at_37) rfl rfl k)
  refine Ends.step (u' := (T19.setTop (mkF m 40 #[.val (.int p0), .val (.int p1), .unset, .unset, .unset, .unset] [(.int (6 : Int32)), (.ref a6), (.ref a6)]))) ?_ (fun _ k => XT.bipushV X19.here hx rfl (6 : Int32) (hb hby at_38) rfl k)
  refine Ends.step (u' := (T19.setTop (mkF m 43 #[.val (.int p0), .val (.int p1), .unset, .unset, .unset, .unset] [(.int (8255 : Int32)), (.int (6 : Int32)), (.ref a6), (.ref a6)]))) ?_ (fun _ k => XT.sipushV X19.here hx rfl (8255 : Int32) (hb hby at_40) rfl k)
  refine Ends.iastore X19 hx hZ e19 A19 (by unfold inb; decide) N19 g7 (g := (mkF m 43 #[.val (.int p0), .val (.int p1), .unset, .unset, .unset, .unset] [(.int (8255 : Int32)), (.int (6 : Int32)), (.ref a6), (.ref a6)])) rfl rfl (hb hby at_43) (fun T21 h21 sl21 X21 e21 N21 W21 A21 => ?_)
  show Ends p e below s _ _ _ (T21.setTop (mkF m 44 #[.val (.int p0), .val (.int p1), .unset, .unset, .unset, .unset] [(.ref a6)]))
  have Z22 : n0 ≤ h21.size := W21.size.symm ▸ Z20
  refine Ends.step (u' := (T21.setTop (mkF m 45 #[.val (.int p0), .val (.int p1), .unset, .unset, .unset, .unset] [(.ref a6), (.ref a6)]))) ?_ (fun _ k => XS.dup X21.here hx rfl (hb hby at_44) rfl rfl k)
  refine Ends.step (u' := (T21.setTop (mkF m 47 #[.val (.int p0), .val (.int p1), .unset, .unset, .unset, .unset] [(.int (7 : Int32)), (.ref a6), (.ref a6)]))) ?_ (fun _ k => XT.bipushV X21.here hx rfl (7 : Int32) (hb hby at_45) rfl k)
  refine Ends.step (u' := (T21.setTop (mkF m 50 #[.val (.int p0), .val (.int p1), .unset, .unset, .unset, .unset] [(.int (8256 : Int32)), (.int (7 : Int32)), (.ref a6), (.ref a6)]))) ?_ (fun _ k => XT.sipushV X21.here hx rfl (8256 : Int32) (hb hby at_47) rfl k)
  refine Ends.iastore X21 hx hZ e21 A21 (by unfold inb; decide) N21 g7 (g := (mkF m 50 #[.val (.int p0), .val (.int p1), .unset, .unset, .unset, .unset] [(.int (8256 : Int32)), (.int (7 : Int32)), (.ref a6), (.ref a6)])) rfl rfl (hb hby at_50) (fun T23 h23 sl23 X23 e23 N23 W23 A23 => ?_)
  show Ends p e below s _ _ _ (T23.setTop (mkF m 51 #[.val (.int p0), .val (.int p1), .unset, .unset, .unset, .unset] [(.ref a6)]))
  have Z24 : n0 ≤ h23.size := W23.size.symm ▸ Z22
  refine Ends.step (u' := (T23.setTop (mkF m 52 #[.val (.int p0), .val (.int p1), .val (.ref a6), .unset, .unset, .unset] []))) ?_ (fun _ k => XS.astoreN X23.here hx rfl (hb hby at_51) rfl rfl (l' := #[.val (.int p0), .val (.int p1), .val (.ref a6), .unset, .unset, .unset]) rfl k)
  exact b52 T23 _ _ X23 e23 N23 Z24 (upd (upd (upd (upd (upd (upd (upd (upd (fun _ => 0) 0 (45 : Int32)) 1 (48 : Int32)) 2 (57 : Int32)) 3 (183 : Int32)) 4 (768 : Int32)) 5 (879 : Int32)) 6 (8255 : Int32)) 7 (8256 : Int32)) p0 p1 a6 g7 A23 ok
theorem own_1 : nar .boolean 1 = 1 := rfl
theorem own_0 : nar .boolean 0 = 0 := rfl
theorem own_ne : ((1 : Int32) = 0) = False := by decide
theorem own_rng (x lo hi : Int32) (A B : Int32) : (if x < lo then A else if hi < x then A else B) = if (lo.toInt ≤ x.toInt ∧ x.toInt ≤ hi.toInt) then B else A := by
  simp only [Int32.lt_iff_toInt_lt]
  split
  · rw [if_neg (by omega)]
  · split
    · rw [if_neg (by omega)]
    · rw [if_pos (by omega)]
theorem own_eq (x c : Int32) (A B : Int32) : (if x = c then A else B) = if x.toInt = c.toInt then A else B := by
  simp only [Int32.toInt_inj]
theorem own_or (p q : Prop) [Decidable p] [Decidable q] : (if p then (1 : Int32) else if q then 1 else 0) = if p ∨ q then 1 else 0 := by
  by_cases hp : p <;> by_cases hq : q <;> simp [hp, hq]
theorem own_and (p q : Prop) [Decidable p] [Decidable q] : (if p then (0 : Int32) else if q then 1 else 0) = if ¬ p ∧ q then 1 else 0 := by
  by_cases hp : p <;> by_cases hq : q <;> simp [hp, hq]
theorem own_no (p : Prop) [Decidable p] : (if p then (0 : Int32) else 1) = if ¬ p then 1 else 0 := by
  by_cases hp : p <;> simp [hp]
theorem own_imp (p q : Prop) [Decidable p] [Decidable q] : (if p then (if q then (1 : Int32) else 0) else 0) = if p ∧ q then 1 else 0 := by
  by_cases hp : p <;> by_cases hq : q <;> simp [hp, hq]
theorem own_toInt (x : Int32) (h : x.toBitVec.toNat < 2 ^ 31) : x.toInt = x.toBitVec.toNat := by
  show x.toBitVec.toInt = _
  rw [BitVec.toInt_eq_toNat_cond, if_pos (by omega)]
theorem own_nonneg (x : Int32) (h : 0 ≤ x.toInt) : x.toBitVec.toNat < 2 ^ 31 := by
  have h' : 0 ≤ x.toBitVec.toInt := h
  rw [BitVec.toInt_eq_toNat_cond] at h'
  split at h' <;> omega
theorem own_band (x c : Int32) (hc : 0 ≤ c.toInt) : 0 ≤ (x &&& c).toInt ∧ (x &&& c).toInt ≤ c.toInt := by
  have hb := own_nonneg c hc
  have e : (x &&& c).toBitVec.toNat = x.toBitVec.toNat &&& c.toBitVec.toNat := by rw [Int32.toBitVec_and, BitVec.toNat_and]
  have l : x.toBitVec.toNat &&& c.toBitVec.toNat ≤ c.toBitVec.toNat := Nat.and_le_right
  rw [own_toInt (x &&& c) (by omega), own_toInt c hb, e]
  omega
theorem own_inb (j : Int32) (n : Nat) (h0 : 0 ≤ j.toInt) (h1 : j.toInt < n) : inb j n := by
  intro h
  rcases h with h | h
  · rw [Int32.lt_iff_toInt_lt] at h
    have : (0 : Int32).toInt = 0 := rfl
    omega
  · simp only [Int32.toNatClampNeg] at h
    omega
theorem own_ushrL (x : Int64) (k : Nat) (hk : k < 64) : (XT.ushrL x (Int32.ofNat k)).toBitVec = x.toBitVec >>> k := by
  have h : ((Int32.ofNat k).toInt64.toUInt64 &&& Int64.toUInt64 63).toBitVec % 64 = BitVec.ofNat 64 k := by
    have : ∀ k : Fin 64, ((Int32.ofNat k.val).toInt64.toUInt64 &&& Int64.toUInt64 63).toBitVec % 64 = BitVec.ofNat 64 k.val := by decide +kernel
    exact this ⟨k, hk⟩
  show (x.toUInt64 >>> _).toBitVec = _
  rw [UInt64.toBitVec_shiftRight, h]
  show x.toBitVec >>> (BitVec.ofNat 64 k) = _
  rw [BitVec.ushiftRight_eq']
  congr 1
  simp
  omega
theorem own_ushr (x : Int32) (k : Nat) (hk : k < 32) : (XT.ushr x (Int32.ofNat k)).toBitVec = x.toBitVec >>> k := by
  have h : ((Int32.ofNat k) &&& 31).toUInt32.toBitVec % 32 = BitVec.ofNat 32 k := by
    have : ∀ k : Fin 32, ((Int32.ofNat k.val) &&& 31).toUInt32.toBitVec % 32 = BitVec.ofNat 32 k.val := by decide +kernel
    exact this ⟨k, hk⟩
  show (x.toUInt32 >>> _).toBitVec = _
  rw [UInt32.toBitVec_shiftRight, h]
  show x.toBitVec >>> (BitVec.ofNat 32 k) = _
  rw [BitVec.ushiftRight_eq']
  congr 1
  simp
  omega
theorem own_C2 (x : Int32) : F2 x = if (x.toInt = 45 ∨ ((48 ≤ x.toInt ∧ x.toInt ≤ 57) ∨ (x.toInt = 183 ∨ ((768 ≤ x.toInt ∧ x.toInt ≤ 879) ∨ (8255 ≤ x.toInt ∧ x.toInt ≤ 8256))))) then 1 else 0 := by
  have e_F2 : F2 x = if x.toInt = 45 then 1 else F2_6 x := own_eq x 45 1 _
  have e_F2_6 : F2_6 x = if (48 ≤ x.toInt ∧ x.toInt ≤ 57) then 1 else F2_18 x := own_rng x 48 57 _ _
  have e_F2_18 : F2_18 x = if x.toInt = 183 then 1 else F2_25 x := own_eq x 183 1 _
  have e_F2_25 : F2_25 x = if (768 ≤ x.toInt ∧ x.toInt ≤ 879) then 1 else F2_39 x := own_rng x 768 879 _ _
  have e_F2_39 : F2_39 x = if (8255 ≤ x.toInt ∧ x.toInt ≤ 8256) then 1 else 0 := own_rng x 8255 8256 _ _
  rw [e_F2, e_F2_6, e_F2_18, e_F2_25, e_F2_39]
  simp only [own_or, own_and, own_no, own_imp]
theorem own_C3 (x : Int32) : F3 x = if ((97 ≤ x.toInt ∧ x.toInt ≤ 122) ∨ ((65 ≤ x.toInt ∧ x.toInt ≤ 90) ∨ ((192 ≤ x.toInt ∧ x.toInt ≤ 214) ∨ ((216 ≤ x.toInt ∧ x.toInt ≤ 246) ∨ ((248 ≤ x.toInt ∧ x.toInt ≤ 767) ∨ ((880 ≤ x.toInt ∧ x.toInt ≤ 893) ∨ ((895 ≤ x.toInt ∧ x.toInt ≤ 8191) ∨ ((8204 ≤ x.toInt ∧ x.toInt ≤ 8205) ∨ ((8304 ≤ x.toInt ∧ x.toInt ≤ 8591) ∨ ((11264 ≤ x.toInt ∧ x.toInt ≤ 12271) ∨ ((12289 ≤ x.toInt ∧ x.toInt ≤ 55295) ∨ ((63744 ≤ x.toInt ∧ x.toInt ≤ 64975) ∨ ((65008 ≤ x.toInt ∧ x.toInt ≤ 65533) ∨ (65536 ≤ x.toInt ∧ x.toInt ≤ 983039)))))))))))))) then 1 else 0 := by
  have e_F3 : F3 x = if (97 ≤ x.toInt ∧ x.toInt ≤ 122) then 1 else F3_12 x := own_rng x 97 122 _ _
  have e_F3_12 : F3_12 x = if (65 ≤ x.toInt ∧ x.toInt ≤ 90) then 1 else F3_24 x := own_rng x 65 90 _ _
  have e_F3_24 : F3_24 x = if (192 ≤ x.toInt ∧ x.toInt ≤ 214) then 1 else F3_38 x := own_rng x 192 214 _ _
  have e_F3_38 : F3_38 x = if (216 ≤ x.toInt ∧ x.toInt ≤ 246) then 1 else F3_52 x := own_rng x 216 246 _ _
  have e_F3_52 : F3_52 x = if (248 ≤ x.toInt ∧ x.toInt ≤ 767) then 1 else F3_66 x := own_rng x 248 767 _ _
  have e_F3_66 : F3_66 x = if (880 ≤ x.toInt ∧ x.toInt ≤ 893) then 1 else F3_80 x := own_rng x 880 893 _ _
  have e_F3_80 : F3_80 x = if (895 ≤ x.toInt ∧ x.toInt ≤ 8191) then 1 else F3_94 x := own_rng x 895 8191 _ _
  have e_F3_94 : F3_94 x = if (8204 ≤ x.toInt ∧ x.toInt ≤ 8205) then 1 else F3_108 x := own_rng x 8204 8205 _ _
  have e_F3_108 : F3_108 x = if (8304 ≤ x.toInt ∧ x.toInt ≤ 8591) then 1 else F3_122 x := own_rng x 8304 8591 _ _
  have e_F3_122 : F3_122 x = if (11264 ≤ x.toInt ∧ x.toInt ≤ 12271) then 1 else F3_136 x := own_rng x 11264 12271 _ _
  have e_F3_136 : F3_136 x = if (12289 ≤ x.toInt ∧ x.toInt ≤ 55295) then 1 else F3_149 x := own_rng x 12289 55295 _ _
  have e_F3_149 : F3_149 x = if (63744 ≤ x.toInt ∧ x.toInt ≤ 64975) then 1 else F3_161 x := own_rng x 63744 64975 _ _
  have e_F3_161 : F3_161 x = if (65008 ≤ x.toInt ∧ x.toInt ≤ 65533) then 1 else F3_173 x := own_rng x 65008 65533 _ _
  have e_F3_173 : F3_173 x = if (65536 ≤ x.toInt ∧ x.toInt ≤ 983039) then 1 else 0 := own_rng x 65536 983039 _ _
  rw [e_F3, e_F3_12, e_F3_24, e_F3_38, e_F3_52, e_F3_66, e_F3_80, e_F3_94, e_F3_108, e_F3_122, e_F3_136, e_F3_149, e_F3_161, e_F3_173]
  simp only [own_or, own_and, own_no, own_imp]
theorem own_F1 (x : Int32) (lo len : Int64) (h1 : 0 ≤ lo.toInt ∧ lo.toInt < 100000) (h2 : 0 ≤ len.toInt ∧ len.toInt < 100000) : F1 x lo len = if (lo.toInt ≤ x.toInt ∧ x.toInt < lo.toInt + len.toInt) then 1 else 0 := by
  have hx1 := Int32.le_toInt x
  have hx2 := Int32.toInt_lt x
  have e : (x.toInt64 - lo).toInt = x.toInt - lo.toInt := by
    rw [Int64.toInt_sub, Int32.toInt_toInt64]
    apply Int.bmod_eq_of_le <;> omega
  have z : (0 : Int64).toInt = 0 := rfl
  simp only [F1, F1_6, F1_13, F1_20, F1_24, F1_25, own_0, own_1, Int64.lt_iff_toInt_lt, e, z]
  repeat' split
  all_goals first | rfl | (exfalso; omega)
theorem own_if0 (q : Prop) [Decidable q] (A B : Int32) : (if (if q then (1 : Int32) else 0) = 0 then A else B) = if q then B else A := by
  by_cases h : q
  · rw [if_pos h, if_pos h, if_neg (by decide)]
  · rw [if_neg h, if_neg h, if_pos rfl]
theorem own_78 (x : Int32) : F0_78 x = 1 := by
  have a : F1 x 8255 2 = if (8255 ≤ x.toInt ∧ x.toInt < 8255 + 2) then 1 else 0 := own_F1 x 8255 2 (by decide) (by decide)
  have b : F1 x 768 112 = if (768 ≤ x.toInt ∧ x.toInt < 768 + 112) then 1 else 0 := own_F1 x 768 112 (by decide) (by decide)
  have c : F1 x 48 10 = if (48 ≤ x.toInt ∧ x.toInt < 48 + 10) then 1 else 0 := own_F1 x 48 10 (by decide) (by decide)
  have hA : ∀ t : Int32, F0_135 x t = if F2 x = t then (if F2 x = 0 then 1 else F0_157 x) else 0 := fun t => rfl
  have hB : F0_157 x = if F3 x = 0 then (if x.toInt = 95 then 0 else if x.toInt = 58 then 0 else if x.toInt = 46 then 0 else 1) else 0 := by
    have e1 : F0_166 x = if x.toInt = 95 then 0 else F0_172 x := own_eq x 95 0 _
    have e2 : F0_172 x = if x.toInt = 58 then 0 else F0_178 x := own_eq x 58 0 _
    have e3 : F0_178 x = if x.toInt = 46 then 0 else 1 := own_eq x 46 0 1
    rw [← e3, ← e2, ← e1]; rfl
  have e1 : F0_78 x = if x.toInt = 45 then F0_130 x else F0_84 x := own_eq x 45 _ _
  have e2 : F0_97 x = if x.toInt = 183 then F0_130 x else F0_104 x := own_eq x 183 _ _
  have e3 : F0_130 x = F0_135 x 1 := rfl
  have e4 : F0_134 x = F0_135 x 0 := rfl
  have two := own_C2 x
  have three := own_C3 x
  by_cases q : x.toInt = 45 ∨ (48 ≤ x.toInt ∧ x.toInt ≤ 57) ∨ x.toInt = 183 ∨ (768 ≤ x.toInt ∧ x.toInt ≤ 879) ∨ (8255 ≤ x.toInt ∧ x.toInt ≤ 8256)
  · rw [if_pos (by omega)] at two
    rw [if_neg (by omega)] at three
    have v : F0_130 x = 1 := by
      rw [e3, hA, two, if_pos rfl, if_neg (by decide), hB, three, if_pos rfl, if_neg (by omega), if_neg (by omega), if_neg (by omega)]
    rw [e1]
    simp only [F0_84, e2, F0_104, F0_117, a, b, c, own_if0, v]
    by_cases c1 : x.toInt = 45
    · rw [if_pos c1]
    · rw [if_neg c1]
      by_cases c2 : 48 ≤ x.toInt ∧ x.toInt < 48 + 10
      · rw [if_pos c2]
      · rw [if_neg c2]
        by_cases c3 : x.toInt = 183
        · rw [if_pos c3]
        · rw [if_neg c3]
          by_cases c4 : 768 ≤ x.toInt ∧ x.toInt < 768 + 112
          · rw [if_pos c4]
          · rw [if_neg c4, if_pos (by omega)]
  · rw [if_neg (by omega)] at two
    have v : F0_134 x = 1 := by
      rw [e4, hA, two, if_pos rfl, if_pos rfl]
    rw [e1]
    simp only [F0_84, e2, F0_104, F0_117, a, b, c, own_if0, v]
    rw [if_neg (by omega), if_neg (by omega), if_neg (by omega), if_neg (by omega), if_neg (by omega)]
theorem own_ix (x : Int32) : inb ((XT.ushr x (2 : Int32)) % (8 : Int32)) 8 := by
  have e : (XT.ushr x 2).toBitVec = x.toBitVec >>> 2 := own_ushr x 2 (by decide)
  have n : (XT.ushr x 2).toBitVec.toNat < 2 ^ 31 := by
    rw [e, BitVec.toNat_ushiftRight, Nat.shiftRight_eq_div_pow]
    have := x.toBitVec.isLt
    omega
  have t := own_toInt _ n
  have m : ((XT.ushr x (2 : Int32)) % (8 : Int32)).toInt = (XT.ushr x 2).toInt % 8 := by
    rw [Int32.toInt_mod]
    exact Int.tmod_eq_emod_of_nonneg (by omega)
  apply own_inb <;> omega
theorem own_law (i0 : Int32) (i1 : Int32) : O0 i0 i1 ∧ F0 i0 i1 = 1 := by
  refine ⟨⟨fun _ => trivial, fun _ => ⟨own_ix i1, trivial⟩⟩, ?_⟩
  simp only [F0, F0_52, F0_58, F0_63, own_78, ite_self]
set_option maxRecDepth 65536 in
set_option maxHeartbeats 40000000 in
theorem comes_1 {Post : Tables → Env → Array Value → State → Outcome → State → Prop} (hpost : ∀ tb e args s v u, (limb_1_1.after args s (.returned v) u = true ∧ limb_1_2.after args s (.returned v) u = true ∧ True) → FrameEnd s (.returned v) u (Jvm.fieldLocs frame_1_writes args s ++ Jvm.arrayLocs frame_1_arrays args s ++ Jvm.staticLocs frame_1_statics s) 16 128 → Post tb e args s (.returned v) u) :
    ArmFor flags0 classFile x code maxLocals ret World_1 tables_1 room_1 Calls_1 rest_1 Pre_1 Post := by
  intro l hfl _ _ p e ha hc hk s m args below hf hA hF happ hP
  obtain ⟨hcalls, hrest, hpre⟩ := hP
  obtain ⟨-, -, -, hnamed, -, -, -, hat⟩ := (Spec.applies_iff hf).mp happ
  obtain ⟨hg, hn⟩ := and_e (Cond.before_iff.mp (show (Jvm.Cond.and given_1 narrow_1).before args s = true from hpre))
  obtain ⟨h1, r0⟩ := and_e hg
  obtain ⟨k0, r1⟩ := and_e r0
  obtain ⟨w0, w1, rfl⟩ : ∃ w0 w1 : Value, args = #[w0, w1] := by
    have hs : args.size = 2 := by simpa [Cond.value, given_1] using h1
    obtain ⟨L⟩ := args
    match L, hs with
    | [w0, w1], _ => exact ⟨w0, w1, rfl⟩
  have hw := fun d (hd : d ∈ tables_1) => atoms_spec (ws := Jvm.Cond.code x code maxLocals ret :: tables_1) hat d (List.mem_cons_of_mem _ hd)
  obtain ⟨i0, e0⟩ := is_v k0
  obtain rfl : w0 = (.int i0) := Option.some.inj e0
  obtain ⟨i1, e1⟩ := is_v r1
  obtain rfl : w1 = (.int i1) := Option.some.inj e1
  obtain ⟨ok, val⟩ := own_law i0 i1
  obtain ⟨n, o, h1, h2, h3, _, L, rfl, ⟨rfl, N⟩, hq⟩ := rm0 l s _ hw i0 i1 s.heap s.heap.size (Nat.le_refl _) ok p e ha hc hk s m _ below hf ((Spec.applies_iff_loose hf).mp happ).1 ⟨rfl, State.Warmed39.refl s, rfl⟩ trivial
  refine ⟨n, _, h1, h2, h3, hpost _ _ _ _ _ _ ⟨Cond.after_iff.mpr rfl, Cond.after_iff.mpr (eq_i res_at (Term.int_eval (1)) (by rw [val])), trivial⟩ ⟨hq.1, hq.2.1, (hq.2.2.sift fun y hy => Or.inr (N y hy)).mono (by decide) (by decide)⟩⟩
theorem main_1_1 : Claimed_1_1 := comes_1 fun _ _ _ _ _ _ h hF => ⟨h.1, hF⟩
theorem main_1_2 : Claimed_1_2 := comes_1 fun _ _ _ _ _ _ h hF => ⟨h.2.1, hF⟩
end Jvm.Pilot.@@N@@
namespace Jvm.Pilot.@@N@@
open Jvm Jvm.ClassFile Sem Op Lib Jvm.Free Jvm.Stand Jvm.Pilot.@@N@@.Jvm.D
/-! MADE BY PROGRAM (witnessworld.py) out of the Statement's table words and the real class files: 9 classes; the members and pool entries that the words name. The judged class is class 1, her method 2. -/
namespace start1
open Jvm.ClassFile
def u (s : String) : CpInfo := .utf8 (stringToUtf16 s)
/-- a pool by its gaps: so many unusable entries, then the entry; so many at the end -/
def gap : Nat → List CpInfo → List CpInfo
  | 0, r => r
  | n + 1, r => .unusable :: gap n r
def poolList (es : List (Nat × CpInfo)) (last : Nat) : List CpInfo := es.foldr (fun e r => gap e.1 (e.2 :: r)) (gap last [])
def pool (es : List (Nat × CpInfo)) (last : Nat) : Array CpInfo := ⟨poolList es last⟩
def fileOf (pool : Array CpInfo) (this : Nat) (attrs : Array Attribute := #[]) (ms : Array MethodInfo := #[]) (fl : Nat := 33) (sup : Nat := 0) (ifs : Array Nat := #[]) (fds : Array FieldInfo := #[]) : ClassFile where
  minorVersion := 0
  majorVersion := 65
  constantPool := pool
  accessFlags := fl
  thisClass := this
  superClass := sup
  interfaces := ifs
  fields := fds
  methods := ms
  attributes := attrs
def plain (name : String) (sup : Option ClassId) : Class where
  name := name
  kind := .ordinary
  loader := none
  accessFlags := 33
  super := sup
  interfaces := #[]
  cf := none
  fields := #[]
  methods := #[]
  instanceTypes := #[]
  staticTypes := #[]
  resolved := #[]
  callSites := []
  init := .initialized
  statics := none
  mirror := none

def pool0 : Array CpInfo := pool [(5, u "<init>"), (0, u "()V"), (1, .class_ 10), (1, u "java/lang/Object")] 113

def k0m0 : Method := { name := "<init>", desc := "()V", sig := { parameters := [], returnType := none }, accessFlags := 1, code := none }
/-- java/lang/Object -/
def k0 : Class := { plain "java/lang/Object" none with
  accessFlags := 33
  interfaces := #[]
  cf := some (fileOf pool0 8 #[] #[{ accessFlags := 1, nameIndex := 5, descriptorIndex := 6, attributes := #[] }] 33 0 #[] #[])
  fields := #[]
  methods := #[k0m0]
  instanceTypes := #[]
  staticTypes := #[]
  resolved := Array.replicate 124 none
  statics := none }

def pool1 : Array CpInfo := pool [(2, .class_ 4), (1, u "java/lang/Object"), (0, u "<init>"), (0, u "()V"), (0, .long 48), (1, .long 10), (1, .methodref 12 13), (0, .class_ 14), (0, .nameAndType 15 16), (0, u "com/example/taxigraph/taxigraph/NameCharactersIsFollowingPinLaw"), (0, u "inRange"), (0, u "(IJJ)Z"), (0, .long 768), (1, .long 112), (1, .long 8255), (1, .long 2), (1, .methodref 26 27), (0, .class_ 28), (0, .nameAndType 29 30), (0, u "com/example/taxigraph/taxigraph/NameCharacters"), (0, u "isFollowing"), (0, u "(I)Z"), (0, .methodref 26 32), (0, .nameAndType 33 30), (0, u "isBase"), (3, u "law"), (0, u "(II)Z")] 4

def k1m0 : Method := { name := "<init>", desc := "()V", sig := { parameters := [], returnType := none }, accessFlags := 2, code := none }
def k1c1 : Code := { maxStack := 4, maxLocals := 7, code := method_2_code, exceptionTable := #[], attributes := #[] }
def k1m1 : Method := { name := "inRange", desc := "(IJJ)Z", sig := { parameters := [.int, .long, .long], returnType := some .boolean }, accessFlags := 10, code := some k1c1 }
def k1c2 : Code := { maxStack := 5, maxLocals := 6, code := code, exceptionTable := #[], attributes := #[] }
def k1m2 : Method := { name := "law", desc := "(II)Z", sig := { parameters := [.int, .int], returnType := some .boolean }, accessFlags := 9, code := some k1c2 }
/-- com/example/taxigraph/taxigraph/NameCharactersIsFollowingPinLaw -/
def k1 : Class := { plain "com/example/taxigraph/taxigraph/NameCharactersIsFollowingPinLaw" (some 0) with
  accessFlags := 49
  interfaces := #[]
  cf := some (fileOf pool1 12 #[] #[{ accessFlags := 2, nameIndex := 5, descriptorIndex := 6, attributes := #[] }, { accessFlags := 10, nameIndex := 15, descriptorIndex := 16, attributes := #[] }, { accessFlags := 9, nameIndex := 37, descriptorIndex := 38, attributes := #[] }] 49 2 #[] #[])
  fields := #[]
  methods := #[k1m0, k1m1, k1m2]
  instanceTypes := #[]
  staticTypes := #[]
  resolved := Array.replicate 43 none
  statics := none }

def pool2 : Array CpInfo := pool [(2, .class_ 4), (1, u "java/lang/Object"), (0, u "<init>"), (0, u "()V"), (0, .integer 55295), (0, .integer 63744), (0, .integer 64975), (0, .integer 65008), (0, .integer 65533), (0, .integer 65536), (0, .integer 983039), (11, .class_ 27), (1, u "com/example/taxigraph/taxigraph/NameCharacters"), (0, u "isBase"), (0, u "(I)Z"), (11, u "isFollowing")] 7

def k2m0 : Method := { name := "<init>", desc := "()V", sig := { parameters := [], returnType := none }, accessFlags := 2, code := none }
def k2c1 : Code := { maxStack := 2, maxLocals := 1, code := prog_70_method_2_code, exceptionTable := #[], attributes := #[] }
def k2m1 : Method := { name := "isBase", desc := "(I)Z", sig := { parameters := [.int], returnType := some .boolean }, accessFlags := 8, code := some k2c1 }
def k2c2 : Code := { maxStack := 2, maxLocals := 1, code := prog_70_method_3_code, exceptionTable := #[], attributes := #[] }
def k2m2 : Method := { name := "isFollowing", desc := "(I)Z", sig := { parameters := [.int], returnType := some .boolean }, accessFlags := 8, code := some k2c2 }
/-- com/example/taxigraph/taxigraph/NameCharacters -/
def k2 : Class := { plain "com/example/taxigraph/taxigraph/NameCharacters" (some 0) with
  accessFlags := 48
  interfaces := #[]
  cf := some (fileOf pool2 25 #[] #[{ accessFlags := 2, nameIndex := 5, descriptorIndex := 6, attributes := #[] }, { accessFlags := 8, nameIndex := 28, descriptorIndex := 29, attributes := #[] }, { accessFlags := 8, nameIndex := 41, descriptorIndex := 29, attributes := #[] }] 48 2 #[] #[])
  fields := #[]
  methods := #[k2m0, k2m1, k2m2]
  instanceTypes := #[]
  staticTypes := #[]
  resolved := Array.replicate 49 none
  statics := none }

def pool3 : Array CpInfo := pool [(1, u "java/lang/Cloneable"), (0, .class_ 1), (0, u "java/lang/Object"), (0, .class_ 3)] 3

/-- java/lang/Cloneable -/
def k3 : Class := { plain "java/lang/Cloneable" (some 0) with
  accessFlags := 1537
  interfaces := #[]
  cf := some (fileOf pool3 2 #[] #[] 1537 4 #[] #[])
  fields := #[]
  methods := #[]
  instanceTypes := #[]
  staticTypes := #[]
  resolved := Array.replicate 8 none
  statics := none }

def pool4 : Array CpInfo := pool [(1, u "java/io/Serializable"), (0, .class_ 1), (0, u "java/lang/Object"), (0, .class_ 3)] 3

/-- java/io/Serializable -/
def k4 : Class := { plain "java/io/Serializable" (some 0) with
  accessFlags := 1537
  interfaces := #[]
  cf := some (fileOf pool4 2 #[] #[] 1537 4 #[] #[])
  fields := #[]
  methods := #[]
  instanceTypes := #[]
  staticTypes := #[]
  resolved := Array.replicate 8 none
  statics := none }

/-- the primitive byte -/
def k5 : Class := { plain "byte" none with kind := .primitive 'B', accessFlags := 0x411 }
/-- [B -/
def k6 : Class := { plain "[B" (some 0) with kind := .array 5 .byte, interfaces := #[3, 4], accessFlags := 1041 }

/-- the primitive int -/
def k7 : Class := { plain "int" none with kind := .primitive 'I', accessFlags := 0x411 }
/-- [I -/
def k8 : Class := { plain "[I" (some 0) with kind := .array 7 .int, interfaces := #[3, 4], accessFlags := 1041 }

def heap : Heap := #[]
def classes : Array Class := #[k0, k1, k2, k3, k4, k5, k6, k7, k8]
def interned : List (Array UInt16 × Addr) := []
def slotsUsed : Nat := 0
def theMethod : MethodId := ⟨1, 2⟩
def args0 : Array Value := #[.int 5, .int 7]
def aboutOver (below : List Frame) : State where
  vm := { classes := classes, interned := interned.toArray }
  heap := heap
  slotsUsed := slotsUsed
  threads := #[{ frames := .invoking theMethod args0 :: below }]
def below0 : List Frame := [.native { method := ⟨0, 0⟩, args := #[] }]
def about1 : State := aboutOver below0
def p0 : Program := .bare "" "" ""
def e0 : Env := launch0.env 0 0 0
theorem w_frames : about1.frames = Frame.invoking theMethod args0 :: below0 := rfl
set_option maxRecDepth 65536 in
theorem w_args : argsFit about1.vm theMethod args0 = true := by decide +kernel
set_option maxRecDepth 65536 in
theorem w_heap : heapFits about1 = true := by decide +kernel
set_option maxRecDepth 65536 in
theorem w_runnable : about1.curStatus? = some .runnable := by decide +kernel
set_option maxRecDepth 65536 in
theorem w_alone : about1.alone = true := by decide +kernel
set_option maxRecDepth 65536 in
theorem w_named : about1.methodNamed? x = some theMethod := by decide +kernel
set_option maxRecDepth 65536 in
theorem w_hears : about1.hears theMethod below0 = true := by decide +kernel
set_option maxRecDepth 65536 in
theorem w_ripe : about1.ripe theMethod args0 below0 = true := by decide +kernel
theorem w_running : about1.status = .running := rfl
set_option maxRecDepth 65536 in
theorem w_room : about1.hasRoom e0.platform room_1 = true :=
  launch0.hasRoom_least _ room_1 (by decide +kernel) (by decide +kernel) (by decide +kernel) (by decide +kernel) (by decide +kernel) (by decide +kernel)
theorem allAtoms_all (ts : List Jvm.Cond) (a : Array Jvm.Value) (st : Jvm.State) : (allAtoms ts).before a st = ts.all (fun c => c.before a st) := by
  induction ts with
  | nil => rfl
  | cons c t ih =>
    show (Jvm.Cond.and c (allAtoms t)).before a st = _
    rw [Jvm.Cond.before_and, ih, List.all_cons]
def words1 : List Jvm.Cond := Jvm.Cond.code x code maxLocals ret :: tables_1
/-- a 'code' word, met by the world's own term for the bytes: nothing is compared byte by byte -/
theorem code_word {y : MethodName} {bytes : ByteArray} {mx : Nat} {rt : Option FieldType} {a : Array Value} {s : State} {m : MethodId} {meth : Method} {c : Code} (h1 : s.methodNamed? y = some m) (h2 : s.vm.method? m = some meth) (h3 : meth.code = some c) (h4 : c.code = bytes)
    (h5 : (c.maxLocals == mx && c.exceptionTable.isEmpty && decide (c.maxStack ≤ mostOperands) && decide (meth.sig.returnType = rt) && !meth.locks && decide (parseMethodDescriptor y.desc = some meth.sig)) = true) : (Jvm.Cond.code y bytes mx rt).before a s = true := by
  simp only [Bool.and_eq_true, beq_iff_eq, Bool.not_eq_true', decide_eq_true_eq] at h5
  obtain ⟨⟨⟨⟨⟨g1, g2⟩, g3⟩, g4⟩, g5⟩, g6⟩ := h5
  simp [Cond.before, Cond.holds, Cond.value, h1, h2, h3, h4, g1, g2, g3, g4, g5, g6]
def isCode : Jvm.Cond → Bool
  | .code _ _ _ _ => true
  | _ => false
theorem all_split {L : List Jvm.Cond} {P : Jvm.Cond → Bool} (h1 : L.all (fun c => isCode c || P c) = true) (h2 : ∀ c ∈ L.filter isCode, P c = true) : L.all P = true := by
  refine List.all_eq_true.mpr fun c hc => ?_
  have h := List.all_eq_true.mp h1 c hc
  rcases Bool.eq_false_or_eq_true (isCode c) with hi | hi
  · exact h2 c (List.mem_filter.mpr ⟨hc, hi⟩)
  · simpa [hi] using h
set_option maxRecDepth 65536 in
theorem w_c0 : (Jvm.Cond.code x code maxLocals ret).before args0 about1 = true := code_word (m := ⟨1, 2⟩) (meth := k1m2) (c := k1c2) (by decide +kernel) rfl rfl rfl (by decide +kernel)
set_option maxRecDepth 65536 in
theorem w_c1 : (Jvm.Cond.code ({ cls := "com/example/taxigraph/taxigraph/NameCharactersIsFollowingPinLaw", name := "inRange", desc := "(IJJ)Z" } : Jvm.MethodName) method_2_code (7 : Nat) (Option.some Jvm.ClassFile.FieldType.boolean)).before args0 about1 = true := code_word (m := ⟨1, 1⟩) (meth := k1m1) (c := k1c1) (by decide +kernel) rfl rfl rfl (by decide +kernel)
set_option maxRecDepth 65536 in
theorem w_c2 : (Jvm.Cond.code ({ cls := "com/example/taxigraph/taxigraph/NameCharacters", name := "isFollowing", desc := "(I)Z" } : Jvm.MethodName) prog_70_method_3_code (1 : Nat) (Option.some Jvm.ClassFile.FieldType.boolean)).before args0 about1 = true := code_word (m := ⟨2, 2⟩) (meth := k2m2) (c := k2c2) (by decide +kernel) rfl rfl rfl (by decide +kernel)
set_option maxRecDepth 65536 in
theorem w_c3 : (Jvm.Cond.code ({ cls := "com/example/taxigraph/taxigraph/NameCharacters", name := "isBase", desc := "(I)Z" } : Jvm.MethodName) prog_70_method_2_code (1 : Nat) (Option.some Jvm.ClassFile.FieldType.boolean)).before args0 about1 = true := code_word (m := ⟨2, 1⟩) (meth := k2m1) (c := k2c1) (by decide +kernel) rfl rfl rfl (by decide +kernel)
def codes1 : List Jvm.Cond := [Jvm.Cond.code x code maxLocals ret, Jvm.Cond.code ({ cls := "com/example/taxigraph/taxigraph/NameCharactersIsFollowingPinLaw", name := "inRange", desc := "(IJJ)Z" } : Jvm.MethodName) method_2_code (7 : Nat) (Option.some Jvm.ClassFile.FieldType.boolean), Jvm.Cond.code ({ cls := "com/example/taxigraph/taxigraph/NameCharacters", name := "isFollowing", desc := "(I)Z" } : Jvm.MethodName) prog_70_method_3_code (1 : Nat) (Option.some Jvm.ClassFile.FieldType.boolean), Jvm.Cond.code ({ cls := "com/example/taxigraph/taxigraph/NameCharacters", name := "isBase", desc := "(I)Z" } : Jvm.MethodName) prog_70_method_2_code (1 : Nat) (Option.some Jvm.ClassFile.FieldType.boolean)]
set_option maxRecDepth 65536 in
theorem codes_eq : words1.filter isCode = codes1 := rfl
theorem w_codes : ∀ c ∈ words1.filter isCode, c.before args0 about1 = true := by
  rw [codes_eq]
  intro c hc
  simp only [codes1, List.mem_cons, List.not_mem_nil, or_false] at hc
  rcases hc with rfl | rfl | rfl | rfl
  · exact w_c0
  · exact w_c1
  · exact w_c2
  · exact w_c3
set_option maxRecDepth 65536 in
theorem w_t1 : (words1.take 24).all (fun c => isCode c || c.before args0 about1) = true := by decide +kernel
set_option maxRecDepth 65536 in
theorem w_t2 : (words1.drop 24).all (fun c => isCode c || c.before args0 about1) = true := by decide +kernel
theorem w_tables : (allAtoms (Jvm.Cond.code x code maxLocals ret :: tables_1)).before args0 about1 = true := by
  rw [allAtoms_all]
  show words1.all (fun c => c.before args0 about1) = true
  refine all_split ?_ w_codes
  rw [← List.take_append_drop 24 words1, List.all_append, w_t1, w_t2]
  rfl
set_option maxRecDepth 65536 in
theorem w_case : (Jvm.Cond.and given_1 narrow_1).before args0 about1 = true := by decide +kernel
theorem w_applies : (headSpec (Jvm.Cond.code x code maxLocals ret :: tables_1) room_1).applies x e0.platform about1 = true :=
  (Spec.applies_iff w_frames).mpr ⟨w_running, w_runnable, w_alone, w_named, w_hears, w_ripe, w_room, w_tables⟩
theorem atStart : AtStart classFile x code maxLocals ret World_1 tables_1 room_1 Calls_1 rest_1 Pre_1 launch0 p0 e0 about1 theMethod args0 below0 :=
  ⟨lists_1, trivial, launch0.admits_env _ _ _, launch0.least_env, fairChoices_fair.cas, fairChoices_fair.clock, w_frames, w_args, w_heap, w_applies, trivial, trivial, w_case⟩
end start1
theorem witness_1 : WitnessClaimed_1 := ⟨start1.p0, start1.e0, start1.about1, start1.theMethod, start1.args0, start1.below0, start1.atStart⟩
end Jvm.Pilot.@@N@@
