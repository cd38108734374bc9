import JvmDerived
import JvmDerived.Pilot.@@N@@Statement
import JvmDerived.Pilot.@@N@@Code
set_option linter.unusedVariables false
set_option linter.unusedSimpArgs false
namespace Jvm.RoadKit
open Sem ClassFile Op Lib Jvm.Stand Jvm.Free Jvm.LawKit
section New
variable {p : Program} {l : Launch} {e : Env} {R : Room} {s : State} {m : MethodId} {args : Array Value} {below : List Frame} {meth : Method} {c : Code} {T : State} {locs : List Loc} {cells slots : Nat}
theorem retI (X : Stand p l e R s m args below meth c T locs cells slots) (hx : p.tables.exec = Jvm.exec) {pc : Nat} {Ls : Array Slot} {z : Int32} {rest : List Value} (hret : meth.sig.returnType = some .int) (hd : decode c.code pc = .ok (.ireturn, 1)) {fs : List Frame}
    (hl : ∀ (f : JFrame) (acts : List Action), f.method = m → f.locked = none → f.entered = [] → (doReturn e (T.setTop f) acts (some (.int z))).1 = T.setFrames fs) : Steps p.tables e below (T.setTop (mkF m pc Ls (.int z :: rest))) (T.setFrames fs) := by
  have hm' : T.vm.method? m = some meth := X.method'
  have hn : narrow .int (.int z) = .int z := rfl
  show Steps p.tables e below (T.setTop { method := m, pc := pc, locals := Ls, stack := _ :: rest, locked := none }) _
  jvm_step X.here [X.here.top, hx, hd, hm', hret, hn]
  first | (intro acts; rw [hl _ acts rfl rfl rfl]) | rw [hl _ _ rfl rfl rfl]
  exact Steps.refl _
end New
end Jvm.RoadKit
namespace Jvm.Pilot.@@N@@
open Jvm Jvm.ClassFile Sem Op Lib Jvm.Free Jvm.Stand Jvm.LawKit Jvm.RoadKit Bundle Jvm.Pilot.@@N@@.Jvm.D
/-! ### the frame of this text: 'Ends': the run from u ends in a return that Q says -/
section OwnFrame
variable {p : Program} {l : Launch} {e : Env} {R : Room} {s : State} {m : MethodId} {args : Array Value} {below : List Frame} {meth : Method} {c : Code} {T : State} {locs : List Loc} {cells slots cs ss : Nat} {Z : State} {a0 : Array Value} {h h' : Heap} {Q : Option Value → Heap → List Loc → Prop} {u u' : State}
def Ends (p : Program) (e : Env) (below : List Frame) (s : State) (cs ss : Nat) (Q : Option Value → Heap → List Loc → Prop) (u : State) : Prop :=
  ∃ t v L, Steps p.tables e below u t ∧ t.status = .running ∧ Ended t below (.returned v) ∧ Q v t.heap L ∧ s.WarmedH t.vm ∧ s.sameButNew ({ t with vm := s.vm } : State) L cs ss
theorem Ends.step (h : Ends p e below s cs ss Q u') (k : ∀ t, Steps p.tables e below u' t → Steps p.tables e below u t) : Ends p e below s cs ss Q u := by
  obtain ⟨t, v, L, h1, r⟩ := h; exact ⟨t, v, L, k t h1, r⟩
theorem Ends.ret (X : Stand p l e R s m args below meth c T locs cells slots) {v : Option Value} (hv : meth.sig.returnType = none → v = none) (hlk : meth.locks = false)
    (k : ∀ fs, (∀ (f : JFrame) (acts : List Action), f.method = m → f.locked = none → f.entered = [] → (doReturn e (T.setTop f) acts v).1 = T.setFrames fs) → Steps p.tables e below u (T.setFrames fs))
    (hc : cells ≤ cs) (hs : slots ≤ ss) (hq : Q v T.heap locs) : Ends p e below s cs ss Q u := by
  obtain ⟨fs, hr, hrun, hended, hW, hsame⟩ := X.leave (v := v) hv hlk
  exact ⟨T.setFrames fs, v, locs, k fs hr, hrun, hended, hq, hW, hsame.mono hc hs⟩
/-- what a body promises -/
abbrev Meets (l : Launch) (Z : State) (y : MethodName) (bytes : ByteArray) (maxL : Nat) (ret : Option FieldType) (ws : List Jvm.Cond) (rm : Room) (as' : Array Value) (h : Heap) (Q : Option Value → Heap → List Loc → Prop) (cs ss : Nat) : Prop :=
  MetFree l y (head1 (Jvm.Cond.code y bytes maxL ret :: ws) rm) (fun a U => a = as' ∧ Z.Warmed39 U.vm ∧ U.heap = h) (fun _ _ _ _ _ => True) (fun _ U o U' => ∃ v L, o = .returned v ∧ Q v U'.heap L ∧ FrameEnd U o U' L cs ss)
theorem Meets.of {y : MethodName} {bytes : ByteArray} {maxL : Nat} {ret : Option FieldType} {ws : List Jvm.Cond} {rm : Room} {as' : Array Value} (pn : plainName y.cls = true)
    (k : ∀ (p : Program) (e : Env) (s : State) (m : MethodId) (below : List Frame) (meth : Method) (c : Code) (s₁ : State), p.tables.exec = Jvm.exec → c.code = bytes → c.maxLocals = maxL → Z.Warmed39 s.vm → s.vm.findClass y.cls = some m.cls → meth.name = y.name → meth.sig.returnType = ret → meth.locks = false →
      Stand p l e rm s m as' below meth c s₁ [] 0 0 → s₁.heap = h → Ends p e below s cs ss Q (s₁.setTop (entryFrame m as' maxL))) : Meets l Z y bytes maxL ret ws rm as' h Q cs ss := by
  refine MetFree.of_bodySF (plainFor_of_name pn) hisR ?_
  intro p e s m args below meth c s₁ Bd hml0 hP hK
  obtain ⟨rfl, hZ, hh⟩ := hP
  obtain ⟨t, v, L, h1, h2, h3, h4, h5, h6⟩ := k p e s m below meth c s₁ Bd.exec Bd.bytes hml0 hZ (findClass_of_methodNamed Bd.named) (name_of_methodNamed Bd.named Bd.method).1 Bd.returns (BodyLoose.notSynchronized Bd) (Stand.of_body Bd) (by rw [← hh, Bd.state]; rfl)
  exact ⟨t, .returned v, h1, h2, h3, v, L, rfl, h4, ⟨_, rfl⟩, h5, h6⟩
theorem Ends.callS (X : Stand p l e R s m args below meth c T locs cells slots) (hx : p.tables.exec = Jvm.exec) (hZ : Z.Warmed39 s.vm) {own : String} {index : Nat} {y : MethodName} {bytes : ByteArray} {maxL : Nat} {ret : Option FieldType}
    (hown : s.vm.findClass own = some m.cls) (w1 : (Jvm.Cond.methodLink own index y).before a0 Z = true) (w2 : (Jvm.Cond.static y).before a0 Z = true) (w3 : (Jvm.Cond.initialized y.cls).before a0 Z = true) (w4 : (Jvm.Cond.code y bytes maxL ret).before a0 Z = true)
    (hy : y.cls ≠ "java/lang/invoke/MethodHandle" ∧ y.cls ≠ "java/lang/invoke/VarHandle") {rm : Room} {as' : Array Value} {Q' : Option Value → Heap → List Loc → Prop} (hM : Meets l Z y bytes maxL ret [] rm as' h Q' rm.cells rm.slots)
    (W : Nat) (hf : rm.frames + 1 ≤ R.frames) (hl : W + (maxL + 11) + rm.locals ≤ R.locals) (eT : T.heap = h) {g : JFrame} (hg : g.method = m) (hsize : g.locals.size = c.maxLocals) (argsL rest : List Value)
    (hlen : ∀ sig, parseMethodDescriptor y.desc = some sig → argsL.length = sig.parameters.length) (hstack : g.stack = argsL.reverse ++ rest) (hW : 2 * g.monitorRoom + (rest.map fun v => v.category).sum ≤ W) (hdg : decode c.code g.pc = .ok (.invokestatic index, 3))
    (ha : argsL.toArray = as') (hc : cells + rm.cells ≤ R.cells) (hs : slots + rm.slots ≤ R.slots)
    (k : ∀ v T' L, Stand p l e R s m args below meth c T' (locs ++ L) (cells + rm.cells) (slots + rm.slots) → Q' v T'.heap L → Ends p e below s cs ss Q (T'.setTop { g with pc := g.pc + 3, stack := v.toList ++ rest })) : Ends p e below s cs ss Q (T.setTop g) := by
  obtain ⟨v, _, ⟨T', L', k', n'⟩, -, X', ⟨Lc, hQ, rfl, rfl, rfl⟩, st⟩ := Jvm.LawKit.callS X hx (y := y) hown (mvT hZ w1) (mvT hZ w2) (mvT hZ w3) (mvT hZ w4) hy (backOf (W := W) hM hZ w4 w3 hf hl) hg hsize (argsL := argsL) (rest := rest) hlen hstack hW hdg (fun _ _ => ⟨ha, eT, hc, hs⟩)
  exact (k v T' Lc X' hQ).step st
theorem Ends.callC (X : Stand p l e R s m args below meth c T locs cells slots) (hx : p.tables.exec = Jvm.exec) (hZ : Z.Warmed39 s.vm) {own : String} {index : Nat} {y : MethodName} {bytes : ByteArray} {maxL : Nat} (hy1 : y.name = "<init>")
    (hown : s.vm.findClass own = some m.cls) (w1 : (Jvm.Cond.methodLink own index y).before a0 Z = true) (w2 : (Jvm.Cond.instanceMethod y).before a0 Z = true) (w3 : (Jvm.Cond.initialized y.cls).before a0 Z = true) (w4 : (Jvm.Cond.code y bytes maxL none).before a0 Z = true)
    (hy : y.cls ≠ "java/lang/invoke/MethodHandle" ∧ y.cls ≠ "java/lang/invoke/VarHandle") {rm : Room} {as' : Array Value} {Q' : Option Value → Heap → List Loc → Prop} (hM : Meets l Z y bytes maxL none [] rm as' h Q' rm.cells rm.slots)
    (W : Nat) (hf : rm.frames + 1 ≤ R.frames) (hl : W + (maxL + 11) + rm.locals ≤ R.locals) (eT : T.heap = h) {g : JFrame} (hg : g.method = m) (hsize : g.locals.size = c.maxLocals) (a : Addr) (argsL rest : List Value)
    (hlen : ∀ sig, parseMethodDescriptor y.desc = some sig → argsL.length = sig.parameters.length) (hstack : g.stack = argsL.reverse ++ .ref a :: rest) (hW : 2 * g.monitorRoom + (rest.map fun v => v.category).sum ≤ W) (hdg : decode c.code g.pc = .ok (.invokespecial index, 3))
    (ha : (.ref a :: argsL).toArray = as') (hc : cells + rm.cells ≤ R.cells) (hs : slots + rm.slots ≤ R.slots)
    (k : ∀ v T' L, Stand p l e R s m args below meth c T' (locs ++ L) (cells + rm.cells) (slots + rm.slots) → Q' v T'.heap L → Ends p e below s cs ss Q (T'.setTop { g with pc := g.pc + 3, stack := v.toList ++ rest })) : Ends p e below s cs ss Q (T.setTop g) := by
  obtain ⟨v, _, ⟨T', L', k', n'⟩, -, X', ⟨Lc, hQ, rfl, rfl, rfl⟩, st⟩ := X.specialBack hx (y := y) hy1 hown (mvT hZ w1) (mvT hZ w2) (mvT hZ w4) hy (backOf (W := W) hM hZ w4 w3 hf hl) hg hsize (Steps.refl _) (a := a) (argsL := argsL) (rest := rest) hlen hstack hW hdg (fun _ _ => ⟨ha, eT, hc, hs⟩)
  exact (k v T' Lc X' hQ).step (fun _ q => st.trans q)
theorem Ends.callV (X : Stand p l e R s m args below meth c T locs cells slots) (hx : p.tables.exec = Jvm.exec) (hZ : Z.Warmed39 s.vm) {own C : String} {index : Nat} {y : MethodName} {bytes : ByteArray} {maxL : Nat} {ret : Option FieldType}
    (hown : s.vm.findClass own = some m.cls) (w1 : (Jvm.Cond.methodLink own index y).before a0 Z = true) (wd : (Jvm.Cond.declares y).before a0 Z = true) (wsel : (Jvm.Cond.selects C y y).before a0 Z = true) (w2 : (Jvm.Cond.instanceMethod y).before a0 Z = true) (w3 : (Jvm.Cond.initialized y.cls).before a0 Z = true) (w4 : (Jvm.Cond.code y bytes maxL ret).before a0 Z = true)
    (hy : y.cls ≠ "java/lang/invoke/MethodHandle" ∧ y.cls ≠ "java/lang/invoke/VarHandle") {rm : Room} {as' : Array Value} {Q' : Option Value → Heap → List Loc → Prop} (hM : Meets l Z y bytes maxL ret [] rm as' h Q' rm.cells rm.slots)
    (W : Nat) (hf : rm.frames + 1 ≤ R.frames) (hl : W + (maxL + 11) + rm.locals ≤ R.locals) (eT : T.heap = h) (a : Addr) (E : Exa Z h a C) {g : JFrame} (hg : g.method = m) (hsize : g.locals.size = c.maxLocals) (argsL rest : List Value)
    (hlen : ∀ sig, parseMethodDescriptor y.desc = some sig → argsL.length = sig.parameters.length) (hstack : g.stack = argsL.reverse ++ .ref a :: rest) (hW : 2 * g.monitorRoom + (rest.map fun v => v.category).sum ≤ W) (hdg : decode c.code g.pc = .ok (.invokevirtual index, 3))
    (ha : (.ref a :: argsL).toArray = as') (hc : cells + rm.cells ≤ R.cells) (hs : slots + rm.slots ≤ R.slots)
    (k : ∀ v T' L, Stand p l e R s m args below meth c T' (locs ++ L) (cells + rm.cells) (slots + rm.slots) → Q' v T'.heap L → Ends p e below s cs ss Q (T'.setTop { g with pc := g.pc + 3, stack := v.toList ++ rest })) : Ends p e below s cs ss Q (T.setTop g) := by
  obtain ⟨cq, kq, q1, q2, q3⟩ := isOf (T := T) hZ eT E
  obtain ⟨v, _, ⟨T', L', k', n'⟩, -, X', ⟨Lc, hQ, rfl, rfl, rfl⟩, st⟩ := X.virtualBack hx (y := y) (z := y) hown (mvT hZ w1) (mvT hZ wd) (notFace_of_selects (args := #[]) (mvT hZ wsel)) (mvT hZ wsel) (mvT hZ w2) hy (backOf (W := W) hM hZ w4 w3 hf hl) q1 q3 hg hsize (Steps.refl _) (argsL := argsL) (rest := rest) hlen hstack hW hdg (fun _ _ => ⟨ha, eT, hc, hs⟩)
  exact (k v T' Lc X' hQ).step (fun _ q => st.trans q)
/-! ### arrays of small numbers: what each place holds, as a function -/
def Ar (Z : State) (h : Heap) (a : Addr) (ty : FieldType) (n : Nat) (f : Nat → Int32) : Prop := ∃ cl : Cell, Arr Z h a cl ty ∧ cl.slots.size = n ∧ n < 2 ^ 31 ∧ ∀ i, i < n → cl.slots[i]? = some (.int (f i))
def upd (f : Nat → Int32) (j : Nat) (v : Int32) : Nat → Int32 := fun i => if i = j then v else f i
def inb (j : Int32) (n : Nat) : Prop := ¬ (j < 0 ∨ n ≤ j.toNatClampNeg)
variable {a b : Addr} {ty : FieldType} {n sl : Nat} {f : Nat → Int32} {v : Value} {wsA : List Addr}
theorem Ar.lt (A : Ar Z h a ty n f) : a < h.size := by obtain ⟨cl, A1, -⟩ := A; exact A1.lt
theorem Ar.ext (A : Ar Z h a ty n f) (E : Ext h h') : Ar Z h' a ty n f := by obtain ⟨cl, A1, r⟩ := A; exact ⟨cl, A1.ext E, r⟩
theorem Ar.other (A : Ar Z h b ty n f) (W : Wr h h' a sl v) (q : b ≠ a) : Ar Z h' b ty n f := by obtain ⟨cl, A1, r⟩ := A; exact ⟨cl, A1.other W q, r⟩
theorem Ar.keep (A : Ar Z h a ty n f) (K : Keep h h' wsA) (q : a ∉ wsA) : Ar Z h' a ty n f := by obtain ⟨cl, A1, r⟩ := A; exact ⟨cl, ⟨K.2.1 a cl A1.1 q, A1.2⟩, r⟩
theorem Ar.small (A : Ar Z h a ty n f) : n < 2 ^ 31 := by obtain ⟨cl, A1, -, r, -⟩ := A; exact r
theorem Ar.set {j : Int32} {x : Int32} (A : Ar Z h a ty n f) (W : Wr h h' a j.toNatClampNeg (.int x)) : Ar Z h' a ty n (upd f j.toNatClampNeg x) := by
  obtain ⟨cl, A1, r1, r2, r3⟩ := A
  refine ⟨_, A1.same W, by rw [sz_set]; exact r1, r2, fun i hi => ?_⟩
  by_cases q : i = j.toNatClampNeg
  · subst q; simp [Cell.setSlot, upd, r1, hi]
  · simp only [Cell.setSlot, upd, if_neg q]; rw [Array.getElem?_setIfInBounds_ne (fun z => q z.symm)]; exact r3 i hi
theorem Ar.new {cA : ClassId} {k : Int32} (A : Arr Z h a (newA cA ty k) ty) (q : ¬ k < 0) (hd : defaultValue ty = .int 0) : Ar Z h a ty k.toNatClampNeg (fun _ => 0) :=
  ⟨_, A, sz_new _ _ _, (back32 q).2, fun i hi => by simp [newA, hi, hd]⟩
theorem Ends.newA (X : Stand p l e R s m args below meth c T locs cells slots) (hx : p.tables.exec = Jvm.exec) (hZ : Z.Warmed39 s.vm) {aty : ArrayType} (w : (Jvm.Cond.arrayClass (newarray.typeOf aty)).before a0 Z = true) (eT : T.heap = h) {g : JFrame} (hg : g.method = m) (hd : decode c.code g.pc = .ok (.newarray aty, 2)) {k : Int32} {rest : List Value} (hs : g.stack = .int k :: rest)
    (hdf : defaultValue (newarray.typeOf aty) = .int 0) (hn : ¬ k < 0) (cap : Nat) (hcap : k.toNatClampNeg ≤ cap) (hb : cap * 8 ≤ 536870912) (hc : cells + 1 ≤ R.cells) (hl : slots + cap ≤ R.slots)
    (kk : ∀ T' h' a, Stand p l e R s m args below meth c T' locs (cells + 1) (slots + cap) → T'.heap = h' → Ext h h' → h.size = a → Ar Z h' a (newarray.typeOf aty) k.toNatClampNeg (fun _ => 0) → Ends p e below s cs ss Q (T'.setTop { g with pc := g.pc + 2, stack := .ref a :: rest })) : Ends p e below s cs ss Q (T.setTop g) := by
  obtain ⟨T', h', cA, X', e', E, A, st⟩ := newP X hx hZ w eT hg hd hs hn hcap hb hc hl
  exact (kk T' h' h.size X' e' E rfl (Ar.new A hn hdf)).step st
theorem Ends.iaload (X : Stand p l e R s m args below meth c T locs cells slots) (hx : p.tables.exec = Jvm.exec) (hZ : Z.Warmed39 s.vm) (eT : T.heap = h) (A : Ar Z h a .int n f) {j : Int32} (hj : inb j n) {g : JFrame} (hg : g.method = m) {rest : List Value} (hs : g.stack = .int j :: .ref a :: rest) (hd : decode c.code g.pc = .ok (.iaload, 1))
    (k : Ends p e below s cs ss Q (T.setTop { g with pc := g.pc + 1, stack := .int (f j.toNatClampNeg) :: rest })) : Ends p e below s cs ss Q (T.setTop g) := by
  obtain ⟨cl, A1, r1, -, r3⟩ := A
  subst r1
  exact k.step (X.iaload hx (by rw [eT]; exact A1.1) (State.isArrayOf_alike hZ.alike A1.2.1) A1.2.2 hj (r3 _ (Nat.lt_of_not_le fun q => hj (Or.inr q))) hg hs hd)
theorem Ends.baload (X : Stand p l e R s m args below meth c T locs cells slots) (hx : p.tables.exec = Jvm.exec) (hZ : Z.Warmed39 s.vm) (eT : T.heap = h) (A : Ar Z h a .byte n f) {j : Int32} (hj : inb j n) {g : JFrame} (hg : g.method = m) {rest : List Value} (hs : g.stack = .int j :: .ref a :: rest) (hd : decode c.code g.pc = .ok (.baload, 1))
    (k : Ends p e below s cs ss Q (T.setTop { g with pc := g.pc + 1, stack := .int (f j.toNatClampNeg) :: rest })) : Ends p e below s cs ss Q (T.setTop g) := by
  obtain ⟨cl, A1, r1, -, r3⟩ := A
  subst r1
  exact k.step (X.baloadBytes hx (by rw [eT]; exact A1.1) (State.isArrayOf_alike hZ.alike A1.2.1) A1.2.2 hj (r3 _ (Nat.lt_of_not_le fun q => hj (Or.inr q))) hg hs hd)
theorem Ends.arrlen (X : Stand p l e R s m args below meth c T locs cells slots) (hx : p.tables.exec = Jvm.exec) (hZ : Z.Warmed39 s.vm) (eT : T.heap = h) (A : Ar Z h a ty n f) {g : JFrame} (hg : g.method = m) {rest : List Value} (hs : g.stack = .ref a :: rest) (hd : decode c.code g.pc = .ok (.arraylength, 1))
    (k : Ends p e below s cs ss Q (T.setTop { g with pc := g.pc + 1, stack := .int (Nat.toInt32 n) :: rest })) : Ends p e below s cs ss Q (T.setTop g) := by
  obtain ⟨cl, A1, r1, -, r3⟩ := A
  subst r1
  exact k.step (X.arraylength hx (by rw [eT]; exact A1.1) (State.isArrayOf_alike hZ.alike A1.2.1) hg hs hd)
theorem Ends.iastore (X : Stand p l e R s m args below meth c T locs cells slots) (hx : p.tables.exec = Jvm.exec) (hZ : Z.Warmed39 s.vm) (eT : T.heap = h) (A : Ar Z h a .int n f) {j x : Int32} (hj : inb j n) {n0 : Nat} (N : Fr n0 locs) (ge : n0 ≤ a) {g : JFrame} (hg : g.method = m) {rest : List Value} (hs : g.stack = .int x :: .int j :: .ref a :: rest) (hd : decode c.code g.pc = .ok (.iastore, 1))
    (k : ∀ T' h' sl, Stand p l e R s m args below meth c T' (locs ++ [⟨a, sl⟩]) cells slots → T'.heap = h' → Fr n0 (locs ++ [⟨a, sl⟩]) → Wr h h' a sl (.int x) → Ar Z h' a .int n (upd f j.toNatClampNeg x) → Ends p e below s cs ss Q (T'.setTop { g with pc := g.pc + 1, stack := rest })) : Ends p e below s cs ss Q (T.setTop g) := by
  obtain ⟨cl, A1, r1, r2, r3⟩ := A
  obtain ⟨T', h', X', e', W, st⟩ := stI X hx hZ eT A1 (by rw [r1]; exact hj) hg hs hd
  exact (k T' h' _ X' e' (Fr.snoc X' N ge) W (Ar.set ⟨cl, A1, r1, r2, r3⟩ W)).step st
theorem Ends.bastore (X : Stand p l e R s m args below meth c T locs cells slots) (hx : p.tables.exec = Jvm.exec) (hZ : Z.Warmed39 s.vm) (eT : T.heap = h) (A : Ar Z h a .byte n f) {j x : Int32} (hj : inb j n) {n0 : Nat} (N : Fr n0 locs) (ge : n0 ≤ a) {g : JFrame} (hg : g.method = m) {rest : List Value} (hs : g.stack = .int x :: .int j :: .ref a :: rest) (hd : decode c.code g.pc = .ok (.bastore, 1))
    (k : ∀ T' h' sl, Stand p l e R s m args below meth c T' (locs ++ [⟨a, sl⟩]) cells slots → T'.heap = h' → Fr n0 (locs ++ [⟨a, sl⟩]) → Wr h h' a sl (.int (nar .byte x)) → Ar Z h' a .byte n (upd f j.toNatClampNeg (nar .byte x)) → Ends p e below s cs ss Q (T'.setTop { g with pc := g.pc + 1, stack := rest })) : Ends p e below s cs ss Q (T.setTop g) := by
  obtain ⟨cl, A1, r1, r2, r3⟩ := A
  obtain ⟨T', h', X', e', W, st⟩ := stB X hx hZ eT A1 (by rw [r1]; exact hj) hg hs hd
  exact (k T' h' _ X' e' (Fr.snoc X' N ge) W (Ar.set ⟨cl, A1, r1, r2, r3⟩ W)).step st
theorem Ends.getF (X : Stand p l e R s m args below meth c T locs cells slots) (hx : p.tables.exec = Jvm.exec) (hZ : Z.Warmed39 s.vm) {own O fn d : String} {index : Nat} (hown : s.vm.findClass own = some m.cls) (w : (Jvm.Cond.fieldLink own index O fn d).before a0 Z = true) (eT : T.heap = h) (F : Fld Z h a O fn d v) {g : JFrame} (hg : g.method = m) {rest : List Value} (hs : g.stack = .ref a :: rest) (hd : decode c.code g.pc = .ok (.getfield index, 3))
    (k : ∀ T', Stand p l e R s m args below meth c T' locs cells slots → T'.heap = h → Ends p e below s cs ss Q (T'.setTop { g with pc := g.pc + 3, stack := v :: rest })) : Ends p e below s cs ss Q (T.setTop g) := by
  obtain ⟨T', X', e', st⟩ := Jvm.RoadKit.getF X hx hZ hown (host := "") (Or.inl w) Via.refl eT F hg hs hd
  exact (k T' X' e').step st
theorem Ends.putF (X : Stand p l e R s m args below meth c T locs cells slots) (hx : p.tables.exec = Jvm.exec) (hZ : Z.Warmed39 s.vm) {own O fn d : String} {index kk : Nat} {tf : FieldType} {old : Value} (hown : s.vm.findClass own = some m.cls) (w : (Jvm.Cond.fieldLink own index O fn d).before a0 Z = true) (eT : T.heap = h) (F : Fld Z h a O fn d old) (E : Exa Z h a O) (L : (Jvm.Cond.lays O O fn d).before a0 Z = true ∨ ((Jvm.Cond.laysFinal O O fn d).before a0 Z = true ∧ own = O ∧ meth.name = "<init>")) (wi : (Jvm.Cond.instantiable O kk).before a0 Z = true)
    (hty : parseFieldDescriptor d = some tf) (hn : narrow tf v = v) (hf : fits tf v = true) {n0 : Nat} (N : Fr n0 locs) (ge : n0 ≤ a) {g : JFrame} (hg : g.method = m) {rest : List Value} (hs : g.stack = v :: .ref a :: rest) (hd : decode c.code g.pc = .ok (.putfield index, 3))
    (k : ∀ T' h', Stand p l e R s m args below meth c T' (locs ++ [⟨a, Jvm.RoadKit.slotOf Z O fn d⟩]) cells slots → T'.heap = h' → Fr n0 (locs ++ [⟨a, Jvm.RoadKit.slotOf Z O fn d⟩]) → Wr h h' a (Jvm.RoadKit.slotOf Z O fn d) v → Ends p e below s cs ss Q (T'.setTop { g with pc := g.pc + 3, stack := rest })) : Ends p e below s cs ss Q (T.setTop g) := by
  obtain ⟨T', h', X', e', W, st⟩ := Jvm.RoadKit.putF X hx hZ hown (host := "") (Or.inl w) Via.refl eT F E L wi hty hn hf hg hs hd
  exact (k T' h' X' e' (Fr.snoc X' N ge) W).step st
theorem Ends.newO (X : Stand p l e R s m args below meth c T locs cells slots) (hx : p.tables.exec = Jvm.exec) (hZ : Z.Warmed39 s.vm) {own C : String} {index k : Nat} (hown : s.vm.findClass own = some m.cls) (w : (Jvm.Cond.classLink own index C).before a0 Z = true) (wi : (Jvm.Cond.instantiable C k).before a0 Z = true) (wz : (Jvm.Cond.initialized C).before a0 Z = true) (eT : T.heap = h)
    {g : JFrame} (hg : g.method = m) (hd : decode c.code g.pc = .ok (.new index, 3)) (hc : cells + 1 ≤ R.cells) (hl : slots + k ≤ R.slots)
    (kk : ∀ T' h' a, Stand p l e R s m args below meth c T' locs (cells + 1) (slots + k) → T'.heap = h' → Ext h h' → h.size = a → Exa Z h' a C → (∀ {O nm d : String} {ty : FieldType}, Laid Z a0 C O nm d → parseFieldDescriptor d = some ty → Fld Z h' a O nm d (defaultValue ty)) → Ends p e below s cs ss Q (T'.setTop { g with pc := g.pc + 3, stack := .ref a :: g.stack })) : Ends p e below s cs ss Q (T.setTop g) := by
  obtain ⟨T', h', X', e', E, A, D, -, st⟩ := Jvm.RoadKit.newO X hx hZ hown w wi wz eT hg hd hc hl
  exact (kk T' h' _ X' e' E rfl A D).step st
theorem Ends.initO (X : Stand p l e R s m args below meth c T locs cells slots) (hx : p.tables.exec = Jvm.exec) (hZ : Z.Warmed39 s.vm) {own : String} {idx : Nat} (hown : s.vm.findClass own = some m.cls) (w1 : (Jvm.Cond.methodLink own idx Lib.objectInit).before a0 Z = true) (w2 : (Jvm.Cond.instanceMethod Lib.objectInit).before a0 Z = true)
    (w3 : (Jvm.Cond.code Lib.objectInit ⟨#[0xb1]⟩ 1 none).before a0 Z = true) (eT : T.heap = h) {g : JFrame} (hg : g.method = m) (hsize : g.locals.size = c.maxLocals) {rest : List Value} (hs : g.stack = .ref a :: rest) (hd : decode c.code g.pc = .ok (.invokespecial idx, 3))
    (hf : 1 ≤ R.frames) (W : Nat) (hW : 2 * g.monitorRoom + (rest.map fun v => v.category).sum ≤ W) (hl : W + 12 ≤ R.locals)
    (k : ∀ T', Stand p l e R s m args below meth c T' locs cells slots → T'.heap = h → Ends p e below s cs ss Q (T'.setTop { g with pc := g.pc + 3, stack := rest })) : Ends p e below s cs ss Q (T.setTop g) := by
  obtain ⟨T', X', e', st⟩ := Jvm.RoadKit.initO X hx hZ hown w1 w2 w3 eT hg hsize hs hd hf hW hl
  exact (k T' X' e').step st
def OneS (o : Slot) : Prop := o = .unset ∨ ∃ w, o = .val w ∧ w.category = 1
theorem storeL {ls : Array Slot} {i : Nat} {x : Int64} {o o' : Slot} (h1 : ls[i]? = some o) (h2 : ls[i + 1]? = some o') (p1 : OneS o) (p2 : OneS o') : storeLocals ls i (.long x) = some ((ls.setIfInBounds i (.val (.long x))).setIfInBounds (i + 1) .second) := by
  have l1 : i < ls.size := (Array.getElem?_eq_some_iff.mp h1).1
  have l2 : i + 1 < ls.size := (Array.getElem?_eq_some_iff.mp h2).1
  have e2 : (ls.setIfInBounds i (.val (.long x)))[i + 1]? = some o' := by rw [Array.getElem?_setIfInBounds_ne (by omega)]; exact h2
  have q : storeSelf ls i (.long x) = some ((ls.setIfInBounds i (.val (.long x))).setIfInBounds (i + 1) .second) := by
    have cat : (Value.long x).category = 2 := rfl
    simp only [storeSelf, setAt, if_pos l1, cat, if_true, Option.bind_eq_bind, Option.bind_some, e2]
    rcases p2 with rfl | ⟨w, rfl, hw⟩
    · simp [l2]
    · simp [l2, hw]
  simp only [storeLocals, h1, Option.bind_eq_bind, Option.bind_some]
  rcases p1 with rfl | ⟨w, rfl, hw⟩
  · exact q
  · simp only [hw]; exact q
end OwnFrame
-- body 1
def F1_35 (x2 : Int64) : Int64 := x2
def F1_28 (x2 : Int64) : Int64 := (F1_35 (x2 ^^^ (XT.ushrL x2 (33 : Int32))))
def F1_22 (x2 : Int64) : Int64 := (F1_28 (x2 * (-4265267296055464877 : Int64)))
def F1_15 (x2 : Int64) : Int64 := (F1_22 (x2 ^^^ (XT.ushrL x2 (33 : Int32))))
def F1_9 (x2 : Int64) : Int64 := (F1_15 (x2 * (-49064778989728563 : Int64)))
def F1 (p0 : Int64) : Int64 := (F1_9 (p0 ^^^ (XT.ushrL p0 (33 : Int32))))
-- body 2
def F2_52 (x2 : Int64) : Int64 := x2
def F2_42 (x0 : Int64) (x2 : Int64) : Int64 := (F2_52 (x2 * ((2 : Int64) - (x0 * x2))))
def F2_32 (x0 : Int64) (x2 : Int64) : Int64 := (F2_42 x0 (x2 * ((2 : Int64) - (x0 * x2))))
def F2_22 (x0 : Int64) (x2 : Int64) : Int64 := (F2_32 x0 (x2 * ((2 : Int64) - (x0 * x2))))
def F2_12 (x0 : Int64) (x2 : Int64) : Int64 := (F2_22 x0 (x2 * ((2 : Int64) - (x0 * x2))))
def F2 (p0 : Int64) : Int64 := (F2_12 p0 (p0 * ((2 : Int64) - (p0 * p0))))
-- body 0
def F0_72 (t0 : Int32) : Int32 := (nar .boolean t0)
def F0_67  : Int32 := (F0_72 (1 : Int32))
def F0_71  : Int32 := (F0_72 (0 : Int32))
def F0_60 (x0 : Int64) (x4 : Int64) : Int32 := if x4 = x0 then F0_67 else F0_71
def F0_50 (x0 : Int64) (x4 : Int64) : Int32 := (F0_60 x0 (x4 ^^^ (XT.ushrL x4 (33 : Int32))))
def F0_39 (x0 : Int64) (x4 : Int64) : Int32 := (F0_50 x0 (x4 * (F2 (-49064778989728563 : Int64))))
def F0_29 (x0 : Int64) (x4 : Int64) : Int32 := (F0_39 x0 (x4 ^^^ (XT.ushrL x4 (33 : Int32))))
def F0_18 (x0 : Int64) (x4 : Int64) : Int32 := (F0_29 x0 (x4 * (F2 (-4265267296055464877 : Int64))))
def F0_5 (x0 : Int64) (x2 : Int64) : Int32 := (F0_18 x0 (x2 ^^^ (XT.ushrL x2 (33 : Int32))))
def F0 (p0 : Int64) : Int32 := (F0_5 p0 (F1 p0))
theorem pd_0 : parseMethodDescriptor "(J)J" = some ⟨[.long], (some .long)⟩ := by decide +kernel
theorem d1_0 : decode prog_15_method_8_code 0 = .ok (.lload_n 0, 1) := by decide +kernel
theorem d1_1 : decode prog_15_method_8_code 1 = .ok (.lstore_n 2, 1) := by decide +kernel
theorem d1_2 : decode prog_15_method_8_code 2 = .ok (.lload_n 2, 1) := by decide +kernel
theorem d1_3 : decode prog_15_method_8_code 3 = .ok (.lload_n 2, 1) := by decide +kernel
theorem d1_4 : decode prog_15_method_8_code 4 = .ok (.bipush 33, 2) := by decide +kernel
theorem d1_6 : decode prog_15_method_8_code 6 = .ok (.lushr, 1) := by decide +kernel
theorem d1_7 : decode prog_15_method_8_code 7 = .ok (.lxor, 1) := by decide +kernel
theorem d1_8 : decode prog_15_method_8_code 8 = .ok (.lstore_n 2, 1) := by decide +kernel
theorem d1_9 : decode prog_15_method_8_code 9 = .ok (.lload_n 2, 1) := by decide +kernel
theorem d1_10 : decode prog_15_method_8_code 10 = .ok (.ldc2_w 79, 3) := by decide +kernel
theorem d1_13 : decode prog_15_method_8_code 13 = .ok (.lmul, 1) := by decide +kernel
theorem d1_14 : decode prog_15_method_8_code 14 = .ok (.lstore_n 2, 1) := by decide +kernel
theorem d1_15 : decode prog_15_method_8_code 15 = .ok (.lload_n 2, 1) := by decide +kernel
theorem d1_16 : decode prog_15_method_8_code 16 = .ok (.lload_n 2, 1) := by decide +kernel
theorem d1_17 : decode prog_15_method_8_code 17 = .ok (.bipush 33, 2) := by decide +kernel
theorem d1_19 : decode prog_15_method_8_code 19 = .ok (.lushr, 1) := by decide +kernel
theorem d1_20 : decode prog_15_method_8_code 20 = .ok (.lxor, 1) := by decide +kernel
theorem d1_21 : decode prog_15_method_8_code 21 = .ok (.lstore_n 2, 1) := by decide +kernel
theorem d1_22 : decode prog_15_method_8_code 22 = .ok (.lload_n 2, 1) := by decide +kernel
theorem d1_23 : decode prog_15_method_8_code 23 = .ok (.ldc2_w 81, 3) := by decide +kernel
theorem d1_26 : decode prog_15_method_8_code 26 = .ok (.lmul, 1) := by decide +kernel
theorem d1_27 : decode prog_15_method_8_code 27 = .ok (.lstore_n 2, 1) := by decide +kernel
theorem d1_28 : decode prog_15_method_8_code 28 = .ok (.lload_n 2, 1) := by decide +kernel
theorem d1_29 : decode prog_15_method_8_code 29 = .ok (.lload_n 2, 1) := by decide +kernel
theorem d1_30 : decode prog_15_method_8_code 30 = .ok (.bipush 33, 2) := by decide +kernel
theorem d1_32 : decode prog_15_method_8_code 32 = .ok (.lushr, 1) := by decide +kernel
theorem d1_33 : decode prog_15_method_8_code 33 = .ok (.lxor, 1) := by decide +kernel
theorem d1_34 : decode prog_15_method_8_code 34 = .ok (.lstore_n 2, 1) := by decide +kernel
theorem d1_35 : decode prog_15_method_8_code 35 = .ok (.lload_n 2, 1) := by decide +kernel
theorem d1_36 : decode prog_15_method_8_code 36 = .ok (.lreturn, 1) := by decide +kernel
theorem pn_1 : plainName "com/example/ananke/ananke/hash/Murmur3" = true := by first | (simp [plainName, overriddenIn]; done) | decide +kernel
theorem ef_1 (m : MethodId) (y0 : Int64) : entryFrame m #[(.long y0)] 4 = mkF m 0 #[.val (.long y0), .second, .unset, .unset] [] := by first | rfl | (simp [entryFrame, mkF, argsToLocals, Value.category]; done)
def Q1 (Z : State)   (h0 : Heap) (n0 : Nat) (ans : Int64) (v : Option Value) (h : Heap) (L : List Loc) : Prop := v = some (.long ans) ∧ Fr n0 L ∧ h = h0
set_option maxRecDepth 65536 in
set_option maxHeartbeats 40000000 in
theorem rm1 (l : Launch) (Z : State) (a0 : Array Value) (hw : ∀ d ∈ tables_1, d.before a0 Z = true) (p0 : Int64)  (h0 : Heap) (n0 : Nat) (Z0 : n0 ≤ h0.size)  :
    Meets l Z (⟨"com/example/ananke/ananke/hash/Murmur3", "fmix64", "(J)J"⟩ : MethodName) prog_15_method_8_code 4 (some .long) [] ({ frames := 0, cells := 0, slots := 0, locals := 0 } : Room) #[(.long p0)] h0 (Q1 Z  h0 n0 (F1 p0)) 0 0 := by
  refine Meets.of pn_1 ?_
  intro p e s m below meth c s₁ hx hby hml hZ hown hnm hret hlk X0 e0
  have hml : c.maxLocals = 4 := hml
  have hown : s.vm.findClass "com/example/ananke/ananke/hash/Murmur3" = some m.cls := hown
  have N0 := Fr.nil n0
  have b35 : ∀ (T : State) (L : List Loc) (X : Stand p l e ({ frames := 0, cells := 0, slots := 0, locals := 0 } : Room) s m #[(.long p0)] below meth c T L 0 0) (eT : T.heap = h0) (N : Fr n0 L) (x2 : Int64) (z0 : Int64), Ends p e below s 0 0 (Q1 Z  h0 n0 (F1_35 x2)) (T.setTop (mkF m 35 #[.val (.long z0), .second, .val (.long x2), .second] [])) := by
    intro T L X eT N x2 z0
    refine Ends.step (u' := (T.setTop (mkF m 36 #[.val (.long z0), .second, .val (.long x2), .second] [(.long x2)]))) ?_ (fun _ k => XT.lloadN X.here hx rfl (hb hby d1_35) rfl k)
    exact Ends.ret X (v := some (.long x2)) (fun q => by rw [hret] at q; cases q) hlk (fun fs hr => X.lreturnOut hx hret (hb hby d1_36) hr) (by decide) (by decide) ⟨rfl, N, eT⟩
  have b28 : ∀ (T : State) (L : List Loc) (X : Stand p l e ({ frames := 0, cells := 0, slots := 0, locals := 0 } : Room) s m #[(.long p0)] below meth c T L 0 0) (eT : T.heap = h0) (N : Fr n0 L) (x2 : Int64) (z0 : Int64), Ends p e below s 0 0 (Q1 Z  h0 n0 (F1_28 x2)) (T.setTop (mkF m 28 #[.val (.long z0), .second, .val (.long x2), .second] [])) := by
    intro T L X eT N x2 z0
    refine Ends.step (u' := (T.setTop (mkF m 29 #[.val (.long z0), .second, .val (.long x2), .second] [(.long x2)]))) ?_ (fun _ k => XT.lloadN X.here hx rfl (hb hby d1_28) rfl k)
    refine Ends.step (u' := (T.setTop (mkF m 30 #[.val (.long z0), .second, .val (.long x2), .second] [(.long x2), (.long x2)]))) ?_ (fun _ k => XT.lloadN X.here hx rfl (hb hby d1_29) rfl k)
    refine Ends.step (u' := (T.setTop (mkF m 32 #[.val (.long z0), .second, .val (.long x2), .second] [(.int (33 : Int32)), (.long x2), (.long x2)]))) ?_ (fun _ k => XT.bipushV X.here hx rfl (33 : Int32) (hb hby d1_30) rfl k)
    refine Ends.step (u' := (T.setTop (mkF m 33 #[.val (.long z0), .second, .val (.long x2), .second] [(.long (XT.ushrL x2 (33 : Int32))), (.long x2)]))) ?_ (fun _ k => XT.lushr X.here hx rfl (hb hby d1_32) rfl k)
    refine Ends.step (u' := (T.setTop (mkF m 34 #[.val (.long z0), .second, .val (.long x2), .second] [(.long (x2 ^^^ (XT.ushrL x2 (33 : Int32))))]))) ?_ (fun _ k => XT.lxor X.here hx rfl (hb hby d1_33) rfl k)
    refine Ends.step (u' := (T.setTop (mkF m 35 #[.val (.long z0), .second, .val (.long (x2 ^^^ (XT.ushrL x2 (33 : Int32)))), .second] []))) ?_ (fun _ k => XT.lstoreN X.here hx rfl (hb hby d1_34) rfl (l' := #[.val (.long z0), .second, .val (.long (x2 ^^^ (XT.ushrL x2 (33 : Int32)))), .second]) rfl k)
    exact b35 T _ X eT N (x2 ^^^ (XT.ushrL x2 (33 : Int32))) z0
  have b22 : ∀ (T : State) (L : List Loc) (X : Stand p l e ({ frames := 0, cells := 0, slots := 0, locals := 0 } : Room) s m #[(.long p0)] below meth c T L 0 0) (eT : T.heap = h0) (N : Fr n0 L) (x2 : Int64) (z0 : Int64), Ends p e below s 0 0 (Q1 Z  h0 n0 (F1_22 x2)) (T.setTop (mkF m 22 #[.val (.long z0), .second, .val (.long x2), .second] [])) := by
    intro T L X eT N x2 z0
    refine Ends.step (u' := (T.setTop (mkF m 23 #[.val (.long z0), .second, .val (.long x2), .second] [(.long x2)]))) ?_ (fun _ k => XT.lloadN X.here hx rfl (hb hby d1_22) rfl k)
    refine Ends.step (u' := (T.setTop (mkF m 26 #[.val (.long z0), .second, .val (.long x2), .second] [(.long (-4265267296055464877 : Int64)), (.long x2)]))) ?_ (fun _ k => X.ldc2J hx hown (mvT hZ (hw _ (List.mem_of_getElem? (i := 5) rfl))) rfl (hb hby d1_23) k)
    refine Ends.step (u' := (T.setTop (mkF m 27 #[.val (.long z0), .second, .val (.long x2), .second] [(.long (x2 * (-4265267296055464877 : Int64)))]))) ?_ (fun _ k => XT.lmul X.here hx rfl (hb hby d1_26) rfl k)
    refine Ends.step (u' := (T.setTop (mkF m 28 #[.val (.long z0), .second, .val (.long (x2 * (-4265267296055464877 : Int64))), .second] []))) ?_ (fun _ k => XT.lstoreN X.here hx rfl (hb hby d1_27) rfl (l' := #[.val (.long z0), .second, .val (.long (x2 * (-4265267296055464877 : Int64))), .second]) rfl k)
    exact b28 T _ X eT N (x2 * (-4265267296055464877 : Int64)) z0
  have b15 : ∀ (T : State) (L : List Loc) (X : Stand p l e ({ frames := 0, cells := 0, slots := 0, locals := 0 } : Room) s m #[(.long p0)] below meth c T L 0 0) (eT : T.heap = h0) (N : Fr n0 L) (x2 : Int64) (z0 : Int64), Ends p e below s 0 0 (Q1 Z  h0 n0 (F1_15 x2)) (T.setTop (mkF m 15 #[.val (.long z0), .second, .val (.long x2), .second] [])) := by
    intro T L X eT N x2 z0
    refine Ends.step (u' := (T.setTop (mkF m 16 #[.val (.long z0), .second, .val (.long x2), .second] [(.long x2)]))) ?_ (fun _ k => XT.lloadN X.here hx rfl (hb hby d1_15) rfl k)
    refine Ends.step (u' := (T.setTop (mkF m 17 #[.val (.long z0), .second, .val (.long x2), .second] [(.long x2), (.long x2)]))) ?_ (fun _ k => XT.lloadN X.here hx rfl (hb hby d1_16) rfl k)
    refine Ends.step (u' := (T.setTop (mkF m 19 #[.val (.long z0), .second, .val (.long x2), .second] [(.int (33 : Int32)), (.long x2), (.long x2)]))) ?_ (fun _ k => XT.bipushV X.here hx rfl (33 : Int32) (hb hby d1_17) rfl k)
    refine Ends.step (u' := (T.setTop (mkF m 20 #[.val (.long z0), .second, .val (.long x2), .second] [(.long (XT.ushrL x2 (33 : Int32))), (.long x2)]))) ?_ (fun _ k => XT.lushr X.here hx rfl (hb hby d1_19) rfl k)
    refine Ends.step (u' := (T.setTop (mkF m 21 #[.val (.long z0), .second, .val (.long x2), .second] [(.long (x2 ^^^ (XT.ushrL x2 (33 : Int32))))]))) ?_ (fun _ k => XT.lxor X.here hx rfl (hb hby d1_20) rfl k)
    refine Ends.step (u' := (T.setTop (mkF m 22 #[.val (.long z0), .second, .val (.long (x2 ^^^ (XT.ushrL x2 (33 : Int32)))), .second] []))) ?_ (fun _ k => XT.lstoreN X.here hx rfl (hb hby d1_21) rfl (l' := #[.val (.long z0), .second, .val (.long (x2 ^^^ (XT.ushrL x2 (33 : Int32)))), .second]) rfl k)
    exact b22 T _ X eT N (x2 ^^^ (XT.ushrL x2 (33 : Int32))) z0
  have b9 : ∀ (T : State) (L : List Loc) (X : Stand p l e ({ frames := 0, cells := 0, slots := 0, locals := 0 } : Room) s m #[(.long p0)] below meth c T L 0 0) (eT : T.heap = h0) (N : Fr n0 L) (x2 : Int64) (z0 : Int64), Ends p e below s 0 0 (Q1 Z  h0 n0 (F1_9 x2)) (T.setTop (mkF m 9 #[.val (.long z0), .second, .val (.long x2), .second] [])) := by
    intro T L X eT N x2 z0
    refine Ends.step (u' := (T.setTop (mkF m 10 #[.val (.long z0), .second, .val (.long x2), .second] [(.long x2)]))) ?_ (fun _ k => XT.lloadN X.here hx rfl (hb hby d1_9) rfl k)
    refine Ends.step (u' := (T.setTop (mkF m 13 #[.val (.long z0), .second, .val (.long x2), .second] [(.long (-49064778989728563 : Int64)), (.long x2)]))) ?_ (fun _ k => X.ldc2J hx hown (mvT hZ (hw _ (List.mem_of_getElem? (i := 4) rfl))) rfl (hb hby d1_10) k)
    refine Ends.step (u' := (T.setTop (mkF m 14 #[.val (.long z0), .second, .val (.long x2), .second] [(.long (x2 * (-49064778989728563 : Int64)))]))) ?_ (fun _ k => XT.lmul X.here hx rfl (hb hby d1_13) rfl k)
    refine Ends.step (u' := (T.setTop (mkF m 15 #[.val (.long z0), .second, .val (.long (x2 * (-49064778989728563 : Int64))), .second] []))) ?_ (fun _ k => XT.lstoreN X.here hx rfl (hb hby d1_14) rfl (l' := #[.val (.long z0), .second, .val (.long (x2 * (-49064778989728563 : Int64))), .second]) rfl k)
    exact b15 T _ X eT N (x2 * (-49064778989728563 : Int64)) z0
  refine Ends.step (u' := (s₁.setTop (mkF m 0 #[.val (.long p0), .second, .unset, .unset] []))) ?_ (fun _ k => castTop (ef_1 m p0) k)
  refine Ends.step (u' := (s₁.setTop (mkF m 1 #[.val (.long p0), .second, .unset, .unset] [(.long p0)]))) ?_ (fun _ k => XT.lloadN X0.here hx rfl (hb hby d1_0) rfl k)
  refine Ends.step (u' := (s₁.setTop (mkF m 2 #[.val (.long p0), .second, .val (.long p0), .second] []))) ?_ (fun _ k => XT.lstoreN X0.here hx rfl (hb hby d1_1) rfl (l' := #[.val (.long p0), .second, .val (.long p0), .second]) rfl k)
  refine Ends.step (u' := (s₁.setTop (mkF m 3 #[.val (.long p0), .second, .val (.long p0), .second] [(.long p0)]))) ?_ (fun _ k => XT.lloadN X0.here hx rfl (hb hby d1_2) rfl k)
  refine Ends.step (u' := (s₁.setTop (mkF m 4 #[.val (.long p0), .second, .val (.long p0), .second] [(.long p0), (.long p0)]))) ?_ (fun _ k => XT.lloadN X0.here hx rfl (hb hby d1_3) rfl k)
  refine Ends.step (u' := (s₁.setTop (mkF m 6 #[.val (.long p0), .second, .val (.long p0), .second] [(.int (33 : Int32)), (.long p0), (.long p0)]))) ?_ (fun _ k => XT.bipushV X0.here hx rfl (33 : Int32) (hb hby d1_4) rfl k)
  refine Ends.step (u' := (s₁.setTop (mkF m 7 #[.val (.long p0), .second, .val (.long p0), .second] [(.long (XT.ushrL p0 (33 : Int32))), (.long p0)]))) ?_ (fun _ k => XT.lushr X0.here hx rfl (hb hby d1_6) rfl k)
  refine Ends.step (u' := (s₁.setTop (mkF m 8 #[.val (.long p0), .second, .val (.long p0), .second] [(.long (p0 ^^^ (XT.ushrL p0 (33 : Int32))))]))) ?_ (fun _ k => XT.lxor X0.here hx rfl (hb hby d1_7) rfl k)
  refine Ends.step (u' := (s₁.setTop (mkF m 9 #[.val (.long p0), .second, .val (.long (p0 ^^^ (XT.ushrL p0 (33 : Int32)))), .second] []))) ?_ (fun _ k => XT.lstoreN X0.here hx rfl (hb hby d1_8) rfl (l' := #[.val (.long p0), .second, .val (.long (p0 ^^^ (XT.ushrL p0 (33 : Int32)))), .second]) rfl k)
  exact b9 s₁ _ X0 e0 N0 (p0 ^^^ (XT.ushrL p0 (33 : Int32))) p0
theorem d2_0 : decode method_2_code 0 = .ok (.lload_n 0, 1) := by decide +kernel
theorem d2_1 : decode method_2_code 1 = .ok (.lstore_n 2, 1) := by decide +kernel
theorem d2_2 : decode method_2_code 2 = .ok (.lload_n 2, 1) := by decide +kernel
theorem d2_3 : decode method_2_code 3 = .ok (.ldc2_w 7, 3) := by decide +kernel
theorem d2_6 : decode method_2_code 6 = .ok (.lload_n 0, 1) := by decide +kernel
theorem d2_7 : decode method_2_code 7 = .ok (.lload_n 2, 1) := by decide +kernel
theorem d2_8 : decode method_2_code 8 = .ok (.lmul, 1) := by decide +kernel
theorem d2_9 : decode method_2_code 9 = .ok (.lsub, 1) := by decide +kernel
theorem d2_10 : decode method_2_code 10 = .ok (.lmul, 1) := by decide +kernel
theorem d2_11 : decode method_2_code 11 = .ok (.lstore_n 2, 1) := by decide +kernel
theorem d2_12 : decode method_2_code 12 = .ok (.lload_n 2, 1) := by decide +kernel
theorem d2_13 : decode method_2_code 13 = .ok (.ldc2_w 7, 3) := by decide +kernel
theorem d2_16 : decode method_2_code 16 = .ok (.lload_n 0, 1) := by decide +kernel
theorem d2_17 : decode method_2_code 17 = .ok (.lload_n 2, 1) := by decide +kernel
theorem d2_18 : decode method_2_code 18 = .ok (.lmul, 1) := by decide +kernel
theorem d2_19 : decode method_2_code 19 = .ok (.lsub, 1) := by decide +kernel
theorem d2_20 : decode method_2_code 20 = .ok (.lmul, 1) := by decide +kernel
theorem d2_21 : decode method_2_code 21 = .ok (.lstore_n 2, 1) := by decide +kernel
theorem d2_22 : decode method_2_code 22 = .ok (.lload_n 2, 1) := by decide +kernel
theorem d2_23 : decode method_2_code 23 = .ok (.ldc2_w 7, 3) := by decide +kernel
theorem d2_26 : decode method_2_code 26 = .ok (.lload_n 0, 1) := by decide +kernel
theorem d2_27 : decode method_2_code 27 = .ok (.lload_n 2, 1) := by decide +kernel
theorem d2_28 : decode method_2_code 28 = .ok (.lmul, 1) := by decide +kernel
theorem d2_29 : decode method_2_code 29 = .ok (.lsub, 1) := by decide +kernel
theorem d2_30 : decode method_2_code 30 = .ok (.lmul, 1) := by decide +kernel
theorem d2_31 : decode method_2_code 31 = .ok (.lstore_n 2, 1) := by decide +kernel
theorem d2_32 : decode method_2_code 32 = .ok (.lload_n 2, 1) := by decide +kernel
theorem d2_33 : decode method_2_code 33 = .ok (.ldc2_w 7, 3) := by decide +kernel
theorem d2_36 : decode method_2_code 36 = .ok (.lload_n 0, 1) := by decide +kernel
theorem d2_37 : decode method_2_code 37 = .ok (.lload_n 2, 1) := by decide +kernel
theorem d2_38 : decode method_2_code 38 = .ok (.lmul, 1) := by decide +kernel
theorem d2_39 : decode method_2_code 39 = .ok (.lsub, 1) := by decide +kernel
theorem d2_40 : decode method_2_code 40 = .ok (.lmul, 1) := by decide +kernel
theorem d2_41 : decode method_2_code 41 = .ok (.lstore_n 2, 1) := by decide +kernel
theorem d2_42 : decode method_2_code 42 = .ok (.lload_n 2, 1) := by decide +kernel
theorem d2_43 : decode method_2_code 43 = .ok (.ldc2_w 7, 3) := by decide +kernel
theorem d2_46 : decode method_2_code 46 = .ok (.lload_n 0, 1) := by decide +kernel
theorem d2_47 : decode method_2_code 47 = .ok (.lload_n 2, 1) := by decide +kernel
theorem d2_48 : decode method_2_code 48 = .ok (.lmul, 1) := by decide +kernel
theorem d2_49 : decode method_2_code 49 = .ok (.lsub, 1) := by decide +kernel
theorem d2_50 : decode method_2_code 50 = .ok (.lmul, 1) := by decide +kernel
theorem d2_51 : decode method_2_code 51 = .ok (.lstore_n 2, 1) := by decide +kernel
theorem d2_52 : decode method_2_code 52 = .ok (.lload_n 2, 1) := by decide +kernel
theorem d2_53 : decode method_2_code 53 = .ok (.lreturn, 1) := by decide +kernel
theorem pn_2 : plainName "com/example/ananke/ananke/hash/Murmur3Fmix64PinLaw" = true := by first | (simp [plainName, overriddenIn]; done) | decide +kernel
theorem ef_2 (m : MethodId) (y0 : Int64) : entryFrame m #[(.long y0)] 4 = mkF m 0 #[.val (.long y0), .second, .unset, .unset] [] := by first | rfl | (simp [entryFrame, mkF, argsToLocals, Value.category]; done)
def Q2 (Z : State)   (h0 : Heap) (n0 : Nat) (ans : Int64) (v : Option Value) (h : Heap) (L : List Loc) : Prop := v = some (.long ans) ∧ Fr n0 L ∧ h = h0
set_option maxRecDepth 65536 in
set_option maxHeartbeats 40000000 in
theorem rm2 (l : Launch) (Z : State) (a0 : Array Value) (hw : ∀ d ∈ tables_1, d.before a0 Z = true) (p0 : Int64)  (h0 : Heap) (n0 : Nat) (Z0 : n0 ≤ h0.size)  :
    Meets l Z (⟨"com/example/ananke/ananke/hash/Murmur3Fmix64PinLaw", "inverse", "(J)J"⟩ : MethodName) method_2_code 4 (some .long) [] ({ frames := 0, cells := 0, slots := 0, locals := 0 } : Room) #[(.long p0)] h0 (Q2 Z  h0 n0 (F2 p0)) 0 0 := by
  refine Meets.of pn_2 ?_
  intro p e s m below meth c s₁ hx hby hml hZ hown hnm hret hlk X0 e0
  have hml : c.maxLocals = 4 := hml
  have hown : s.vm.findClass "com/example/ananke/ananke/hash/Murmur3Fmix64PinLaw" = some m.cls := hown
  have N0 := Fr.nil n0
  have b52 : ∀ (T : State) (L : List Loc) (X : Stand p l e ({ frames := 0, cells := 0, slots := 0, locals := 0 } : Room) s m #[(.long p0)] below meth c T L 0 0) (eT : T.heap = h0) (N : Fr n0 L) (x2 : Int64) (z0 : Int64), Ends p e below s 0 0 (Q2 Z  h0 n0 (F2_52 x2)) (T.setTop (mkF m 52 #[.val (.long z0), .second, .val (.long x2), .second] [])) := by
    intro T L X eT N x2 z0
    refine Ends.step (u' := (T.setTop (mkF m 53 #[.val (.long z0), .second, .val (.long x2), .second] [(.long x2)]))) ?_ (fun _ k => XT.lloadN X.here hx rfl (hb hby d2_52) rfl k)
    exact Ends.ret X (v := some (.long x2)) (fun q => by rw [hret] at q; cases q) hlk (fun fs hr => X.lreturnOut hx hret (hb hby d2_53) hr) (by decide) (by decide) ⟨rfl, N, eT⟩
  have b42 : ∀ (T : State) (L : List Loc) (X : Stand p l e ({ frames := 0, cells := 0, slots := 0, locals := 0 } : Room) s m #[(.long p0)] below meth c T L 0 0) (eT : T.heap = h0) (N : Fr n0 L) (x0 : Int64) (x2 : Int64), Ends p e below s 0 0 (Q2 Z  h0 n0 (F2_42 x0 x2)) (T.setTop (mkF m 42 #[.val (.long x0), .second, .val (.long x2), .second] [])) := by
    intro T L X eT N x0 x2
    refine Ends.step (u' := (T.setTop (mkF m 43 #[.val (.long x0), .second, .val (.long x2), .second] [(.long x2)]))) ?_ (fun _ k => XT.lloadN X.here hx rfl (hb hby d2_42) rfl k)
    refine Ends.step (u' := (T.setTop (mkF m 46 #[.val (.long x0), .second, .val (.long x2), .second] [(.long (2 : Int64)), (.long x2)]))) ?_ (fun _ k => X.ldc2J hx hown (mvT hZ (hw _ (List.mem_of_getElem? (i := 11) rfl))) rfl (hb hby d2_43) k)
    refine Ends.step (u' := (T.setTop (mkF m 47 #[.val (.long x0), .second, .val (.long x2), .second] [(.long x0), (.long (2 : Int64)), (.long x2)]))) ?_ (fun _ k => XT.lloadN X.here hx rfl (hb hby d2_46) rfl k)
    refine Ends.step (u' := (T.setTop (mkF m 48 #[.val (.long x0), .second, .val (.long x2), .second] [(.long x2), (.long x0), (.long (2 : Int64)), (.long x2)]))) ?_ (fun _ k => XT.lloadN X.here hx rfl (hb hby d2_47) rfl k)
    refine Ends.step (u' := (T.setTop (mkF m 49 #[.val (.long x0), .second, .val (.long x2), .second] [(.long (x0 * x2)), (.long (2 : Int64)), (.long x2)]))) ?_ (fun _ k => XT.lmul X.here hx rfl (hb hby d2_48) rfl k)
    refine Ends.step (u' := (T.setTop (mkF m 50 #[.val (.long x0), .second, .val (.long x2), .second] [(.long ((2 : Int64) - (x0 * x2))), (.long x2)]))) ?_ (fun _ k => XT.lsub X.here hx rfl (hb hby d2_49) rfl k)
    refine Ends.step (u' := (T.setTop (mkF m 51 #[.val (.long x0), .second, .val (.long x2), .second] [(.long (x2 * ((2 : Int64) - (x0 * x2))))]))) ?_ (fun _ k => XT.lmul X.here hx rfl (hb hby d2_50) rfl k)
    refine Ends.step (u' := (T.setTop (mkF m 52 #[.val (.long x0), .second, .val (.long (x2 * ((2 : Int64) - (x0 * x2)))), .second] []))) ?_ (fun _ k => XT.lstoreN X.here hx rfl (hb hby d2_51) rfl (l' := #[.val (.long x0), .second, .val (.long (x2 * ((2 : Int64) - (x0 * x2)))), .second]) rfl k)
    exact b52 T _ X eT N (x2 * ((2 : Int64) - (x0 * x2))) x0
  have b32 : ∀ (T : State) (L : List Loc) (X : Stand p l e ({ frames := 0, cells := 0, slots := 0, locals := 0 } : Room) s m #[(.long p0)] below meth c T L 0 0) (eT : T.heap = h0) (N : Fr n0 L) (x0 : Int64) (x2 : Int64), Ends p e below s 0 0 (Q2 Z  h0 n0 (F2_32 x0 x2)) (T.setTop (mkF m 32 #[.val (.long x0), .second, .val (.long x2), .second] [])) := by
    intro T L X eT N x0 x2
    refine Ends.step (u' := (T.setTop (mkF m 33 #[.val (.long x0), .second, .val (.long x2), .second] [(.long x2)]))) ?_ (fun _ k => XT.lloadN X.here hx rfl (hb hby d2_32) rfl k)
    refine Ends.step (u' := (T.setTop (mkF m 36 #[.val (.long x0), .second, .val (.long x2), .second] [(.long (2 : Int64)), (.long x2)]))) ?_ (fun _ k => X.ldc2J hx hown (mvT hZ (hw _ (List.mem_of_getElem? (i := 11) rfl))) rfl (hb hby d2_33) k)
    refine Ends.step (u' := (T.setTop (mkF m 37 #[.val (.long x0), .second, .val (.long x2), .second] [(.long x0), (.long (2 : Int64)), (.long x2)]))) ?_ (fun _ k => XT.lloadN X.here hx rfl (hb hby d2_36) rfl k)
    refine Ends.step (u' := (T.setTop (mkF m 38 #[.val (.long x0), .second, .val (.long x2), .second] [(.long x2), (.long x0), (.long (2 : Int64)), (.long x2)]))) ?_ (fun _ k => XT.lloadN X.here hx rfl (hb hby d2_37) rfl k)
    refine Ends.step (u' := (T.setTop (mkF m 39 #[.val (.long x0), .second, .val (.long x2), .second] [(.long (x0 * x2)), (.long (2 : Int64)), (.long x2)]))) ?_ (fun _ k => XT.lmul X.here hx rfl (hb hby d2_38) rfl k)
    refine Ends.step (u' := (T.setTop (mkF m 40 #[.val (.long x0), .second, .val (.long x2), .second] [(.long ((2 : Int64) - (x0 * x2))), (.long x2)]))) ?_ (fun _ k => XT.lsub X.here hx rfl (hb hby d2_39) rfl k)
    refine Ends.step (u' := (T.setTop (mkF m 41 #[.val (.long x0), .second, .val (.long x2), .second] [(.long (x2 * ((2 : Int64) - (x0 * x2))))]))) ?_ (fun _ k => XT.lmul X.here hx rfl (hb hby d2_40) rfl k)
    refine Ends.step (u' := (T.setTop (mkF m 42 #[.val (.long x0), .second, .val (.long (x2 * ((2 : Int64) - (x0 * x2)))), .second] []))) ?_ (fun _ k => XT.lstoreN X.here hx rfl (hb hby d2_41) rfl (l' := #[.val (.long x0), .second, .val (.long (x2 * ((2 : Int64) - (x0 * x2)))), .second]) rfl k)
    exact b42 T _ X eT N x0 (x2 * ((2 : Int64) - (x0 * x2)))
  have b22 : ∀ (T : State) (L : List Loc) (X : Stand p l e ({ frames := 0, cells := 0, slots := 0, locals := 0 } : Room) s m #[(.long p0)] below meth c T L 0 0) (eT : T.heap = h0) (N : Fr n0 L) (x0 : Int64) (x2 : Int64), Ends p e below s 0 0 (Q2 Z  h0 n0 (F2_22 x0 x2)) (T.setTop (mkF m 22 #[.val (.long x0), .second, .val (.long x2), .second] [])) := by
    intro T L X eT N x0 x2
    refine Ends.step (u' := (T.setTop (mkF m 23 #[.val (.long x0), .second, .val (.long x2), .second] [(.long x2)]))) ?_ (fun _ k => XT.lloadN X.here hx rfl (hb hby d2_22) rfl k)
    refine Ends.step (u' := (T.setTop (mkF m 26 #[.val (.long x0), .second, .val (.long x2), .second] [(.long (2 : Int64)), (.long x2)]))) ?_ (fun _ k => X.ldc2J hx hown (mvT hZ (hw _ (List.mem_of_getElem? (i := 11) rfl))) rfl (hb hby d2_23) k)
    refine Ends.step (u' := (T.setTop (mkF m 27 #[.val (.long x0), .second, .val (.long x2), .second] [(.long x0), (.long (2 : Int64)), (.long x2)]))) ?_ (fun _ k => XT.lloadN X.here hx rfl (hb hby d2_26) rfl k)
    refine Ends.step (u' := (T.setTop (mkF m 28 #[.val (.long x0), .second, .val (.long x2), .second] [(.long x2), (.long x0), (.long (2 : Int64)), (.long x2)]))) ?_ (fun _ k => XT.lloadN X.here hx rfl (hb hby d2_27) rfl k)
    refine Ends.step (u' := (T.setTop (mkF m 29 #[.val (.long x0), .second, .val (.long x2), .second] [(.long (x0 * x2)), (.long (2 : Int64)), (.long x2)]))) ?_ (fun _ k => XT.lmul X.here hx rfl (hb hby d2_28) rfl k)
    refine Ends.step (u' := (T.setTop (mkF m 30 #[.val (.long x0), .second, .val (.long x2), .second] [(.long ((2 : Int64) - (x0 * x2))), (.long x2)]))) ?_ (fun _ k => XT.lsub X.here hx rfl (hb hby d2_29) rfl k)
    refine Ends.step (u' := (T.setTop (mkF m 31 #[.val (.long x0), .second, .val (.long x2), .second] [(.long (x2 * ((2 : Int64) - (x0 * x2))))]))) ?_ (fun _ k => XT.lmul X.here hx rfl (hb hby d2_30) rfl k)
    refine Ends.step (u' := (T.setTop (mkF m 32 #[.val (.long x0), .second, .val (.long (x2 * ((2 : Int64) - (x0 * x2)))), .second] []))) ?_ (fun _ k => XT.lstoreN X.here hx rfl (hb hby d2_31) rfl (l' := #[.val (.long x0), .second, .val (.long (x2 * ((2 : Int64) - (x0 * x2)))), .second]) rfl k)
    exact b32 T _ X eT N x0 (x2 * ((2 : Int64) - (x0 * x2)))
  have b12 : ∀ (T : State) (L : List Loc) (X : Stand p l e ({ frames := 0, cells := 0, slots := 0, locals := 0 } : Room) s m #[(.long p0)] below meth c T L 0 0) (eT : T.heap = h0) (N : Fr n0 L) (x0 : Int64) (x2 : Int64), Ends p e below s 0 0 (Q2 Z  h0 n0 (F2_12 x0 x2)) (T.setTop (mkF m 12 #[.val (.long x0), .second, .val (.long x2), .second] [])) := by
    intro T L X eT N x0 x2
    refine Ends.step (u' := (T.setTop (mkF m 13 #[.val (.long x0), .second, .val (.long x2), .second] [(.long x2)]))) ?_ (fun _ k => XT.lloadN X.here hx rfl (hb hby d2_12) rfl k)
    refine Ends.step (u' := (T.setTop (mkF m 16 #[.val (.long x0), .second, .val (.long x2), .second] [(.long (2 : Int64)), (.long x2)]))) ?_ (fun _ k => X.ldc2J hx hown (mvT hZ (hw _ (List.mem_of_getElem? (i := 11) rfl))) rfl (hb hby d2_13) k)
    refine Ends.step (u' := (T.setTop (mkF m 17 #[.val (.long x0), .second, .val (.long x2), .second] [(.long x0), (.long (2 : Int64)), (.long x2)]))) ?_ (fun _ k => XT.lloadN X.here hx rfl (hb hby d2_16) rfl k)
    refine Ends.step (u' := (T.setTop (mkF m 18 #[.val (.long x0), .second, .val (.long x2), .second] [(.long x2), (.long x0), (.long (2 : Int64)), (.long x2)]))) ?_ (fun _ k => XT.lloadN X.here hx rfl (hb hby d2_17) rfl k)
    refine Ends.step (u' := (T.setTop (mkF m 19 #[.val (.long x0), .second, .val (.long x2), .second] [(.long (x0 * x2)), (.long (2 : Int64)), (.long x2)]))) ?_ (fun _ k => XT.lmul X.here hx rfl (hb hby d2_18) rfl k)
    refine Ends.step (u' := (T.setTop (mkF m 20 #[.val (.long x0), .second, .val (.long x2), .second] [(.long ((2 : Int64) - (x0 * x2))), (.long x2)]))) ?_ (fun _ k => XT.lsub X.here hx rfl (hb hby d2_19) rfl k)
    refine Ends.step (u' := (T.setTop (mkF m 21 #[.val (.long x0), .second, .val (.long x2), .second] [(.long (x2 * ((2 : Int64) - (x0 * x2))))]))) ?_ (fun _ k => XT.lmul X.here hx rfl (hb hby d2_20) rfl k)
    refine Ends.step (u' := (T.setTop (mkF m 22 #[.val (.long x0), .second, .val (.long (x2 * ((2 : Int64) - (x0 * x2)))), .second] []))) ?_ (fun _ k => XT.lstoreN X.here hx rfl (hb hby d2_21) rfl (l' := #[.val (.long x0), .second, .val (.long (x2 * ((2 : Int64) - (x0 * x2)))), .second]) rfl k)
    exact b22 T _ X eT N x0 (x2 * ((2 : Int64) - (x0 * x2)))
  refine Ends.step (u' := (s₁.setTop (mkF m 0 #[.val (.long p0), .second, .unset, .unset] []))) ?_ (fun _ k => castTop (ef_2 m p0) k)
  refine Ends.step (u' := (s₁.setTop (mkF m 1 #[.val (.long p0), .second, .unset, .unset] [(.long p0)]))) ?_ (fun _ k => XT.lloadN X0.here hx rfl (hb hby d2_0) rfl k)
  refine Ends.step (u' := (s₁.setTop (mkF m 2 #[.val (.long p0), .second, .val (.long p0), .second] []))) ?_ (fun _ k => XT.lstoreN X0.here hx rfl (hb hby d2_1) rfl (l' := #[.val (.long p0), .second, .val (.long p0), .second]) rfl k)
  refine Ends.step (u' := (s₁.setTop (mkF m 3 #[.val (.long p0), .second, .val (.long p0), .second] [(.long p0)]))) ?_ (fun _ k => XT.lloadN X0.here hx rfl (hb hby d2_2) rfl k)
  refine Ends.step (u' := (s₁.setTop (mkF m 6 #[.val (.long p0), .second, .val (.long p0), .second] [(.long (2 : Int64)), (.long p0)]))) ?_ (fun _ k => X0.ldc2J hx hown (mvT hZ (hw _ (List.mem_of_getElem? (i := 11) rfl))) rfl (hb hby d2_3) k)
  refine Ends.step (u' := (s₁.setTop (mkF m 7 #[.val (.long p0), .second, .val (.long p0), .second] [(.long p0), (.long (2 : Int64)), (.long p0)]))) ?_ (fun _ k => XT.lloadN X0.here hx rfl (hb hby d2_6) rfl k)
  refine Ends.step (u' := (s₁.setTop (mkF m 8 #[.val (.long p0), .second, .val (.long p0), .second] [(.long p0), (.long p0), (.long (2 : Int64)), (.long p0)]))) ?_ (fun _ k => XT.lloadN X0.here hx rfl (hb hby d2_7) rfl k)
  refine Ends.step (u' := (s₁.setTop (mkF m 9 #[.val (.long p0), .second, .val (.long p0), .second] [(.long (p0 * p0)), (.long (2 : Int64)), (.long p0)]))) ?_ (fun _ k => XT.lmul X0.here hx rfl (hb hby d2_8) rfl k)
  refine Ends.step (u' := (s₁.setTop (mkF m 10 #[.val (.long p0), .second, .val (.long p0), .second] [(.long ((2 : Int64) - (p0 * p0))), (.long p0)]))) ?_ (fun _ k => XT.lsub X0.here hx rfl (hb hby d2_9) rfl k)
  refine Ends.step (u' := (s₁.setTop (mkF m 11 #[.val (.long p0), .second, .val (.long p0), .second] [(.long (p0 * ((2 : Int64) - (p0 * p0))))]))) ?_ (fun _ k => XT.lmul X0.here hx rfl (hb hby d2_10) rfl k)
  refine Ends.step (u' := (s₁.setTop (mkF m 12 #[.val (.long p0), .second, .val (.long (p0 * ((2 : Int64) - (p0 * p0)))), .second] []))) ?_ (fun _ k => XT.lstoreN X0.here hx rfl (hb hby d2_11) rfl (l' := #[.val (.long p0), .second, .val (.long (p0 * ((2 : Int64) - (p0 * p0)))), .second]) rfl k)
  exact b12 s₁ _ X0 e0 N0 p0 (p0 * ((2 : Int64) - (p0 * p0)))
theorem pn_0 : plainName "com/example/ananke/ananke/hash/Murmur3Fmix64PinLaw" = true := by first | (simp [plainName, overriddenIn]; done) | decide +kernel
theorem ef_0 (m : MethodId) (y0 : Int64) : entryFrame m #[(.long y0)] maxLocals = mkF m 0 #[.val (.long y0), .second, .unset, .unset, .unset, .unset] [] := by first | rfl | (simp [entryFrame, mkF, argsToLocals, Value.category, maxLocals]; done)
def Q0 (Z : State)   (h0 : Heap) (n0 : Nat) (ans : Int32) (v : Option Value) (h : Heap) (L : List Loc) : Prop := v = some (.int ans) ∧ Fr n0 L
set_option maxRecDepth 65536 in
set_option maxHeartbeats 40000000 in
theorem rm0 (l : Launch) (Z : State) (a0 : Array Value) (hw : ∀ d ∈ tables_1, d.before a0 Z = true) (p0 : Int64)  (h0 : Heap) (n0 : Nat) (Z0 : n0 ≤ h0.size)  :
    Meets l Z x code maxLocals ret tables_1 room_1 #[(.long p0)] h0 (Q0 Z  h0 n0 (F0 p0)) 0 0 := by
  refine Meets.of pn_0 ?_
  intro p e s m below meth c s₁ hx hby hml hZ hown hnm hret hlk X0 e0
  have hml : c.maxLocals = 6 := hml
  have hown : s.vm.findClass "com/example/ananke/ananke/hash/Murmur3Fmix64PinLaw" = some m.cls := hown
  have N0 := Fr.nil n0
  have b72 : ∀ (T : State) (L : List Loc) (X : Stand p l e room_1 s m #[(.long p0)] below meth c T L 0 0) (eT : T.heap = h0) (N : Fr n0 L) (t0 : Int32) (z0 : Int64) (z2 : Int64) (z4 : Int64), Ends p e below s 0 0 (Q0 Z  h0 n0 (F0_72 t0)) (T.setTop (mkF m 72 #[.val (.long z0), .second, .val (.long z2), .second, .val (.long z4), .second] [(.int t0)])) := by
    intro T L X eT N t0 z0 z2 z4
    exact Ends.ret X (v := some (.int (nar .boolean t0))) (fun q => by rw [hret] at q; cases q) hlk (fun fs hr => retN X hx (t := .boolean) hret (by simp) (hb hby at_72) hr) (by decide) (by decide) ⟨rfl, N⟩
  have b67 : ∀ (T : State) (L : List Loc) (X : Stand p l e room_1 s m #[(.long p0)] below meth c T L 0 0) (eT : T.heap = h0) (N : Fr n0 L) (z0 : Int64) (z2 : Int64) (z4 : Int64), Ends p e below s 0 0 (Q0 Z  h0 n0 F0_67) (T.setTop (mkF m 67 #[.val (.long z0), .second, .val (.long z2), .second, .val (.long z4), .second] [])) := by
    intro T L X eT N z0 z2 z4
    refine Ends.step (u' := (T.setTop (mkF m 68 #[.val (.long z0), .second, .val (.long z2), .second, .val (.long z4), .second] [(.int (1 : Int32))]))) ?_ (fun _ k => XT.iconstV X.here hx rfl (1 : Int32) (hb hby at_67) rfl k)
    refine Ends.step (u' := (T.setTop (mkF m 72 #[.val (.long z0), .second, .val (.long z2), .second, .val (.long z4), .second] [(.int (1 : Int32))]))) ?_ (fun _ k => XS.goto X.here hx rfl (pc0 := 68) (pc' := 72) rfl (hb hby at_68) (by decide) (by decide) k)
    exact b72 T _ X eT N (1 : Int32) z0 z2 z4
  have b71 : ∀ (T : State) (L : List Loc) (X : Stand p l e room_1 s m #[(.long p0)] below meth c T L 0 0) (eT : T.heap = h0) (N : Fr n0 L) (z0 : Int64) (z2 : Int64) (z4 : Int64), Ends p e below s 0 0 (Q0 Z  h0 n0 F0_71) (T.setTop (mkF m 71 #[.val (.long z0), .second, .val (.long z2), .second, .val (.long z4), .second] [])) := by
    intro T L X eT N z0 z2 z4
    refine Ends.step (u' := (T.setTop (mkF m 72 #[.val (.long z0), .second, .val (.long z2), .second, .val (.long z4), .second] [(.int (0 : Int32))]))) ?_ (fun _ k => XT.iconstV X.here hx rfl (0 : Int32) (hb hby at_71) rfl k)
    exact b72 T _ X eT N (0 : Int32) z0 z2 z4
  have b60 : ∀ (T : State) (L : List Loc) (X : Stand p l e room_1 s m #[(.long p0)] below meth c T L 0 0) (eT : T.heap = h0) (N : Fr n0 L) (x0 : Int64) (x4 : Int64) (z2 : Int64), Ends p e below s 0 0 (Q0 Z  h0 n0 (F0_60 x0 x4)) (T.setTop (mkF m 60 #[.val (.long x0), .second, .val (.long z2), .second, .val (.long x4), .second] [])) := by
    intro T L X eT N x0 x4 z2
    refine Ends.step (u' := (T.setTop (mkF m 62 #[.val (.long x0), .second, .val (.long z2), .second, .val (.long x4), .second] [(.long x4)]))) ?_ (fun _ k => XT.lload X.here hx rfl (hb hby at_60) rfl k)
    refine Ends.step (u' := (T.setTop (mkF m 63 #[.val (.long x0), .second, .val (.long z2), .second, .val (.long x4), .second] [(.long x0), (.long x4)]))) ?_ (fun _ k => XT.lloadN X.here hx rfl (hb hby at_62) rfl k)
    refine Ends.step (u' := (T.setTop (mkF m 64 #[.val (.long x0), .second, .val (.long z2), .second, .val (.long x4), .second] [(.int (XT.cmpL x4 x0))]))) ?_ (fun _ k => XT.lcmp X.here hx rfl (hb hby at_63) rfl k)
    by_cases hc64 : x4 = x0
    · refine Eq.mp (congrArg (fun z => Ends p e below s 0 0 (Q0 Z  h0 n0 z) (T.setTop (mkF m 64 #[.val (.long x0), .second, .val (.long z2), .second, .val (.long x4), .second] [(.int (XT.cmpL x4 x0))]))) (show (F0_60 x0 x4) = F0_67 from (if_pos hc64)).symm) ?_
      refine Ends.step (u' := (T.setTop (mkF m 67 #[.val (.long x0), .second, .val (.long z2), .second, .val (.long x4), .second] []))) ?_ (fun _ k => XS.ifNo X.here hx rfl (hb hby at_64) rfl (XT.ll_ne_f hc64) k)
      exact b67 T _ X eT N x0 z2 x4
    · refine Eq.mp (congrArg (fun z => Ends p e below s 0 0 (Q0 Z  h0 n0 z) (T.setTop (mkF m 64 #[.val (.long x0), .second, .val (.long z2), .second, .val (.long x4), .second] [(.int (XT.cmpL x4 x0))]))) (show (F0_60 x0 x4) = F0_71 from (if_neg hc64)).symm) ?_
      refine Ends.step (u' := (T.setTop (mkF m 71 #[.val (.long x0), .second, .val (.long z2), .second, .val (.long x4), .second] []))) ?_ (fun _ k => XS.ifYes X.here hx rfl (pc0 := 64) (pc' := 71) rfl (hb hby at_64) rfl (XT.ll_ne_t hc64) (by decide) (by decide) k)
      exact b71 T _ X eT N x0 z2 x4
  have b50 : ∀ (T : State) (L : List Loc) (X : Stand p l e room_1 s m #[(.long p0)] below meth c T L 0 0) (eT : T.heap = h0) (N : Fr n0 L) (x0 : Int64) (x4 : Int64) (z2 : Int64), Ends p e below s 0 0 (Q0 Z  h0 n0 (F0_50 x0 x4)) (T.setTop (mkF m 50 #[.val (.long x0), .second, .val (.long z2), .second, .val (.long x4), .second] [])) := by
    intro T L X eT N x0 x4 z2
    refine Ends.step (u' := (T.setTop (mkF m 52 #[.val (.long x0), .second, .val (.long z2), .second, .val (.long x4), .second] [(.long x4)]))) ?_ (fun _ k => XT.lload X.here hx rfl (hb hby at_50) rfl k)
    refine Ends.step (u' := (T.setTop (mkF m 54 #[.val (.long x0), .second, .val (.long z2), .second, .val (.long x4), .second] [(.long x4), (.long x4)]))) ?_ (fun _ k => XT.lload X.here hx rfl (hb hby at_52) rfl k)
    refine Ends.step (u' := (T.setTop (mkF m 56 #[.val (.long x0), .second, .val (.long z2), .second, .val (.long x4), .second] [(.int (33 : Int32)), (.long x4), (.long x4)]))) ?_ (fun _ k => XT.bipushV X.here hx rfl (33 : Int32) (hb hby at_54) rfl k)
    refine Ends.step (u' := (T.setTop (mkF m 57 #[.val (.long x0), .second, .val (.long z2), .second, .val (.long x4), .second] [(.long (XT.ushrL x4 (33 : Int32))), (.long x4)]))) ?_ (fun _ k => XT.lushr X.here hx rfl (hb hby at_56) rfl k)
    refine Ends.step (u' := (T.setTop (mkF m 58 #[.val (.long x0), .second, .val (.long z2), .second, .val (.long x4), .second] [(.long (x4 ^^^ (XT.ushrL x4 (33 : Int32))))]))) ?_ (fun _ k => XT.lxor X.here hx rfl (hb hby at_57) rfl k)
    refine Ends.step (u' := (T.setTop (mkF m 60 #[.val (.long x0), .second, .val (.long z2), .second, .val (.long (x4 ^^^ (XT.ushrL x4 (33 : Int32)))), .second] []))) ?_ (fun _ k => XT.lstore X.here hx rfl (hb hby at_58) rfl (l' := #[.val (.long x0), .second, .val (.long z2), .second, .val (.long (x4 ^^^ (XT.ushrL x4 (33 : Int32)))), .second]) rfl k)
    exact b60 T _ X eT N x0 (x4 ^^^ (XT.ushrL x4 (33 : Int32))) z2
  have b39 : ∀ (T : State) (L : List Loc) (X : Stand p l e room_1 s m #[(.long p0)] below meth c T L 0 0) (eT : T.heap = h0) (N : Fr n0 L) (x0 : Int64) (x4 : Int64) (z2 : Int64), Ends p e below s 0 0 (Q0 Z  h0 n0 (F0_39 x0 x4)) (T.setTop (mkF m 39 #[.val (.long x0), .second, .val (.long z2), .second, .val (.long x4), .second] [])) := by
    intro T L X eT N x0 x4 z2
    refine Ends.step (u' := (T.setTop (mkF m 41 #[.val (.long x0), .second, .val (.long z2), .second, .val (.long x4), .second] [(.long x4)]))) ?_ (fun _ k => XT.lload X.here hx rfl (hb hby at_39) rfl k)
    refine Ends.step (u' := (T.setTop (mkF m 44 #[.val (.long x0), .second, .val (.long z2), .second, .val (.long x4), .second] [(.long (-49064778989728563 : Int64)), (.long x4)]))) ?_ (fun _ k => X.ldc2J hx hown (mvT hZ (hw _ (List.mem_of_getElem? (i := 12) rfl))) rfl (hb hby at_41) k)
    refine Ends.callS X hx hZ hown (hw _ (List.mem_of_getElem? (i := 7) rfl)) (hw _ (List.mem_of_getElem? (i := 8) rfl)) (hw _ (List.mem_of_getElem? (i := 9) rfl)) (hw _ (List.mem_of_getElem? (i := 10) rfl)) (by decide) (rm2 l Z a0 hw (-49064778989728563 : Int64) h0 n0 Z0) 2 (by decide) (by decide) eT  (g := (mkF m 44 #[.val (.long x0), .second, .val (.long z2), .second, .val (.long x4), .second] [(.long (-49064778989728563 : Int64)), (.long x4)])) rfl (by rw [hml]; rfl)  [(.long (-49064778989728563 : Int64))] [(.long x4)] (lenOf pd_0 rfl) rfl (by show 2 * 0 + _ ≤ _; exact Nat.le_of_eq rfl) (hb hby at_44) rfl (by decide) (by decide) (fun v1 T1 L1 X1 hQ1 => ?_)
    obtain ⟨rfl, Nq1, e1⟩ := hQ1
    have N1 := Fr.app N Nq1
    show Ends p e below s _ _ _ (T1.setTop (mkF m 47 #[.val (.long x0), .second, .val (.long z2), .second, .val (.long x4), .second] [(.long (F2 (-49064778989728563 : Int64))), (.long x4)]))
    refine Ends.step (u' := (T1.setTop (mkF m 48 #[.val (.long x0), .second, .val (.long z2), .second, .val (.long x4), .second] [(.long (x4 * (F2 (-49064778989728563 : Int64))))]))) ?_ (fun _ k => XT.lmul X1.here hx rfl (hb hby at_47) rfl k)
    refine Ends.step (u' := (T1.setTop (mkF m 50 #[.val (.long x0), .second, .val (.long z2), .second, .val (.long (x4 * (F2 (-49064778989728563 : Int64)))), .second] []))) ?_ (fun _ k => XT.lstore X1.here hx rfl (hb hby at_48) rfl (l' := #[.val (.long x0), .second, .val (.long z2), .second, .val (.long (x4 * (F2 (-49064778989728563 : Int64)))), .second]) rfl k)
    exact b50 T1 _ X1 e1 N1 x0 (x4 * (F2 (-49064778989728563 : Int64))) z2
  have b29 : ∀ (T : State) (L : List Loc) (X : Stand p l e room_1 s m #[(.long p0)] below meth c T L 0 0) (eT : T.heap = h0) (N : Fr n0 L) (x0 : Int64) (x4 : Int64) (z2 : Int64), Ends p e below s 0 0 (Q0 Z  h0 n0 (F0_29 x0 x4)) (T.setTop (mkF m 29 #[.val (.long x0), .second, .val (.long z2), .second, .val (.long x4), .second] [])) := by
    intro T L X eT N x0 x4 z2
    refine Ends.step (u' := (T.setTop (mkF m 31 #[.val (.long x0), .second, .val (.long z2), .second, .val (.long x4), .second] [(.long x4)]))) ?_ (fun _ k => XT.lload X.here hx rfl (hb hby at_29) rfl k)
    refine Ends.step (u' := (T.setTop (mkF m 33 #[.val (.long x0), .second, .val (.long z2), .second, .val (.long x4), .second] [(.long x4), (.long x4)]))) ?_ (fun _ k => XT.lload X.here hx rfl (hb hby at_31) rfl k)
    refine Ends.step (u' := (T.setTop (mkF m 35 #[.val (.long x0), .second, .val (.long z2), .second, .val (.long x4), .second] [(.int (33 : Int32)), (.long x4), (.long x4)]))) ?_ (fun _ k => XT.bipushV X.here hx rfl (33 : Int32) (hb hby at_33) rfl k)
    refine Ends.step (u' := (T.setTop (mkF m 36 #[.val (.long x0), .second, .val (.long z2), .second, .val (.long x4), .second] [(.long (XT.ushrL x4 (33 : Int32))), (.long x4)]))) ?_ (fun _ k => XT.lushr X.here hx rfl (hb hby at_35) rfl k)
    refine Ends.step (u' := (T.setTop (mkF m 37 #[.val (.long x0), .second, .val (.long z2), .second, .val (.long x4), .second] [(.long (x4 ^^^ (XT.ushrL x4 (33 : Int32))))]))) ?_ (fun _ k => XT.lxor X.here hx rfl (hb hby at_36) rfl k)
    refine Ends.step (u' := (T.setTop (mkF m 39 #[.val (.long x0), .second, .val (.long z2), .second, .val (.long (x4 ^^^ (XT.ushrL x4 (33 : Int32)))), .second] []))) ?_ (fun _ k => XT.lstore X.here hx rfl (hb hby at_37) rfl (l' := #[.val (.long x0), .second, .val (.long z2), .second, .val (.long (x4 ^^^ (XT.ushrL x4 (33 : Int32)))), .second]) rfl k)
    exact b39 T _ X eT N x0 (x4 ^^^ (XT.ushrL x4 (33 : Int32))) z2
  have b18 : ∀ (T : State) (L : List Loc) (X : Stand p l e room_1 s m #[(.long p0)] below meth c T L 0 0) (eT : T.heap = h0) (N : Fr n0 L) (x0 : Int64) (x4 : Int64) (z2 : Int64), Ends p e below s 0 0 (Q0 Z  h0 n0 (F0_18 x0 x4)) (T.setTop (mkF m 18 #[.val (.long x0), .second, .val (.long z2), .second, .val (.long x4), .second] [])) := by
    intro T L X eT N x0 x4 z2
    refine Ends.step (u' := (T.setTop (mkF m 20 #[.val (.long x0), .second, .val (.long z2), .second, .val (.long x4), .second] [(.long x4)]))) ?_ (fun _ k => XT.lload X.here hx rfl (hb hby at_18) rfl k)
    refine Ends.step (u' := (T.setTop (mkF m 23 #[.val (.long x0), .second, .val (.long z2), .second, .val (.long x4), .second] [(.long (-4265267296055464877 : Int64)), (.long x4)]))) ?_ (fun _ k => X.ldc2J hx hown (mvT hZ (hw _ (List.mem_of_getElem? (i := 6) rfl))) rfl (hb hby at_20) k)
    refine Ends.callS X hx hZ hown (hw _ (List.mem_of_getElem? (i := 7) rfl)) (hw _ (List.mem_of_getElem? (i := 8) rfl)) (hw _ (List.mem_of_getElem? (i := 9) rfl)) (hw _ (List.mem_of_getElem? (i := 10) rfl)) (by decide) (rm2 l Z a0 hw (-4265267296055464877 : Int64) h0 n0 Z0) 2 (by decide) (by decide) eT  (g := (mkF m 23 #[.val (.long x0), .second, .val (.long z2), .second, .val (.long x4), .second] [(.long (-4265267296055464877 : Int64)), (.long x4)])) rfl (by rw [hml]; rfl)  [(.long (-4265267296055464877 : Int64))] [(.long x4)] (lenOf pd_0 rfl) rfl (by show 2 * 0 + _ ≤ _; exact Nat.le_of_eq rfl) (hb hby at_23) rfl (by decide) (by decide) (fun v2 T2 L2 X2 hQ2 => ?_)
    obtain ⟨rfl, Nq2, e2⟩ := hQ2
    have N2 := Fr.app N Nq2
    show Ends p e below s _ _ _ (T2.setTop (mkF m 26 #[.val (.long x0), .second, .val (.long z2), .second, .val (.long x4), .second] [(.long (F2 (-4265267296055464877 : Int64))), (.long x4)]))
    refine Ends.step (u' := (T2.setTop (mkF m 27 #[.val (.long x0), .second, .val (.long z2), .second, .val (.long x4), .second] [(.long (x4 * (F2 (-4265267296055464877 : Int64))))]))) ?_ (fun _ k => XT.lmul X2.here hx rfl (hb hby at_26) rfl k)
    refine Ends.step (u' := (T2.setTop (mkF m 29 #[.val (.long x0), .second, .val (.long z2), .second, .val (.long (x4 * (F2 (-4265267296055464877 : Int64)))), .second] []))) ?_ (fun _ k => XT.lstore X2.here hx rfl (hb hby at_27) rfl (l' := #[.val (.long x0), .second, .val (.long z2), .second, .val (.long (x4 * (F2 (-4265267296055464877 : Int64)))), .second]) rfl k)
    exact b29 T2 _ X2 e2 N2 x0 (x4 * (F2 (-4265267296055464877 : Int64))) z2
  have b5 : ∀ (T : State) (L : List Loc) (X : Stand p l e room_1 s m #[(.long p0)] below meth c T L 0 0) (eT : T.heap = h0) (N : Fr n0 L) (x0 : Int64) (x2 : Int64), Ends p e below s 0 0 (Q0 Z  h0 n0 (F0_5 x0 x2)) (T.setTop (mkF m 5 #[.val (.long x0), .second, .val (.long x2), .second, .unset, .unset] [])) := by
    intro T L X eT N x0 x2
    refine Ends.step (u' := (T.setTop (mkF m 6 #[.val (.long x0), .second, .val (.long x2), .second, .unset, .unset] [(.long x2)]))) ?_ (fun _ k => XT.lloadN X.here hx rfl (hb hby at_5) rfl k)
    refine Ends.step (u' := (T.setTop (mkF m 8 #[.val (.long x0), .second, .val (.long x2), .second, .val (.long x2), .second] []))) ?_ (fun _ k => XT.lstore X.here hx rfl (hb hby at_6) rfl (l' := #[.val (.long x0), .second, .val (.long x2), .second, .val (.long x2), .second]) rfl k)
    refine Ends.step (u' := (T.setTop (mkF m 10 #[.val (.long x0), .second, .val (.long x2), .second, .val (.long x2), .second] [(.long x2)]))) ?_ (fun _ k => XT.lload X.here hx rfl (hb hby at_8) rfl k)
    refine Ends.step (u' := (T.setTop (mkF m 12 #[.val (.long x0), .second, .val (.long x2), .second, .val (.long x2), .second] [(.long x2), (.long x2)]))) ?_ (fun _ k => XT.lload X.here hx rfl (hb hby at_10) rfl k)
    refine Ends.step (u' := (T.setTop (mkF m 14 #[.val (.long x0), .second, .val (.long x2), .second, .val (.long x2), .second] [(.int (33 : Int32)), (.long x2), (.long x2)]))) ?_ (fun _ k => XT.bipushV X.here hx rfl (33 : Int32) (hb hby at_12) rfl k)
    refine Ends.step (u' := (T.setTop (mkF m 15 #[.val (.long x0), .second, .val (.long x2), .second, .val (.long x2), .second] [(.long (XT.ushrL x2 (33 : Int32))), (.long x2)]))) ?_ (fun _ k => XT.lushr X.here hx rfl (hb hby at_14) rfl k)
    refine Ends.step (u' := (T.setTop (mkF m 16 #[.val (.long x0), .second, .val (.long x2), .second, .val (.long x2), .second] [(.long (x2 ^^^ (XT.ushrL x2 (33 : Int32))))]))) ?_ (fun _ k => XT.lxor X.here hx rfl (hb hby at_15) rfl k)
    refine Ends.step (u' := (T.setTop (mkF m 18 #[.val (.long x0), .second, .val (.long x2), .second, .val (.long (x2 ^^^ (XT.ushrL x2 (33 : Int32)))), .second] []))) ?_ (fun _ k => XT.lstore X.here hx rfl (hb hby at_16) rfl (l' := #[.val (.long x0), .second, .val (.long x2), .second, .val (.long (x2 ^^^ (XT.ushrL x2 (33 : Int32)))), .second]) rfl k)
    exact b18 T _ X eT N x0 (x2 ^^^ (XT.ushrL x2 (33 : Int32))) x2
  refine Ends.step (u' := (s₁.setTop (mkF m 0 #[.val (.long p0), .second, .unset, .unset, .unset, .unset] []))) ?_ (fun _ k => castTop (ef_0 m p0) k)
  refine Ends.step (u' := (s₁.setTop (mkF m 1 #[.val (.long p0), .second, .unset, .unset, .unset, .unset] [(.long p0)]))) ?_ (fun _ k => XT.lloadN X0.here hx rfl (hb hby at_0) rfl k)
  refine Ends.callS X0 hx hZ hown (hw _ (List.mem_of_getElem? (i := 0) rfl)) (hw _ (List.mem_of_getElem? (i := 1) rfl)) (hw _ (List.mem_of_getElem? (i := 2) rfl)) (hw _ (List.mem_of_getElem? (i := 3) rfl)) (by decide) (rm1 l Z a0 hw p0 h0 n0 Z0) 0 (by decide) (by decide) e0  (g := (mkF m 1 #[.val (.long p0), .second, .unset, .unset, .unset, .unset] [(.long p0)])) rfl (by rw [hml]; rfl)  [(.long p0)] [] (lenOf pd_0 rfl) rfl (by show 2 * 0 + _ ≤ _; exact Nat.le_of_eq rfl) (hb hby at_1) rfl (by decide) (by decide) (fun v3 T3 L3 X3 hQ3 => ?_)
  obtain ⟨rfl, Nq3, e3⟩ := hQ3
  have N3 := Fr.app N0 Nq3
  show Ends p e below s _ _ _ (T3.setTop (mkF m 4 #[.val (.long p0), .second, .unset, .unset, .unset, .unset] [(.long (F1 p0))]))
  refine Ends.step (u' := (T3.setTop (mkF m 5 #[.val (.long p0), .second, .val (.long (F1 p0)), .second, .unset, .unset] []))) ?_ (fun _ k => XT.lstoreN X3.here hx rfl (hb hby at_4) rfl (l' := #[.val (.long p0), .second, .val (.long (F1 p0)), .second, .unset, .unset]) rfl k)
  exact b5 T3 _ X3 e3 N3 p0 (F1 p0)
theorem own_ushrL (x : Int64) (k : Nat) (hk : k < 64) : (XT.ushrL x (Int32.ofNat k)).toBitVec = x.toBitVec >>> k := by
  have h : ((Int32.ofNat k).toInt64.toUInt64 &&& Int64.toUInt64 63).toBitVec % 64 = BitVec.ofNat 64 k := by
    have : ∀ k : Fin 64, ((Int32.ofNat k.val).toInt64.toUInt64 &&& Int64.toUInt64 63).toBitVec % 64 = BitVec.ofNat 64 k.val := by decide +kernel
    exact this ⟨k, hk⟩
  show (x.toUInt64 >>> _).toBitVec = _
  rw [UInt64.toBitVec_shiftRight, h]
  show x.toBitVec >>> (BitVec.ofNat 64 k) = _
  rw [BitVec.ushiftRight_eq']
  congr 1
  simp
  omega
theorem own_sh (x : Int64) : (x ^^^ XT.ushrL x 33) ^^^ XT.ushrL (x ^^^ XT.ushrL x 33) 33 = x := by
  have e : ∀ z : Int64, (XT.ushrL z 33).toBitVec = z.toBitVec >>> 33 := fun z => own_ushrL z 33 (by decide)
  apply Int64.toBitVec_inj.mp
  rw [Int64.toBitVec_xor, e, Int64.toBitVec_xor, e]
  generalize x.toBitVec = b
  ext i hi
  simp only [BitVec.getElem_xor, BitVec.getElem_ushiftRight, BitVec.getLsbD_xor, BitVec.getLsbD_ushiftRight]
  rw [BitVec.getLsbD_of_ge b (33 + (33 + i)) (by omega)]
  simp
theorem own_mul1 (x : Int64) : x * (-4265267296055464877 : Int64) * F2 (-4265267296055464877 : Int64) = x := by
  have e : (-4265267296055464877 : Int64) * F2 (-4265267296055464877 : Int64) = 1 := by decide +kernel
  rw [Int64.mul_assoc, e, Int64.mul_one]
theorem own_mul2 (x : Int64) : x * (-49064778989728563 : Int64) * F2 (-49064778989728563 : Int64) = x := by
  have e : (-49064778989728563 : Int64) * F2 (-49064778989728563 : Int64) = 1 := by decide +kernel
  rw [Int64.mul_assoc, e, Int64.mul_one]
theorem own_law (i0 : Int64) : F0 i0 = 1 := by
  simp only [F0, F0_5, F0_18, F0_29, F0_39, F0_50, F0_60, F1, F1_9, F1_15, F1_22, F1_28, F1_35, own_sh, own_mul1, own_mul2, if_true]
  rfl
set_option maxRecDepth 65536 in
set_option maxHeartbeats 40000000 in
theorem comes_1 {Post : Tables → Env → Array Value → State → Outcome → State → Prop} (hpost : ∀ tb e args s v u, (limb_1_1.after args s (.returned v) u = true ∧ limb_1_2.after args s (.returned v) u = true ∧ True) → FrameEnd s (.returned v) u (Jvm.fieldLocs frame_1_writes args s ++ Jvm.arrayLocs frame_1_arrays args s ++ Jvm.staticLocs frame_1_statics s) 0 0 → Post tb e args s (.returned v) u) :
    ArmFor flags0 classFile x code maxLocals ret World_1 tables_1 room_1 Calls_1 rest_1 Pre_1 Post := by
  intro l hfl _ _ p e ha hc hk s m args below hf hA hF happ hP
  obtain ⟨hcalls, hrest, hpre⟩ := hP
  obtain ⟨-, -, -, hnamed, -, -, -, hat⟩ := (Spec.applies_iff hf).mp happ
  obtain ⟨hg, hn⟩ := and_e (Cond.before_iff.mp (show (Jvm.Cond.and given_1 narrow_1).before args s = true from hpre))
  obtain ⟨h1, r0⟩ := and_e hg
  obtain ⟨w0, rfl⟩ : ∃ w0 : Value, args = #[w0] := by
    have hs : args.size = 1 := by simpa [Cond.value, given_1] using h1
    obtain ⟨L⟩ := args
    match L, hs with
    | [w0], _ => exact ⟨w0, rfl⟩
  have hw := fun d (hd : d ∈ tables_1) => atoms_spec (ws := Jvm.Cond.code x code maxLocals ret :: tables_1) hat d (List.mem_cons_of_mem _ hd)
  obtain ⟨i0, e0⟩ := isL_v r0
  obtain rfl : w0 = (.long i0) := Option.some.inj e0
  have val := own_law i0
  obtain ⟨n, o, h1, h2, h3, _, L, rfl, ⟨rfl, N⟩, hq⟩ := rm0 l s _ hw i0 s.heap s.heap.size (Nat.le_refl _)  p e ha hc hk s m _ below hf ((Spec.applies_iff_loose hf).mp happ).1 ⟨rfl, State.Warmed39.refl s, rfl⟩ trivial
  refine ⟨n, _, h1, h2, h3, hpost _ _ _ _ _ _ ⟨Cond.after_iff.mpr rfl, Cond.after_iff.mpr (eq_i res_at (Term.int_eval (1)) (by rw [val])), trivial⟩ ⟨hq.1, hq.2.1, (hq.2.2.sift fun y hy => Or.inr (N y hy)).mono (by decide) (by decide)⟩⟩
theorem main_1_1 : Claimed_1_1 := comes_1 fun _ _ _ _ _ _ h hF => ⟨h.1, hF⟩
theorem main_1_2 : Claimed_1_2 := comes_1 fun _ _ _ _ _ _ h hF => ⟨h.2.1, hF⟩
end Jvm.Pilot.@@N@@
namespace Jvm.Pilot.@@N@@
open Jvm Jvm.ClassFile Sem Op Lib Jvm.Free Jvm.Stand Jvm.Pilot.@@N@@.Jvm.D
/-! MADE BY PROGRAM (witnessworld.py) out of the Statement's table words and the real class files: 9 classes; the members and pool entries that the words name. The judged class is class 1, her method 2. -/
namespace start1
open Jvm.ClassFile
def u (s : String) : CpInfo := .utf8 (stringToUtf16 s)
/-- a pool by its gaps: so many unusable entries, then the entry; so many at the end -/
def gap : Nat → List CpInfo → List CpInfo
  | 0, r => r
  | n + 1, r => .unusable :: gap n r
def poolList (es : List (Nat × CpInfo)) (last : Nat) : List CpInfo := es.foldr (fun e r => gap e.1 (e.2 :: r)) (gap last [])
def pool (es : List (Nat × CpInfo)) (last : Nat) : Array CpInfo := ⟨poolList es last⟩
def fileOf (pool : Array CpInfo) (this : Nat) (attrs : Array Attribute := #[]) (ms : Array MethodInfo := #[]) (fl : Nat := 33) (sup : Nat := 0) (ifs : Array Nat := #[]) (fds : Array FieldInfo := #[]) : ClassFile where
  minorVersion := 0
  majorVersion := 65
  constantPool := pool
  accessFlags := fl
  thisClass := this
  superClass := sup
  interfaces := ifs
  fields := fds
  methods := ms
  attributes := attrs
def plain (name : String) (sup : Option ClassId) : Class where
  name := name
  kind := .ordinary
  loader := none
  accessFlags := 33
  super := sup
  interfaces := #[]
  cf := none
  fields := #[]
  methods := #[]
  instanceTypes := #[]
  staticTypes := #[]
  resolved := #[]
  callSites := []
  init := .initialized
  statics := none
  mirror := none

def pool0 : Array CpInfo := pool [(5, u "<init>"), (0, u "()V"), (1, .class_ 10), (1, u "java/lang/Object")] 113

def k0m0 : Method := { name := "<init>", desc := "()V", sig := { parameters := [], returnType := none }, accessFlags := 1, code := none }
/-- java/lang/Object -/
def k0 : Class := { plain "java/lang/Object" none with
  accessFlags := 33
  interfaces := #[]
  cf := some (fileOf pool0 8 #[] #[{ accessFlags := 1, nameIndex := 5, descriptorIndex := 6, attributes := #[] }] 33 0 #[] #[])
  fields := #[]
  methods := #[k0m0]
  instanceTypes := #[]
  staticTypes := #[]
  resolved := Array.replicate 124 none
  statics := none }

def pool1 : Array CpInfo := pool [(2, .class_ 4), (1, u "java/lang/Object"), (0, u "<init>"), (0, u "()V"), (0, .long 2), (1, .methodref 10 11), (0, .class_ 12), (0, .nameAndType 13 14), (0, u "com/example/ananke/ananke/hash/Murmur3"), (0, u "fmix64"), (0, u "(J)J"), (0, .long 14181476777654086739), (1, .methodref 18 19), (0, .class_ 20), (0, .nameAndType 21 14), (0, u "com/example/ananke/ananke/hash/Murmur3Fmix64PinLaw"), (0, u "inverse"), (0, .long 18397679294719823053), (3, u "law"), (0, u "(J)Z")] 3

def k1m0 : Method := { name := "<init>", desc := "()V", sig := { parameters := [], returnType := none }, accessFlags := 2, code := none }
def k1c1 : Code := { maxStack := 8, maxLocals := 4, code := method_2_code, exceptionTable := #[], attributes := #[] }
def k1m1 : Method := { name := "inverse", desc := "(J)J", sig := { parameters := [.long], returnType := some .long }, accessFlags := 10, code := some k1c1 }
def k1c2 : Code := { maxStack := 5, maxLocals := 6, code := code, exceptionTable := #[], attributes := #[] }
def k1m2 : Method := { name := "law", desc := "(J)Z", sig := { parameters := [.long], returnType := some .boolean }, accessFlags := 9, code := some k1c2 }
/-- com/example/ananke/ananke/hash/Murmur3Fmix64PinLaw -/
def k1 : Class := { plain "com/example/ananke/ananke/hash/Murmur3Fmix64PinLaw" (some 0) with
  accessFlags := 49
  interfaces := #[]
  cf := some (fileOf pool1 18 #[] #[{ accessFlags := 2, nameIndex := 5, descriptorIndex := 6, attributes := #[] }, { accessFlags := 10, nameIndex := 21, descriptorIndex := 14, attributes := #[] }, { accessFlags := 9, nameIndex := 26, descriptorIndex := 27, attributes := #[] }] 49 2 #[] #[])
  fields := #[]
  methods := #[k1m0, k1m1, k1m2]
  instanceTypes := #[]
  staticTypes := #[]
  resolved := Array.replicate 31 none
  statics := none }

def pool2 : Array CpInfo := pool [(2, .class_ 4), (1, u "java/lang/Object"), (0, u "<init>"), (0, u "()V"), (9, .class_ 18), (1, u "com/example/ananke/ananke/hash/Murmur3"), (27, u "(J)J"), (19, u "fmix64"), (12, .long 18397679294719823053), (1, .long 14181476777654086739), (1, u "C1_32"), (0, u "I"), (1, u "C2_32"), (0, u "C1_128"), (0, u "J"), (0, u "C2_128")] 10

def k2m0 : Method := { name := "<init>", desc := "()V", sig := { parameters := [], returnType := none }, accessFlags := 2, code := none }
def k2c1 : Code := { maxStack := 5, maxLocals := 4, code := prog_15_method_8_code, exceptionTable := #[], attributes := #[] }
def k2m1 : Method := { name := "fmix64", desc := "(J)J", sig := { parameters := [.long], returnType := some .long }, accessFlags := 9, code := some k2c1 }
/-- com/example/ananke/ananke/hash/Murmur3 -/
def k2 : Class := { plain "com/example/ananke/ananke/hash/Murmur3" (some 0) with
  accessFlags := 49
  interfaces := #[]
  cf := some (fileOf pool2 16 #[] #[{ accessFlags := 2, nameIndex := 5, descriptorIndex := 6, attributes := #[] }, { accessFlags := 9, nameIndex := 66, descriptorIndex := 46, attributes := #[] }] 49 2 #[] #[{ accessFlags := 26, nameIndex := 83, descriptorIndex := 84, attributes := #[] }, { accessFlags := 26, nameIndex := 86, descriptorIndex := 84, attributes := #[] }, { accessFlags := 26, nameIndex := 87, descriptorIndex := 88, attributes := #[] }, { accessFlags := 26, nameIndex := 89, descriptorIndex := 88, attributes := #[] }])
  fields := #[{ name := "C1_32", type := .int, accessFlags := 26, slot := 0, constantValue := 0 }, { name := "C2_32", type := .int, accessFlags := 26, slot := 1, constantValue := 0 }, { name := "C1_128", type := .long, accessFlags := 26, slot := 2, constantValue := 0 }, { name := "C2_128", type := .long, accessFlags := 26, slot := 3, constantValue := 0 }]
  methods := #[k2m0, k2m1]
  instanceTypes := #[]
  staticTypes := #[.int, .int, .long, .long]
  resolved := Array.replicate 100 none
  statics := none }

def pool3 : Array CpInfo := pool [(1, u "java/lang/Cloneable"), (0, .class_ 1), (0, u "java/lang/Object"), (0, .class_ 3)] 3

/-- java/lang/Cloneable -/
def k3 : Class := { plain "java/lang/Cloneable" (some 0) with
  accessFlags := 1537
  interfaces := #[]
  cf := some (fileOf pool3 2 #[] #[] 1537 4 #[] #[])
  fields := #[]
  methods := #[]
  instanceTypes := #[]
  staticTypes := #[]
  resolved := Array.replicate 8 none
  statics := none }

def pool4 : Array CpInfo := pool [(1, u "java/io/Serializable"), (0, .class_ 1), (0, u "java/lang/Object"), (0, .class_ 3)] 3

/-- java/io/Serializable -/
def k4 : Class := { plain "java/io/Serializable" (some 0) with
  accessFlags := 1537
  interfaces := #[]
  cf := some (fileOf pool4 2 #[] #[] 1537 4 #[] #[])
  fields := #[]
  methods := #[]
  instanceTypes := #[]
  staticTypes := #[]
  resolved := Array.replicate 8 none
  statics := none }

/-- the primitive byte -/
def k5 : Class := { plain "byte" none with kind := .primitive 'B', accessFlags := 0x411 }
/-- [B -/
def k6 : Class := { plain "[B" (some 0) with kind := .array 5 .byte, interfaces := #[3, 4], accessFlags := 1041 }

/-- the primitive int -/
def k7 : Class := { plain "int" none with kind := .primitive 'I', accessFlags := 0x411 }
/-- [I -/
def k8 : Class := { plain "[I" (some 0) with kind := .array 7 .int, interfaces := #[3, 4], accessFlags := 1041 }

def heap : Heap := #[]
def classes : Array Class := #[k0, k1, k2, k3, k4, k5, k6, k7, k8]
def interned : List (Array UInt16 × Addr) := []
def slotsUsed : Nat := 0
def theMethod : MethodId := ⟨1, 2⟩
def args0 : Array Value := #[.long 5]
def aboutOver (below : List Frame) : State where
  vm := { classes := classes, interned := interned.toArray }
  heap := heap
  slotsUsed := slotsUsed
  threads := #[{ frames := .invoking theMethod args0 :: below }]
def below0 : List Frame := [.native { method := ⟨0, 0⟩, args := #[] }]
def about1 : State := aboutOver below0
def p0 : Program := .bare "" "" ""
def e0 : Env := launch0.env 0 0 0
theorem w_frames : about1.frames = Frame.invoking theMethod args0 :: below0 := rfl
set_option maxRecDepth 65536 in
theorem w_args : argsFit about1.vm theMethod args0 = true := by decide +kernel
set_option maxRecDepth 65536 in
theorem w_heap : heapFits about1 = true := by decide +kernel
set_option maxRecDepth 65536 in
theorem w_runnable : about1.curStatus? = some .runnable := by decide +kernel
set_option maxRecDepth 65536 in
theorem w_alone : about1.alone = true := by decide +kernel
set_option maxRecDepth 65536 in
theorem w_named : about1.methodNamed? x = some theMethod := by decide +kernel
set_option maxRecDepth 65536 in
theorem w_hears : about1.hears theMethod below0 = true := by decide +kernel
set_option maxRecDepth 65536 in
theorem w_ripe : about1.ripe theMethod args0 below0 = true := by decide +kernel
theorem w_running : about1.status = .running := rfl
set_option maxRecDepth 65536 in
theorem w_room : about1.hasRoom e0.platform room_1 = true :=
  launch0.hasRoom_least _ room_1 (by decide +kernel) (by decide +kernel) (by decide +kernel) (by decide +kernel) (by decide +kernel) (by decide +kernel)
theorem allAtoms_all (ts : List Jvm.Cond) (a : Array Jvm.Value) (st : Jvm.State) : (allAtoms ts).before a st = ts.all (fun c => c.before a st) := by
  induction ts with
  | nil => rfl
  | cons c t ih =>
    show (Jvm.Cond.and c (allAtoms t)).before a st = _
    rw [Jvm.Cond.before_and, ih, List.all_cons]
def words1 : List Jvm.Cond := Jvm.Cond.code x code maxLocals ret :: tables_1
/-- a 'code' word, met by the world's own term for the bytes: nothing is compared byte by byte -/
theorem code_word {y : MethodName} {bytes : ByteArray} {mx : Nat} {rt : Option FieldType} {a : Array Value} {s : State} {m : MethodId} {meth : Method} {c : Code} (h1 : s.methodNamed? y = some m) (h2 : s.vm.method? m = some meth) (h3 : meth.code = some c) (h4 : c.code = bytes)
    (h5 : (c.maxLocals == mx && c.exceptionTable.isEmpty && decide (c.maxStack ≤ mostOperands) && decide (meth.sig.returnType = rt) && !meth.locks && decide (parseMethodDescriptor y.desc = some meth.sig)) = true) : (Jvm.Cond.code y bytes mx rt).before a s = true := by
  simp only [Bool.and_eq_true, beq_iff_eq, Bool.not_eq_true', decide_eq_true_eq] at h5
  obtain ⟨⟨⟨⟨⟨g1, g2⟩, g3⟩, g4⟩, g5⟩, g6⟩ := h5
  simp [Cond.before, Cond.holds, Cond.value, h1, h2, h3, h4, g1, g2, g3, g4, g5, g6]
def isCode : Jvm.Cond → Bool
  | .code _ _ _ _ => true
  | _ => false
theorem all_split {L : List Jvm.Cond} {P : Jvm.Cond → Bool} (h1 : L.all (fun c => isCode c || P c) = true) (h2 : ∀ c ∈ L.filter isCode, P c = true) : L.all P = true := by
  refine List.all_eq_true.mpr fun c hc => ?_
  have h := List.all_eq_true.mp h1 c hc
  rcases Bool.eq_false_or_eq_true (isCode c) with hi | hi
  · exact h2 c (List.mem_filter.mpr ⟨hc, hi⟩)
  · simpa [hi] using h
set_option maxRecDepth 65536 in
theorem w_c0 : (Jvm.Cond.code x code maxLocals ret).before args0 about1 = true := code_word (m := ⟨1, 2⟩) (meth := k1m2) (c := k1c2) (by decide +kernel) rfl rfl rfl (by decide +kernel)
set_option maxRecDepth 65536 in
theorem w_c1 : (Jvm.Cond.code ({ cls := "com/example/ananke/ananke/hash/Murmur3", name := "fmix64", desc := "(J)J" } : Jvm.MethodName) prog_15_method_8_code (4 : Nat) (Option.some Jvm.ClassFile.FieldType.long)).before args0 about1 = true := code_word (m := ⟨2, 1⟩) (meth := k2m1) (c := k2c1) (by decide +kernel) rfl rfl rfl (by decide +kernel)
set_option maxRecDepth 65536 in
theorem w_c2 : (Jvm.Cond.code ({ cls := "com/example/ananke/ananke/hash/Murmur3Fmix64PinLaw", name := "inverse", desc := "(J)J" } : Jvm.MethodName) method_2_code (4 : Nat) (Option.some Jvm.ClassFile.FieldType.long)).before args0 about1 = true := code_word (m := ⟨1, 1⟩) (meth := k1m1) (c := k1c1) (by decide +kernel) rfl rfl rfl (by decide +kernel)
def codes1 : List Jvm.Cond := [Jvm.Cond.code x code maxLocals ret, Jvm.Cond.code ({ cls := "com/example/ananke/ananke/hash/Murmur3", name := "fmix64", desc := "(J)J" } : Jvm.MethodName) prog_15_method_8_code (4 : Nat) (Option.some Jvm.ClassFile.FieldType.long), Jvm.Cond.code ({ cls := "com/example/ananke/ananke/hash/Murmur3Fmix64PinLaw", name := "inverse", desc := "(J)J" } : Jvm.MethodName) method_2_code (4 : Nat) (Option.some Jvm.ClassFile.FieldType.long)]
set_option maxRecDepth 65536 in
theorem codes_eq : words1.filter isCode = codes1 := rfl
theorem w_codes : ∀ c ∈ words1.filter isCode, c.before args0 about1 = true := by
  rw [codes_eq]
  intro c hc
  simp only [codes1, List.mem_cons, List.not_mem_nil, or_false] at hc
  rcases hc with rfl | rfl | rfl
  · exact w_c0
  · exact w_c1
  · exact w_c2
set_option maxRecDepth 65536 in
theorem w_t1 : words1.all (fun c => isCode c || c.before args0 about1) = true := by decide +kernel
theorem w_tables : (allAtoms (Jvm.Cond.code x code maxLocals ret :: tables_1)).before args0 about1 = true := by
  rw [allAtoms_all]
  show words1.all (fun c => c.before args0 about1) = true
  refine all_split ?_ w_codes
  rw [w_t1]
set_option maxRecDepth 65536 in
theorem w_case : (Jvm.Cond.and given_1 narrow_1).before args0 about1 = true := by decide +kernel
theorem w_applies : (headSpec (Jvm.Cond.code x code maxLocals ret :: tables_1) room_1).applies x e0.platform about1 = true :=
  (Spec.applies_iff w_frames).mpr ⟨w_running, w_runnable, w_alone, w_named, w_hears, w_ripe, w_room, w_tables⟩
theorem atStart : AtStart classFile x code maxLocals ret World_1 tables_1 room_1 Calls_1 rest_1 Pre_1 launch0 p0 e0 about1 theMethod args0 below0 :=
  ⟨lists_1, trivial, launch0.admits_env _ _ _, launch0.least_env, fairChoices_fair.cas, fairChoices_fair.clock, w_frames, w_args, w_heap, w_applies, trivial, trivial, w_case⟩
end start1
theorem witness_1 : WitnessClaimed_1 := ⟨start1.p0, start1.e0, start1.about1, start1.theMethod, start1.args0, start1.below0, start1.atStart⟩
end Jvm.Pilot.@@N@@
