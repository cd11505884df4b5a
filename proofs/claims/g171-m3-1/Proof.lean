import JvmDerived
import JvmDerived.Pilot.@@N@@Statement
import JvmDerived.Pilot.@@N@@Code
set_option linter.unusedVariables false
set_option linter.unusedSimpArgs false
namespace Jvm.RoadKit
open Sem ClassFile Op Lib Jvm.Stand Jvm.Free Jvm.LawKit
section New
variable {p : Program} {l : Launch} {e : Env} {R : Room} {s : State} {m : MethodId} {args : Array Value} {below : List Frame} {meth : Method} {c : Code} {T : State} {locs : List Loc} {cells slots : Nat}
theorem retI (X : Stand p l e R s m args below meth c T locs cells slots) (hx : p.tables.exec = Jvm.exec) {pc : Nat} {Ls : Array Slot} {z : Int32} {rest : List Value} (hret : meth.sig.returnType = some .int) (hd : decode c.code pc = .ok (.ireturn, 1)) {fs : List Frame}
    (hl : ∀ (f : JFrame) (acts : List Action), f.method = m → f.locked = none → f.entered = [] → (doReturn e (T.setTop f) acts (some (.int z))).1 = T.setFrames fs) : Steps p.tables e below (T.setTop (mkF m pc Ls (.int z :: rest))) (T.setFrames fs) := by
  have hm' : T.vm.method? m = some meth := X.method'
  have hn : narrow .int (.int z) = .int z := rfl
  show Steps p.tables e below (T.setTop { method := m, pc := pc, locals := Ls, stack := _ :: rest, locked := none }) _
  jvm_step X.here [X.here.top, hx, hd, hm', hret, hn]
  first | (intro acts; rw [hl _ acts rfl rfl rfl]) | rw [hl _ _ rfl rfl rfl]
  exact Steps.refl _
end New
end Jvm.RoadKit
namespace Jvm.Pilot.@@N@@
open Jvm Jvm.ClassFile Sem Op Lib Jvm.Free Jvm.Stand Jvm.LawKit Jvm.RoadKit Bundle Jvm.Pilot.@@N@@.Jvm.D
section OwnKit
/-- the rest of a body ends well: from the state U on it comes to its end, what it returns and leaves is as Q says -/
def Done (p : Program) (e : Env) (below : List Frame) (s : State) (Q : Option Value → Heap → List Loc → Prop) (C S : Nat) (U : State) : Prop :=
  ∃ s₂ o, Steps p.tables e below U s₂ ∧ s₂.status = .running ∧ Ended s₂ below o ∧ ∃ v L, o = .returned v ∧ Q v s₂.heap L ∧ FrameEnd s o s₂ L C S
variable {p : Program} {l : Launch} {e : Env} {R : Room} {s : State} {m : MethodId} {args : Array Value} {below : List Frame} {meth : Method} {c : Code} {T U U' : State} {locs : List Loc} {cells slots C S : Nat} {Q : Option Value → Heap → List Loc → Prop}
theorem Done.step (h : ∀ t, Steps p.tables e below U' t → Steps p.tables e below U t) (d : Done p e below s Q C S U') : Done p e below s Q C S U := by
  obtain ⟨s₂, o, h1, r⟩ := d
  exact ⟨s₂, o, h _ h1, r⟩
theorem Done.far (h : Steps p.tables e below U U') (d : Done p e below s Q C S U') : Done p e below s Q C S U := by
  obtain ⟨s₂, o, h1, r⟩ := d
  exact ⟨s₂, o, h.trans h1, r⟩
theorem Done.mono {Q' : Option Value → Heap → List Loc → Prop} (d : Done p e below s Q C S U) (h : ∀ v h L, Q v h L → Q' v h L) : Done p e below s Q' C S U := by
  obtain ⟨s₂, o, h1, h2, h3, v, L, h4, h5, h6⟩ := d
  exact ⟨s₂, o, h1, h2, h3, v, L, h4, h _ _ _ h5, h6⟩
theorem Done.int (X : Stand p l e R s m args below meth c T locs cells slots) (hx : p.tables.exec = Jvm.exec) (hlk : meth.locks = false) (hret : meth.sig.returnType = some .int) {pc : Nat} {Ls : Array Slot} {z : Int32} {rest : List Value} (hd : decode c.code pc = .ok (.ireturn, 1)) (hc : cells ≤ C) (hs : slots ≤ S)
    (hq : Q (some (.int z)) T.heap locs) : Done p e below s Q C S (T.setTop (mkF m pc Ls (.int z :: rest))) := by
  obtain ⟨fs, hr, hrun, hended, hW, hsame⟩ := X.leave (v := some (.int z)) (fun h => by rw [hret] at h; cases h)
  exact ⟨_, _, retI X hx hret hd hr, hrun, hended, _, _, rfl, hq, ⟨_, rfl⟩, hW, hsame.mono hc hs⟩
theorem Done.narr (X : Stand p l e R s m args below meth c T locs cells slots) (hx : p.tables.exec = Jvm.exec) (hlk : meth.locks = false) {t : FieldType} (hret : meth.sig.returnType = some t) (ht : t = .boolean ∨ t = .byte ∨ t = .char ∨ t = .short) {pc : Nat} {Ls : Array Slot} {z : Int32} {rest : List Value} (hd : decode c.code pc = .ok (.ireturn, 1)) (hc : cells ≤ C) (hs : slots ≤ S)
    (hq : Q (some (.int (nar t z))) T.heap locs) : Done p e below s Q C S (T.setTop (mkF m pc Ls (.int z :: rest))) := by
  obtain ⟨fs, hr, hrun, hended, hW, hsame⟩ := X.leave (v := some (.int (nar t z))) (fun h => by rw [hret] at h; cases h)
  exact ⟨_, _, retN X hx hret ht hd hr, hrun, hended, _, _, rfl, hq, ⟨_, rfl⟩, hW, hsame.mono hc hs⟩
theorem Done.long (X : Stand p l e R s m args below meth c T locs cells slots) (hx : p.tables.exec = Jvm.exec) (hlk : meth.locks = false) (hret : meth.sig.returnType = some .long) {pc : Nat} {Ls : Array Slot} {z : Int64} {rest : List Value} (hd : decode c.code pc = .ok (.lreturn, 1)) (hc : cells ≤ C) (hs : slots ≤ S)
    (hq : Q (some (.long z)) T.heap locs) : Done p e below s Q C S (T.setTop (mkF m pc Ls (.long z :: rest))) := by
  obtain ⟨fs, hr, hrun, hended, hW, hsame⟩ := X.leave (v := some (.long z)) (fun h => by rw [hret] at h; cases h)
  exact ⟨_, _, retOut X hx hret rfl (Or.inr (Or.inl ⟨rfl, rfl, z, rfl⟩)) hd hr, hrun, hended, _, _, rfl, hq, ⟨_, rfl⟩, hW, hsame.mono hc hs⟩
theorem Done.ref (X : Stand p l e R s m args below meth c T locs cells slots) (hx : p.tables.exec = Jvm.exec) (hlk : meth.locks = false) {t : FieldType} (hret : meth.sig.returnType = some t) (ht : t.isReference = true) {pc : Nat} {Ls : Array Slot} {w : Value} {rest : List Value} (hw : w.isRef = true) (hn : narrow t w = w) (hd : decode c.code pc = .ok (.areturn, 1)) (hc : cells ≤ C) (hs : slots ≤ S)
    (hq : Q (some w) T.heap locs) : Done p e below s Q C S (T.setTop (mkF m pc Ls (w :: rest))) := by
  obtain ⟨fs, hr, hrun, hended, hW, hsame⟩ := X.leave (v := some w) (fun h => by rw [hret] at h; cases h)
  exact ⟨_, _, retOut X hx hret hn (Or.inr (Or.inr (Or.inr (Or.inr ⟨rfl, ht, hw⟩)))) hd hr, hrun, hended, _, _, rfl, hq, ⟨_, rfl⟩, hW, hsame.mono hc hs⟩
theorem Done.void (X : Stand p l e R s m args below meth c T locs cells slots) (hx : p.tables.exec = Jvm.exec) (hlk : meth.locks = false) (hret : meth.sig.returnType = none) {pc : Nat} {Ls : Array Slot} (hd : decode c.code pc = .ok (.return_, 1)) (hc : cells ≤ C) (hs : slots ≤ S)
    (hq : Q none T.heap locs) : Done p e below s Q C S (T.setTop (mkF m pc Ls [])) := by
  obtain ⟨fs, hr, hrun, hended, hW, hsame⟩ := X.leave (v := none) (fun _ => rfl)
  exact ⟨_, _, X.returnOut hx hret hd hr, hrun, hended, _, _, rfl, hq, ⟨_, rfl⟩, hW, hsame.mono hc hs⟩
variable {Z : State} {h h' h0 : Heap} {a b : Addr} {ty : FieldType} {vs : List Value} {sl : Nat} {v x : Value} {ws : List Addr} {j : Int32} {g : JFrame} {rest : List Value}
/-- an array whose slots are just the list vs -/
def Ax (Z : State) (h : Heap) (a : Addr) (ty : FieldType) (vs : List Value) : Prop := ∃ c : Cell, Arr Z h a c ty ∧ c.slots = vs.toArray
theorem Ax.lt (F : Ax Z h a ty vs) : a < h.size := by obtain ⟨c, A, -⟩ := F; exact A.lt
theorem Ax.ext (F : Ax Z h a ty vs) (E : Ext h h') : Ax Z h' a ty vs := by obtain ⟨c, A, r⟩ := F; exact ⟨c, A.ext E, r⟩
theorem Ax.other (F : Ax Z h b ty vs) (W : Wr h h' a sl v) (q : b ≠ a) : Ax Z h' b ty vs := by obtain ⟨c, A, r⟩ := F; exact ⟨c, A.other W q, r⟩
theorem Ax.keep (F : Ax Z h a ty vs) (K : Keep h h' ws) (q : a ∉ ws) : Ax Z h' a ty vs := by obtain ⟨c, A, r⟩ := F; exact ⟨c, ⟨K.2.1 a c A.1 q, A.2⟩, r⟩
theorem Sta.keepW {C n d : String} (F : Sta Z h C n d v) (K : Keep h h' ws) (q : ∀ y ∈ ws, ∃ cell : Cell, h[y]? = some cell ∧ cell.vm.isStatics = false) : Sta Z h' C n d v := by
  obtain ⟨cf, i, k, f, st, cell, h1, h2, h3, h4, h5, h6, h7⟩ := F
  refine ⟨cf, i, k, f, st, cell, h1, h2, h3, h4, K.2.1 st cell h5 (fun z => ?_), h6, h7⟩
  obtain ⟨c', g1, g2⟩ := q st z
  cases h5.symm.trans g1; rw [g2] at h6; cases h6
theorem Exa.unst {C : String} (F : Exa Z h a C) : ∃ cell : Cell, h[a]? = some cell ∧ cell.vm.isStatics = false := by
  obtain ⟨cell, k, h1, -, -, h4, -⟩ := F; exact ⟨cell, h1, h4⟩
theorem fld_long {t : Term} {D n d : String} {k : Int64} {y : Addr} {av : Array Value} (hh : (Jvm.Cond.eq (Term.field t D n d) (Term.long k)).value av Z none Z [] = some true) (ht : t.eval av Z none [] Z = some (.ref y)) : Fld Z Z.heap y D n d (.long k) := by
  obtain ⟨u, w, e1, e2, k1, k2⟩ := cmp_v (Or.inl hh)
  have e3 : (Term.long k).eval av Z none [] Z = some (.long k) := rfl
  rw [e3] at e2; cases e2
  obtain ⟨z, rfl⟩ := k2
  have q := gotT (eq_L e1 e3) hh
  subst q
  rw [fld_at ht] at e1
  exact Fld.start e1
theorem fld_int {t : Term} {D n d : String} {k : Int32} {y : Addr} {av : Array Value} (hh : (Jvm.Cond.eq (Term.field t D n d) (Term.int k)).value av Z none Z [] = some true) (ht : t.eval av Z none [] Z = some (.ref y)) : Fld Z Z.heap y D n d (.int k) := by
  obtain ⟨u, w, e1, e2, k1, k2⟩ := cmp_v (Or.inl hh)
  have e3 : (Term.int k).eval av Z none [] Z = some (.int k) := rfl
  rw [e3] at e2; cases e2
  obtain ⟨z, rfl⟩ := k2
  have q : z = k := by simpa [Jvm.Cond.value, e1, e3] using hh
  subst q
  rw [fld_at ht] at e1
  exact Fld.start e1
theorem Ax.set (F : Ax Z h a ty vs) (W : Wr h h' a sl v) : Ax Z h' a ty (vs.set sl v) := by
  obtain ⟨c, A, r⟩ := F
  exact ⟨_, A.same W, by rw [show (c.setSlot sl v).slots = c.slots.setIfInBounds sl v from rfl, r, List.setIfInBounds_toArray]⟩
theorem Ax.new {k : ClassId} {n : Int32} {i : Nat} (A : Arr Z h a (newA k ty n) ty) (hi : n.toNatClampNeg = i) : Ax Z h a ty (List.replicate i (defaultValue ty)) :=
  ⟨_, A, by rw [show (newA k ty n).slots = Array.replicate n.toNatClampNeg (defaultValue ty) from rfl, hi, List.toArray_replicate]⟩
theorem Ax.size {c : Cell} (r : c.slots = vs.toArray) : c.slots.size = vs.length := by rw [r, List.size_toArray]
theorem Ax.inb {c : Cell} (r : c.slots = vs.toArray) (hj : ¬ j < 0) (hl : j.toNatClampNeg < vs.length) : ¬ (j < 0 ∨ c.slots.size ≤ j.toNatClampNeg) := fun q => q.elim hj fun u => by
  rw [Ax.size r] at u; exact absurd hl (Nat.not_lt.mpr u)
theorem Ax.get {c : Cell} (r : c.slots = vs.toArray) (hat : vs[j.toNatClampNeg]? = some x) : c.slots[j.toNatClampNeg]? = some x := by rw [r, List.getElem?_toArray]; exact hat
theorem Ax.lens (hat : vs[j.toNatClampNeg]? = some x) : j.toNatClampNeg < vs.length := (List.getElem?_eq_some_iff.mp hat).1
theorem ldI (X : Stand p l e R s m args below meth c T locs cells slots) (hx : p.tables.exec = Jvm.exec) (hZ : Z.Warmed39 s.vm) (eT : T.heap = h) (F : Ax Z h a .int vs) (hj : ¬ j < 0) (hat : vs[j.toNatClampNeg]? = some x) (hg : g.method = m) (hs : g.stack = .int j :: .ref a :: rest) (hd : decode c.code g.pc = .ok (.iaload, 1)) :
    ∀ target, Steps p.tables e below (T.setTop { g with pc := g.pc + 1, stack := x :: rest }) target → Steps p.tables e below (T.setTop g) target := by
  obtain ⟨cl, A, r⟩ := F
  exact X.iaload hx (by rw [eT]; exact A.1) (State.isArrayOf_alike hZ.alike A.2.1) A.2.2 (Ax.inb r hj (Ax.lens hat)) (Ax.get r hat) hg hs hd
theorem ldJ (X : Stand p l e R s m args below meth c T locs cells slots) (hx : p.tables.exec = Jvm.exec) (hZ : Z.Warmed39 s.vm) (eT : T.heap = h) (F : Ax Z h a .long vs) (hj : ¬ j < 0) (hat : vs[j.toNatClampNeg]? = some x) (hg : g.method = m) (hs : g.stack = .int j :: .ref a :: rest) (hd : decode c.code g.pc = .ok (.laload, 1)) :
    ∀ target, Steps p.tables e below (T.setTop { g with pc := g.pc + 1, stack := x :: rest }) target → Steps p.tables e below (T.setTop g) target := by
  obtain ⟨cl, A, r⟩ := F
  exact X.laload hx (by rw [eT]; exact A.1) (State.isArrayOf_alike hZ.alike A.2.1) A.2.2 (Ax.inb r hj (Ax.lens hat)) (Ax.get r hat) hg hs hd
theorem ldB (X : Stand p l e R s m args below meth c T locs cells slots) (hx : p.tables.exec = Jvm.exec) (hZ : Z.Warmed39 s.vm) (eT : T.heap = h) (F : Ax Z h a .byte vs) (hj : ¬ j < 0) (hat : vs[j.toNatClampNeg]? = some x) (hg : g.method = m) (hs : g.stack = .int j :: .ref a :: rest) (hd : decode c.code g.pc = .ok (.baload, 1)) :
    ∀ target, Steps p.tables e below (T.setTop { g with pc := g.pc + 1, stack := x :: rest }) target → Steps p.tables e below (T.setTop g) target := by
  obtain ⟨cl, A, r⟩ := F
  exact X.baloadBytes hx (by rw [eT]; exact A.1) (State.isArrayOf_alike hZ.alike A.2.1) A.2.2 (Ax.inb r hj (Ax.lens hat)) (Ax.get r hat) hg hs hd
theorem ldZ (X : Stand p l e R s m args below meth c T locs cells slots) (hx : p.tables.exec = Jvm.exec) (hZ : Z.Warmed39 s.vm) (eT : T.heap = h) (F : Ax Z h a .boolean vs) (hj : ¬ j < 0) (hat : vs[j.toNatClampNeg]? = some x) (hg : g.method = m) (hs : g.stack = .int j :: .ref a :: rest) (hd : decode c.code g.pc = .ok (.baload, 1)) :
    ∀ target, Steps p.tables e below (T.setTop { g with pc := g.pc + 1, stack := x :: rest }) target → Steps p.tables e below (T.setTop g) target := by
  obtain ⟨cl, A, r⟩ := F
  exact X.baloadBooleans hx (by rw [eT]; exact A.1) (State.isArrayOf_alike hZ.alike A.2.1) A.2.2 (Ax.inb r hj (Ax.lens hat)) (Ax.get r hat) hg hs hd
theorem lenA (X : Stand p l e R s m args below meth c T locs cells slots) (hx : p.tables.exec = Jvm.exec) (hZ : Z.Warmed39 s.vm) (eT : T.heap = h) (F : Ax Z h a ty vs) {n : Int32} (hn : vs.length.toInt32 = n) (hg : g.method = m) (hs : g.stack = .ref a :: rest) (hd : decode c.code g.pc = .ok (.arraylength, 1)) :
    ∀ target, Steps p.tables e below (T.setTop { g with pc := g.pc + 1, stack := .int n :: rest }) target → Steps p.tables e below (T.setTop g) target := by
  obtain ⟨cl, A, r⟩ := F
  intro target k
  refine X.arraylength hx (by rw [eT]; exact A.1) (State.isArrayOf_alike hZ.alike A.2.1) hg hs hd target ?_
  rw [Ax.size r, hn]; exact k
theorem stoI (X : Stand p l e R s m args below meth c T locs cells slots) (hx : p.tables.exec = Jvm.exec) (hZ : Z.Warmed39 s.vm) (eT : T.heap = h) (F : Ax Z h a .int vs) {y : Int32} (hj : ¬ j < 0) {i : Nat} (hi : j.toNatClampNeg = i) (hl : i < vs.length) (hg : g.method = m) (hs : g.stack = .int y :: .int j :: .ref a :: rest) (hd : decode c.code g.pc = .ok (.iastore, 1)) :
    ∃ T' h', Stand p l e R s m args below meth c T' (locs ++ [⟨a, j.toNatClampNeg⟩]) cells slots ∧ T'.heap = h' ∧ Wr h h' a j.toNatClampNeg (.int y) ∧ Ax Z h' a .int (vs.set i (.int y)) ∧ ∀ target, Steps p.tables e below (T'.setTop { g with pc := g.pc + 1, stack := rest }) target → Steps p.tables e below (T.setTop g) target := by
  obtain ⟨cl, A, r⟩ := F
  obtain ⟨T', h', X', e', W, st⟩ := stI X hx hZ eT A (Ax.inb r hj (by rw [hi]; exact hl)) hg hs hd
  exact ⟨T', h', X', e', W, hi ▸ Ax.set ⟨cl, A, r⟩ W, st⟩
theorem stoJ (X : Stand p l e R s m args below meth c T locs cells slots) (hx : p.tables.exec = Jvm.exec) (hZ : Z.Warmed39 s.vm) (eT : T.heap = h) (F : Ax Z h a .long vs) {y : Int64} (hj : ¬ j < 0) {i : Nat} (hi : j.toNatClampNeg = i) (hl : i < vs.length) (hg : g.method = m) (hs : g.stack = .long y :: .int j :: .ref a :: rest) (hd : decode c.code g.pc = .ok (.lastore, 1)) :
    ∃ T' h', Stand p l e R s m args below meth c T' (locs ++ [⟨a, j.toNatClampNeg⟩]) cells slots ∧ T'.heap = h' ∧ Wr h h' a j.toNatClampNeg (.long y) ∧ Ax Z h' a .long (vs.set i (.long y)) ∧ ∀ target, Steps p.tables e below (T'.setTop { g with pc := g.pc + 1, stack := rest }) target → Steps p.tables e below (T.setTop g) target := by
  obtain ⟨cl, A, r⟩ := F
  obtain ⟨T', h', X', e', W, st⟩ := stJ X hx hZ eT A (Ax.inb r hj (by rw [hi]; exact hl)) hg hs hd
  exact ⟨T', h', X', e', W, hi ▸ Ax.set ⟨cl, A, r⟩ W, st⟩
theorem stoB (X : Stand p l e R s m args below meth c T locs cells slots) (hx : p.tables.exec = Jvm.exec) (hZ : Z.Warmed39 s.vm) (eT : T.heap = h) (F : Ax Z h a .byte vs) {y : Int32} (hj : ¬ j < 0) {i : Nat} (hi : j.toNatClampNeg = i) (hl : i < vs.length) (hg : g.method = m) (hs : g.stack = .int y :: .int j :: .ref a :: rest) (hd : decode c.code g.pc = .ok (.bastore, 1)) :
    ∃ T' h', Stand p l e R s m args below meth c T' (locs ++ [⟨a, j.toNatClampNeg⟩]) cells slots ∧ T'.heap = h' ∧ Wr h h' a j.toNatClampNeg (.int (nar .byte y)) ∧ Ax Z h' a .byte (vs.set i (.int (nar .byte y))) ∧ ∀ target, Steps p.tables e below (T'.setTop { g with pc := g.pc + 1, stack := rest }) target → Steps p.tables e below (T.setTop g) target := by
  obtain ⟨cl, A, r⟩ := F
  obtain ⟨T', h', X', e', W, st⟩ := stB X hx hZ eT A (Ax.inb r hj (by rw [hi]; exact hl)) hg hs hd
  exact ⟨T', h', X', e', W, hi ▸ Ax.set ⟨cl, A, r⟩ W, st⟩
theorem stoZ (X : Stand p l e R s m args below meth c T locs cells slots) (hx : p.tables.exec = Jvm.exec) (hZ : Z.Warmed39 s.vm) (eT : T.heap = h) (F : Ax Z h a .boolean vs) {y : Int32} (hj : ¬ j < 0) {i : Nat} (hi : j.toNatClampNeg = i) (hl : i < vs.length) (hg : g.method = m) (hs : g.stack = .int y :: .int j :: .ref a :: rest) (hd : decode c.code g.pc = .ok (.bastore, 1)) :
    ∃ T' h', Stand p l e R s m args below meth c T' (locs ++ [⟨a, j.toNatClampNeg⟩]) cells slots ∧ T'.heap = h' ∧ Wr h h' a j.toNatClampNeg (.int (nar .boolean y)) ∧ Ax Z h' a .boolean (vs.set i (.int (nar .boolean y))) ∧ ∀ target, Steps p.tables e below (T'.setTop { g with pc := g.pc + 1, stack := rest }) target → Steps p.tables e below (T.setTop g) target := by
  obtain ⟨cl, A, r⟩ := F
  obtain ⟨T', h', X', e', W, st⟩ := stZ X hx hZ eT A (Ax.inb r hj (by rw [hi]; exact hl)) hg hs hd
  exact ⟨T', h', X', e', W, hi ▸ Ax.set ⟨cl, A, r⟩ W, st⟩
theorem cloX (X : Stand p l e R s m args below meth c T locs cells slots) (hx : p.tables.exec = Jvm.exec) (hZ : Z.Warmed39 s.vm) {a0 : Array Value} {own ad : String} {index : Nat} (hown : s.vm.findClass own = some m.cls)
    (w1 : (Cond.methodLink own index ⟨ad, "clone", "()Ljava/lang/Object;"⟩).before a0 Z = true) (w2 : (Cond.sameMethod ad "java/lang/Object" "clone" "()Ljava/lang/Object;").before a0 Z = true) (w3 : (Cond.native ⟨"java/lang/Object", "clone", "()Ljava/lang/Object;"⟩).before a0 Z = true)
    (w4 : (Cond.instanceMethod ⟨"java/lang/Object", "clone", "()Ljava/lang/Object;"⟩).before a0 Z = true) (w5 : (Cond.selects ad ⟨ad, "clone", "()Ljava/lang/Object;"⟩ ⟨"java/lang/Object", "clone", "()Ljava/lang/Object;"⟩).before a0 Z = true) (w6 : (Cond.castable ad "java/lang/Cloneable").before a0 Z = true)
    (eT : T.heap = h) (F : Ax Z h a ty vs) (E : Exa Z h a ad) (G : ∀ v ∈ vs, fits ty v = true) (hg : g.method = m) (hsize : g.locals.size = c.maxLocals) (hs : g.stack = .ref a :: rest) (hd : decode c.code g.pc = .ok (.invokevirtual index, 3))
    (hf : 1 ≤ R.frames) {W cap : Nat} (hW : 2 * g.monitorRoom + (rest.map fun v => v.category).sum ≤ W) (hl : W + 14 ≤ R.locals) (hcap : vs.length ≤ cap) (hc : cells + 1 ≤ R.cells) (hsl : slots + cap ≤ R.slots) :
    ∃ T' h', Stand p l e R s m args below meth c T' locs (cells + 1) (slots + cap) ∧ T'.heap = h' ∧ Ext h h' ∧ Ax Z h' h.size ty vs ∧ Exa Z h' h.size ad ∧
      ∀ target, Steps p.tables e below (T'.setTop { g with pc := g.pc + 3, stack := .ref h.size :: rest }) target → Steps p.tables e below (T.setTop g) target := by
  obtain ⟨cl, A, r⟩ := F
  have FC : FitC Z cl := fitC_of A fun i hi v hv => by
    rw [r, List.getElem?_toArray] at hv
    exact G v (List.mem_of_getElem? hv)
  obtain ⟨T', h', X', e', ex, A', E', st⟩ := cloneA X hx hZ hown w1 w2 w3 w4 w5 w6 eT A E FC hg hsize hs hd hf hW hl (by rw [Ax.size r]; exact hcap) hc hsl
  exact ⟨T', h', X', e', ex, ⟨cloneOf cl, A', r⟩, E', st⟩
end OwnKit
theorem pd_0 : parseMethodDescriptor "(I)Z" = some ⟨[.int], some .boolean⟩ := by decide +kernel
theorem d1_0 : decode prog_21_method_40_code 0 = .ok (.iload_n 0, 1) := by decide +kernel
theorem d1_1 : decode prog_21_method_40_code 1 = .ok (.bipush 9, 2) := by decide +kernel
theorem d1_3 : decode prog_21_method_40_code 3 = .ok (.if_icmp .eq 19, 3) := by decide +kernel
theorem d1_6 : decode prog_21_method_40_code 6 = .ok (.iload_n 0, 1) := by decide +kernel
theorem d1_7 : decode prog_21_method_40_code 7 = .ok (.bipush 32, 2) := by decide +kernel
theorem d1_9 : decode prog_21_method_40_code 9 = .ok (.if_icmp .lt 9, 3) := by decide +kernel
theorem d1_12 : decode prog_21_method_40_code 12 = .ok (.iload_n 0, 1) := by decide +kernel
theorem d1_13 : decode prog_21_method_40_code 13 = .ok (.bipush 127, 2) := by decide +kernel
theorem d1_15 : decode prog_21_method_40_code 15 = .ok (.if_icmp .ne 7, 3) := by decide +kernel
theorem d1_18 : decode prog_21_method_40_code 18 = .ok (.iconst 1, 1) := by decide +kernel
theorem d1_19 : decode prog_21_method_40_code 19 = .ok (.goto 4, 3) := by decide +kernel
theorem d1_22 : decode prog_21_method_40_code 22 = .ok (.iconst 0, 1) := by decide +kernel
theorem d1_23 : decode prog_21_method_40_code 23 = .ok (.ireturn, 1) := by decide +kernel
def F1 (p1 : Int32) : Int32 := (if p1 = (9 : Int32) then (0 : Int32)
  else (if p1 < (32 : Int32) then (1 : Int32)
    else (if p1 = (127 : Int32) then (1 : Int32)
      else (0 : Int32))))
theorem pn_1 : plainName "com/example/taulu/taulu/parse/Cursor" = true := by first | (simp [plainName, overriddenIn]; done) | decide +kernel
theorem ef_1 (m : MethodId) (p1 : Int32) : entryFrame m #[(.int p1)] 1 = mkF m 0 #[.val (.int p1)] [] := by first | (simp [entryFrame, mkF, argsToLocals, Value.category]; done) | rfl
def Qrm1 (Z : State) (p1 : Int32) (h0 : Heap) (n0 : Nat) : Option Value → Heap → List Loc → Prop := fun v h L => v = some (.int (F1 p1)) ∧ Fr n0 L ∧ h = h0
set_option maxRecDepth 65536 in
set_option maxHeartbeats 40000000 in
theorem rm1 (l : Launch) (Z : State) (a0 : Array Value) (hw : ∀ d ∈ tables_1, d.before a0 Z = true) (ws : List Jvm.Cond) (p1 : Int32) (h0 : Heap) (n0 : Nat) (Z0 : n0 ≤ h0.size) :
    MetFree l (⟨"com/example/taulu/taulu/parse/Cursor", "isControlCharacter", "(I)Z"⟩ : MethodName) (head1 (Jvm.Cond.code (⟨"com/example/taulu/taulu/parse/Cursor", "isControlCharacter", "(I)Z"⟩ : MethodName) prog_21_method_40_code 1 (some .boolean) :: ws) ({ frames := 0, cells := 0, slots := 0, locals := 0 } : Room)) (fun a U => a = #[(.int p1)] ∧ Z.Warmed39 U.vm ∧ U.heap = h0) (fun _ _ _ _ _ => True) (fun _ U o U' => ∃ v L, o = .returned v ∧ Qrm1 Z p1 h0 n0 v U'.heap L ∧ FrameEnd U o U' L ({ frames := 0, cells := 0, slots := 0, locals := 0 } : Room).cells ({ frames := 0, cells := 0, slots := 0, locals := 0 } : Room).slots) := by
  refine MetFree.of_bodySF (plainFor_of_name pn_1) hisR ?_
  intro p e s m args below meth c s₁ Bd hml0 hP hK
  obtain ⟨rfl, hZ, hh⟩ := hP
  have hx := Bd.exec
  have hby := Bd.bytes
  have hml : c.maxLocals = 1 := hml0
  have hown : s.vm.findClass "com/example/taulu/taulu/parse/Cursor" = some m.cls := findClass_of_methodNamed Bd.named
  have hnm := (name_of_methodNamed Bd.named Bd.method).1
  have hlk : meth.locks = false := BodyLoose.notSynchronized Bd
  have hret := Bd.returns
  have X0 : Stand p l e ({ frames := 0, cells := 0, slots := 0, locals := 0 } : Room) s m #[(.int p1)] below meth c s₁ [] 0 0 := Stand.of_body Bd
  have e0 : s₁.heap = h0 := by rw [← hh, Bd.state]; rfl
  have N0 := Fr.nil n0
  show Done p e below s (Qrm1 Z p1 h0 n0) ({ frames := 0, cells := 0, slots := 0, locals := 0 } : Room).cells ({ frames := 0, cells := 0, slots := 0, locals := 0 } : Room).slots (s₁.setTop (entryFrame m #[(.int p1)] 1))
  refine Done.step (fun t k => castTop (ef_1 m p1) k) ?_
  show Done p e below s _ _ _ (s₁.setTop (mkF m 0 #[.val (.int p1)] []))
  refine Done.step (fun t k => XS.iloadN X0.here hx rfl (hb hby d1_0) rfl k) ?_
  show Done p e below s _ _ _ (s₁.setTop (mkF m 1 #[.val (.int p1)] [(.int p1)]))
  refine Done.step (fun t k => XS.bipush X0.here hx rfl (hb hby d1_1) k) ?_
  show Done p e below s _ _ _ (s₁.setTop (mkF m 3 #[.val (.int p1)] [(.int (9 : Int32)), (.int p1)]))
  by_cases c1 : p1 = (9 : Int32)
  · refine Done.step (fun t k => XS.icmpYes X0.here hx rfl (pc0 := 3) (pc' := 22) rfl (hb hby d1_3) rfl (teq c1).1 (by decide) (by decide) k) ?_
    show Done p e below s _ _ _ (s₁.setTop (mkF m 22 #[.val (.int p1)] []))
    refine Done.step (fun t k => XS.iconst X0.here hx rfl (hb hby d1_22) k) ?_
    show Done p e below s _ _ _ (s₁.setTop (mkF m 23 #[.val (.int p1)] [(.int (0 : Int32))]))
    exact Done.narr X0 hx hlk hret (by simp) (hb hby d1_23) (by decide) (by decide) ⟨by rw [show F1 p1 = (0 : Int32) from by unfold F1; rw [if_pos c1]] <;> rfl, N0, e0⟩
  · refine Done.step (fun t k => XS.icmpNo X0.here hx rfl (hb hby d1_3) rfl (feq c1).1 k) ?_
    show Done p e below s _ _ _ (s₁.setTop (mkF m 6 #[.val (.int p1)] []))
    refine Done.step (fun t k => XS.iloadN X0.here hx rfl (hb hby d1_6) rfl k) ?_
    show Done p e below s _ _ _ (s₁.setTop (mkF m 7 #[.val (.int p1)] [(.int p1)]))
    refine Done.step (fun t k => XS.bipush X0.here hx rfl (hb hby d1_7) k) ?_
    show Done p e below s _ _ _ (s₁.setTop (mkF m 9 #[.val (.int p1)] [(.int (32 : Int32)), (.int p1)]))
    by_cases c2 : p1 < (32 : Int32)
    · refine Done.step (fun t k => XS.icmpYes X0.here hx rfl (pc0 := 9) (pc' := 18) rfl (hb hby d1_9) rfl (tlt c2).1 (by decide) (by decide) k) ?_
      show Done p e below s _ _ _ (s₁.setTop (mkF m 18 #[.val (.int p1)] []))
      refine Done.step (fun t k => XS.iconst X0.here hx rfl (hb hby d1_18) k) ?_
      show Done p e below s _ _ _ (s₁.setTop (mkF m 19 #[.val (.int p1)] [(.int (1 : Int32))]))
      refine Done.step (fun t k => XS.goto X0.here hx rfl (pc0 := 19) (pc' := 23) rfl (hb hby d1_19) (by decide) (by decide) k) ?_
      show Done p e below s _ _ _ (s₁.setTop (mkF m 23 #[.val (.int p1)] [(.int (1 : Int32))]))
      exact Done.narr X0 hx hlk hret (by simp) (hb hby d1_23) (by decide) (by decide) ⟨by rw [show F1 p1 = (1 : Int32) from by unfold F1; rw [if_neg c1, if_pos c2]] <;> rfl, N0, e0⟩
    · refine Done.step (fun t k => XS.icmpNo X0.here hx rfl (hb hby d1_9) rfl (flt c2).1 k) ?_
      show Done p e below s _ _ _ (s₁.setTop (mkF m 12 #[.val (.int p1)] []))
      refine Done.step (fun t k => XS.iloadN X0.here hx rfl (hb hby d1_12) rfl k) ?_
      show Done p e below s _ _ _ (s₁.setTop (mkF m 13 #[.val (.int p1)] [(.int p1)]))
      refine Done.step (fun t k => XS.bipush X0.here hx rfl (hb hby d1_13) k) ?_
      show Done p e below s _ _ _ (s₁.setTop (mkF m 15 #[.val (.int p1)] [(.int (127 : Int32)), (.int p1)]))
      by_cases c3 : p1 = (127 : Int32)
      · refine Done.step (fun t k => XS.icmpNo X0.here hx rfl (hb hby d1_15) rfl (teq c3).2 k) ?_
        show Done p e below s _ _ _ (s₁.setTop (mkF m 18 #[.val (.int p1)] []))
        refine Done.step (fun t k => XS.iconst X0.here hx rfl (hb hby d1_18) k) ?_
        show Done p e below s _ _ _ (s₁.setTop (mkF m 19 #[.val (.int p1)] [(.int (1 : Int32))]))
        refine Done.step (fun t k => XS.goto X0.here hx rfl (pc0 := 19) (pc' := 23) rfl (hb hby d1_19) (by decide) (by decide) k) ?_
        show Done p e below s _ _ _ (s₁.setTop (mkF m 23 #[.val (.int p1)] [(.int (1 : Int32))]))
        exact Done.narr X0 hx hlk hret (by simp) (hb hby d1_23) (by decide) (by decide) ⟨by rw [show F1 p1 = (1 : Int32) from by unfold F1; rw [if_neg c1, if_neg c2, if_pos c3]] <;> rfl, N0, e0⟩
      · refine Done.step (fun t k => XS.icmpYes X0.here hx rfl (pc0 := 15) (pc' := 22) rfl (hb hby d1_15) rfl (feq c3).2 (by decide) (by decide) k) ?_
        show Done p e below s _ _ _ (s₁.setTop (mkF m 22 #[.val (.int p1)] []))
        refine Done.step (fun t k => XS.iconst X0.here hx rfl (hb hby d1_22) k) ?_
        show Done p e below s _ _ _ (s₁.setTop (mkF m 23 #[.val (.int p1)] [(.int (0 : Int32))]))
        exact Done.narr X0 hx hlk hret (by simp) (hb hby d1_23) (by decide) (by decide) ⟨by rw [show F1 p1 = (0 : Int32) from by unfold F1; rw [if_neg c1, if_neg c2, if_neg c3]] <;> rfl, N0, e0⟩
theorem d2_0 : decode method_2_code 0 = .ok (.iload_n 0, 1) := by decide +kernel
theorem d2_1 : decode method_2_code 1 = .ok (.bipush 127, 2) := by decide +kernel
theorem d2_3 : decode method_2_code 3 = .ok (.if_icmp .ne 5, 3) := by decide +kernel
theorem d2_6 : decode method_2_code 6 = .ok (.iconst 1, 1) := by decide +kernel
theorem d2_7 : decode method_2_code 7 = .ok (.ireturn, 1) := by decide +kernel
theorem d2_8 : decode method_2_code 8 = .ok (.iload_n 0, 1) := by decide +kernel
theorem d2_9 : decode method_2_code 9 = .ok (.ifCond .lt 11, 3) := by decide +kernel
theorem d2_12 : decode method_2_code 12 = .ok (.iload_n 0, 1) := by decide +kernel
theorem d2_13 : decode method_2_code 13 = .ok (.bipush 8, 2) := by decide +kernel
theorem d2_15 : decode method_2_code 15 = .ok (.if_icmp .gt 5, 3) := by decide +kernel
theorem d2_18 : decode method_2_code 18 = .ok (.iconst 1, 1) := by decide +kernel
theorem d2_19 : decode method_2_code 19 = .ok (.ireturn, 1) := by decide +kernel
theorem d2_20 : decode method_2_code 20 = .ok (.iload_n 0, 1) := by decide +kernel
theorem d2_21 : decode method_2_code 21 = .ok (.bipush 10, 2) := by decide +kernel
theorem d2_23 : decode method_2_code 23 = .ok (.if_icmp .lt 11, 3) := by decide +kernel
theorem d2_26 : decode method_2_code 26 = .ok (.iload_n 0, 1) := by decide +kernel
theorem d2_27 : decode method_2_code 27 = .ok (.bipush 31, 2) := by decide +kernel
theorem d2_29 : decode method_2_code 29 = .ok (.if_icmp .gt 5, 3) := by decide +kernel
theorem d2_32 : decode method_2_code 32 = .ok (.iconst 1, 1) := by decide +kernel
theorem d2_33 : decode method_2_code 33 = .ok (.ireturn, 1) := by decide +kernel
theorem d2_34 : decode method_2_code 34 = .ok (.iconst 0, 1) := by decide +kernel
theorem d2_35 : decode method_2_code 35 = .ok (.ireturn, 1) := by decide +kernel
def F2 (p1 : Int32) : Int32 := (if p1 = (127 : Int32) then (1 : Int32)
  else (if p1 < (0 : Int32) then (if p1 < (10 : Int32) then (0 : Int32)
      else (if (31 : Int32) < p1 then (0 : Int32)
        else (1 : Int32)))
    else (if (8 : Int32) < p1 then (if p1 < (10 : Int32) then (0 : Int32)
        else (if (31 : Int32) < p1 then (0 : Int32)
          else (1 : Int32)))
      else (1 : Int32))))
theorem pn_2 : plainName "com/example/taulu/taulu/parse/CursorIsControlCharacterPinLaw" = true := by first | (simp [plainName, overriddenIn]; done) | decide +kernel
theorem ef_2 (m : MethodId) (p1 : Int32) : entryFrame m #[(.int p1)] 1 = mkF m 0 #[.val (.int p1)] [] := by first | (simp [entryFrame, mkF, argsToLocals, Value.category]; done) | rfl
def Qrm2 (Z : State) (p1 : Int32) (h0 : Heap) (n0 : Nat) : Option Value → Heap → List Loc → Prop := fun v h L => v = some (.int (F2 p1)) ∧ Fr n0 L ∧ h = h0
set_option maxRecDepth 65536 in
set_option maxHeartbeats 40000000 in
theorem rm2 (l : Launch) (Z : State) (a0 : Array Value) (hw : ∀ d ∈ tables_1, d.before a0 Z = true) (ws : List Jvm.Cond) (p1 : Int32) (h0 : Heap) (n0 : Nat) (Z0 : n0 ≤ h0.size) :
    MetFree l (⟨"com/example/taulu/taulu/parse/CursorIsControlCharacterPinLaw", "refused", "(I)Z"⟩ : MethodName) (head1 (Jvm.Cond.code (⟨"com/example/taulu/taulu/parse/CursorIsControlCharacterPinLaw", "refused", "(I)Z"⟩ : MethodName) method_2_code 1 (some .boolean) :: ws) ({ frames := 0, cells := 0, slots := 0, locals := 0 } : Room)) (fun a U => a = #[(.int p1)] ∧ Z.Warmed39 U.vm ∧ U.heap = h0) (fun _ _ _ _ _ => True) (fun _ U o U' => ∃ v L, o = .returned v ∧ Qrm2 Z p1 h0 n0 v U'.heap L ∧ FrameEnd U o U' L ({ frames := 0, cells := 0, slots := 0, locals := 0 } : Room).cells ({ frames := 0, cells := 0, slots := 0, locals := 0 } : Room).slots) := by
  refine MetFree.of_bodySF (plainFor_of_name pn_2) hisR ?_
  intro p e s m args below meth c s₁ Bd hml0 hP hK
  obtain ⟨rfl, hZ, hh⟩ := hP
  have hx := Bd.exec
  have hby := Bd.bytes
  have hml : c.maxLocals = 1 := hml0
  have hown : s.vm.findClass "com/example/taulu/taulu/parse/CursorIsControlCharacterPinLaw" = some m.cls := findClass_of_methodNamed Bd.named
  have hnm := (name_of_methodNamed Bd.named Bd.method).1
  have hlk : meth.locks = false := BodyLoose.notSynchronized Bd
  have hret := Bd.returns
  have X0 : Stand p l e ({ frames := 0, cells := 0, slots := 0, locals := 0 } : Room) s m #[(.int p1)] below meth c s₁ [] 0 0 := Stand.of_body Bd
  have e0 : s₁.heap = h0 := by rw [← hh, Bd.state]; rfl
  have N0 := Fr.nil n0
  show Done p e below s (Qrm2 Z p1 h0 n0) ({ frames := 0, cells := 0, slots := 0, locals := 0 } : Room).cells ({ frames := 0, cells := 0, slots := 0, locals := 0 } : Room).slots (s₁.setTop (entryFrame m #[(.int p1)] 1))
  refine Done.step (fun t k => castTop (ef_2 m p1) k) ?_
  show Done p e below s _ _ _ (s₁.setTop (mkF m 0 #[.val (.int p1)] []))
  refine Done.step (fun t k => XS.iloadN X0.here hx rfl (hb hby d2_0) rfl k) ?_
  show Done p e below s _ _ _ (s₁.setTop (mkF m 1 #[.val (.int p1)] [(.int p1)]))
  refine Done.step (fun t k => XS.bipush X0.here hx rfl (hb hby d2_1) k) ?_
  show Done p e below s _ _ _ (s₁.setTop (mkF m 3 #[.val (.int p1)] [(.int (127 : Int32)), (.int p1)]))
  by_cases c1 : p1 = (127 : Int32)
  · refine Done.step (fun t k => XS.icmpNo X0.here hx rfl (hb hby d2_3) rfl (teq c1).2 k) ?_
    show Done p e below s _ _ _ (s₁.setTop (mkF m 6 #[.val (.int p1)] []))
    refine Done.step (fun t k => XS.iconst X0.here hx rfl (hb hby d2_6) k) ?_
    show Done p e below s _ _ _ (s₁.setTop (mkF m 7 #[.val (.int p1)] [(.int (1 : Int32))]))
    exact Done.narr X0 hx hlk hret (by simp) (hb hby d2_7) (by decide) (by decide) ⟨by rw [show F2 p1 = (1 : Int32) from by unfold F2; rw [if_pos c1]] <;> rfl, N0, e0⟩
  · refine Done.step (fun t k => XS.icmpYes X0.here hx rfl (pc0 := 3) (pc' := 8) rfl (hb hby d2_3) rfl (feq c1).2 (by decide) (by decide) k) ?_
    show Done p e below s _ _ _ (s₁.setTop (mkF m 8 #[.val (.int p1)] []))
    refine Done.step (fun t k => XS.iloadN X0.here hx rfl (hb hby d2_8) rfl k) ?_
    show Done p e below s _ _ _ (s₁.setTop (mkF m 9 #[.val (.int p1)] [(.int p1)]))
    by_cases c2 : p1 < (0 : Int32)
    · refine Done.step (fun t k => XS.ifYes X0.here hx rfl (pc0 := 9) (pc' := 20) rfl (hb hby d2_9) rfl ((if0 _ _).trans (tlt c2).1) (by decide) (by decide) k) ?_
      show Done p e below s _ _ _ (s₁.setTop (mkF m 20 #[.val (.int p1)] []))
      refine Done.step (fun t k => XS.iloadN X0.here hx rfl (hb hby d2_20) rfl k) ?_
      show Done p e below s _ _ _ (s₁.setTop (mkF m 21 #[.val (.int p1)] [(.int p1)]))
      refine Done.step (fun t k => XS.bipush X0.here hx rfl (hb hby d2_21) k) ?_
      show Done p e below s _ _ _ (s₁.setTop (mkF m 23 #[.val (.int p1)] [(.int (10 : Int32)), (.int p1)]))
      by_cases c3 : p1 < (10 : Int32)
      · refine Done.step (fun t k => XS.icmpYes X0.here hx rfl (pc0 := 23) (pc' := 34) rfl (hb hby d2_23) rfl (tlt c3).1 (by decide) (by decide) k) ?_
        show Done p e below s _ _ _ (s₁.setTop (mkF m 34 #[.val (.int p1)] []))
        refine Done.step (fun t k => XS.iconst X0.here hx rfl (hb hby d2_34) k) ?_
        show Done p e below s _ _ _ (s₁.setTop (mkF m 35 #[.val (.int p1)] [(.int (0 : Int32))]))
        exact Done.narr X0 hx hlk hret (by simp) (hb hby d2_35) (by decide) (by decide) ⟨by rw [show F2 p1 = (0 : Int32) from by unfold F2; rw [if_neg c1, if_pos c2, if_pos c3]] <;> rfl, N0, e0⟩
      · refine Done.step (fun t k => XS.icmpNo X0.here hx rfl (hb hby d2_23) rfl (flt c3).1 k) ?_
        show Done p e below s _ _ _ (s₁.setTop (mkF m 26 #[.val (.int p1)] []))
        refine Done.step (fun t k => XS.iloadN X0.here hx rfl (hb hby d2_26) rfl k) ?_
        show Done p e below s _ _ _ (s₁.setTop (mkF m 27 #[.val (.int p1)] [(.int p1)]))
        refine Done.step (fun t k => XS.bipush X0.here hx rfl (hb hby d2_27) k) ?_
        show Done p e below s _ _ _ (s₁.setTop (mkF m 29 #[.val (.int p1)] [(.int (31 : Int32)), (.int p1)]))
        by_cases c4 : (31 : Int32) < p1
        · refine Done.step (fun t k => XS.icmpYes X0.here hx rfl (pc0 := 29) (pc' := 34) rfl (hb hby d2_29) rfl (tlt c4).2.2.1 (by decide) (by decide) k) ?_
          show Done p e below s _ _ _ (s₁.setTop (mkF m 34 #[.val (.int p1)] []))
          refine Done.step (fun t k => XS.iconst X0.here hx rfl (hb hby d2_34) k) ?_
          show Done p e below s _ _ _ (s₁.setTop (mkF m 35 #[.val (.int p1)] [(.int (0 : Int32))]))
          exact Done.narr X0 hx hlk hret (by simp) (hb hby d2_35) (by decide) (by decide) ⟨by rw [show F2 p1 = (0 : Int32) from by unfold F2; rw [if_neg c1, if_pos c2, if_neg c3, if_pos c4]] <;> rfl, N0, e0⟩
        · refine Done.step (fun t k => XS.icmpNo X0.here hx rfl (hb hby d2_29) rfl (flt c4).2.2.1 k) ?_
          show Done p e below s _ _ _ (s₁.setTop (mkF m 32 #[.val (.int p1)] []))
          refine Done.step (fun t k => XS.iconst X0.here hx rfl (hb hby d2_32) k) ?_
          show Done p e below s _ _ _ (s₁.setTop (mkF m 33 #[.val (.int p1)] [(.int (1 : Int32))]))
          exact Done.narr X0 hx hlk hret (by simp) (hb hby d2_33) (by decide) (by decide) ⟨by rw [show F2 p1 = (1 : Int32) from by unfold F2; rw [if_neg c1, if_pos c2, if_neg c3, if_neg c4]] <;> rfl, N0, e0⟩
    · refine Done.step (fun t k => XS.ifNo X0.here hx rfl (hb hby d2_9) rfl ((if0 _ _).trans (flt c2).1) k) ?_
      show Done p e below s _ _ _ (s₁.setTop (mkF m 12 #[.val (.int p1)] []))
      refine Done.step (fun t k => XS.iloadN X0.here hx rfl (hb hby d2_12) rfl k) ?_
      show Done p e below s _ _ _ (s₁.setTop (mkF m 13 #[.val (.int p1)] [(.int p1)]))
      refine Done.step (fun t k => XS.bipush X0.here hx rfl (hb hby d2_13) k) ?_
      show Done p e below s _ _ _ (s₁.setTop (mkF m 15 #[.val (.int p1)] [(.int (8 : Int32)), (.int p1)]))
      by_cases c5 : (8 : Int32) < p1
      · refine Done.step (fun t k => XS.icmpYes X0.here hx rfl (pc0 := 15) (pc' := 20) rfl (hb hby d2_15) rfl (tlt c5).2.2.1 (by decide) (by decide) k) ?_
        show Done p e below s _ _ _ (s₁.setTop (mkF m 20 #[.val (.int p1)] []))
        refine Done.step (fun t k => XS.iloadN X0.here hx rfl (hb hby d2_20) rfl k) ?_
        show Done p e below s _ _ _ (s₁.setTop (mkF m 21 #[.val (.int p1)] [(.int p1)]))
        refine Done.step (fun t k => XS.bipush X0.here hx rfl (hb hby d2_21) k) ?_
        show Done p e below s _ _ _ (s₁.setTop (mkF m 23 #[.val (.int p1)] [(.int (10 : Int32)), (.int p1)]))
        by_cases c6 : p1 < (10 : Int32)
        · refine Done.step (fun t k => XS.icmpYes X0.here hx rfl (pc0 := 23) (pc' := 34) rfl (hb hby d2_23) rfl (tlt c6).1 (by decide) (by decide) k) ?_
          show Done p e below s _ _ _ (s₁.setTop (mkF m 34 #[.val (.int p1)] []))
          refine Done.step (fun t k => XS.iconst X0.here hx rfl (hb hby d2_34) k) ?_
          show Done p e below s _ _ _ (s₁.setTop (mkF m 35 #[.val (.int p1)] [(.int (0 : Int32))]))
          exact Done.narr X0 hx hlk hret (by simp) (hb hby d2_35) (by decide) (by decide) ⟨by rw [show F2 p1 = (0 : Int32) from by unfold F2; rw [if_neg c1, if_neg c2, if_pos c5, if_pos c6]] <;> rfl, N0, e0⟩
        · refine Done.step (fun t k => XS.icmpNo X0.here hx rfl (hb hby d2_23) rfl (flt c6).1 k) ?_
          show Done p e below s _ _ _ (s₁.setTop (mkF m 26 #[.val (.int p1)] []))
          refine Done.step (fun t k => XS.iloadN X0.here hx rfl (hb hby d2_26) rfl k) ?_
          show Done p e below s _ _ _ (s₁.setTop (mkF m 27 #[.val (.int p1)] [(.int p1)]))
          refine Done.step (fun t k => XS.bipush X0.here hx rfl (hb hby d2_27) k) ?_
          show Done p e below s _ _ _ (s₁.setTop (mkF m 29 #[.val (.int p1)] [(.int (31 : Int32)), (.int p1)]))
          by_cases c7 : (31 : Int32) < p1
          · refine Done.step (fun t k => XS.icmpYes X0.here hx rfl (pc0 := 29) (pc' := 34) rfl (hb hby d2_29) rfl (tlt c7).2.2.1 (by decide) (by decide) k) ?_
            show Done p e below s _ _ _ (s₁.setTop (mkF m 34 #[.val (.int p1)] []))
            refine Done.step (fun t k => XS.iconst X0.here hx rfl (hb hby d2_34) k) ?_
            show Done p e below s _ _ _ (s₁.setTop (mkF m 35 #[.val (.int p1)] [(.int (0 : Int32))]))
            exact Done.narr X0 hx hlk hret (by simp) (hb hby d2_35) (by decide) (by decide) ⟨by rw [show F2 p1 = (0 : Int32) from by unfold F2; rw [if_neg c1, if_neg c2, if_pos c5, if_neg c6, if_pos c7]] <;> rfl, N0, e0⟩
          · refine Done.step (fun t k => XS.icmpNo X0.here hx rfl (hb hby d2_29) rfl (flt c7).2.2.1 k) ?_
            show Done p e below s _ _ _ (s₁.setTop (mkF m 32 #[.val (.int p1)] []))
            refine Done.step (fun t k => XS.iconst X0.here hx rfl (hb hby d2_32) k) ?_
            show Done p e below s _ _ _ (s₁.setTop (mkF m 33 #[.val (.int p1)] [(.int (1 : Int32))]))
            exact Done.narr X0 hx hlk hret (by simp) (hb hby d2_33) (by decide) (by decide) ⟨by rw [show F2 p1 = (1 : Int32) from by unfold F2; rw [if_neg c1, if_neg c2, if_pos c5, if_neg c6, if_neg c7]] <;> rfl, N0, e0⟩
      · refine Done.step (fun t k => XS.icmpNo X0.here hx rfl (hb hby d2_15) rfl (flt c5).2.2.1 k) ?_
        show Done p e below s _ _ _ (s₁.setTop (mkF m 18 #[.val (.int p1)] []))
        refine Done.step (fun t k => XS.iconst X0.here hx rfl (hb hby d2_18) k) ?_
        show Done p e below s _ _ _ (s₁.setTop (mkF m 19 #[.val (.int p1)] [(.int (1 : Int32))]))
        exact Done.narr X0 hx hlk hret (by simp) (hb hby d2_19) (by decide) (by decide) ⟨by rw [show F2 p1 = (1 : Int32) from by unfold F2; rw [if_neg c1, if_neg c2, if_neg c5]] <;> rfl, N0, e0⟩
theorem tl32_0 : (0 : Int32).toInt = 0 := by decide
theorem tl32_1 : (1 : Int32).toInt = 1 := by decide
theorem tl32_10 : (10 : Int32).toInt = 10 := by decide
theorem tl32_127 : (127 : Int32).toInt = 127 := by decide
theorem tl32_31 : (31 : Int32).toInt = 31 := by decide
theorem tl32_32 : (32 : Int32).toInt = 32 := by decide
theorem tl32_8 : (8 : Int32).toInt = 8 := by decide
theorem tl32_9 : (9 : Int32).toInt = 9 := by decide
def F0 (p1 : Int32) (p2 : Int32) : Int32 := (if (F1 ((p1 &&& (2147483647 : Int32)) % (1114112 : Int32))) = (F2 ((p1 &&& (2147483647 : Int32)) % (1114112 : Int32))) then (if (F1 (p2 &&& (255 : Int32))) = (F2 (p2 &&& (255 : Int32))) then (1 : Int32)
    else (0 : Int32))
  else (if (F1 (p2 &&& (255 : Int32))) = (F2 (p2 &&& (255 : Int32))) then (0 : Int32)
    else (0 : Int32)))
theorem own_same (s : Int32) (h : 0 ≤ s.toInt) : F1 s = F2 s := by
  unfold F1 F2
  simp only [Int32.lt_iff_toInt_lt, ← Int32.toInt_inj, tl32_0, tl32_1, tl32_10, tl32_127, tl32_31, tl32_32, tl32_8, tl32_9]
  repeat' split
  all_goals first | rfl | (exfalso; omega)
theorem law_one (p1 p2 : Int32) : F0 p1 p2 = 1 := by
  have m1 := c_mask p1 (2147483647 : Int32) 31 (by decide) (by decide)
  have m2 := c_mask p2 (255 : Int32) 8 (by decide) (by decide)
  have d := (c_irem (p1 &&& (2147483647 : Int32)) (1114112 : Int32) 1114112 (by decide)).1 (by omega)
  have s1 := own_same ((p1 &&& (2147483647 : Int32)) % (1114112 : Int32)) (by omega)
  have s2 := own_same (p2 &&& (255 : Int32)) (by omega)
  unfold F0
  rw [if_pos s1, if_pos s2]
theorem pn_0 : plainName "com/example/taulu/taulu/parse/CursorIsControlCharacterPinLaw" = true := by first | (simp [plainName, overriddenIn]; done) | decide +kernel
theorem ef_0 (m : MethodId) (p1 : Int32) (p2 : Int32) : entryFrame m #[(.int p1), (.int p2)] maxLocals = mkF m 0 #[.val (.int p1), .val (.int p2), .unset, .unset, .unset, .unset] [] := by first | (simp [entryFrame, mkF, argsToLocals, Value.category, maxLocals]; done) | rfl
def Qrm0 (Z : State) (p1 : Int32) (p2 : Int32) (h0 : Heap) (n0 : Nat) : Option Value → Heap → List Loc → Prop := fun v h L => v = some (.int 1) ∧ Fr n0 L
set_option maxRecDepth 65536 in
set_option maxHeartbeats 40000000 in
theorem rm0 (l : Launch) (Z : State) (a0 : Array Value) (hw : ∀ d ∈ tables_1, d.before a0 Z = true) (ws : List Jvm.Cond) (p1 : Int32) (p2 : Int32) (h0 : Heap) (n0 : Nat) (Z0 : n0 ≤ h0.size) :
    MetFree l x (head1 (Jvm.Cond.code x code maxLocals ret :: ws) room_1) (fun a U => a = #[(.int p1), (.int p2)] ∧ Z.Warmed39 U.vm ∧ U.heap = h0) (fun _ _ _ _ _ => True) (fun _ U o U' => ∃ v L, o = .returned v ∧ Qrm0 Z p1 p2 h0 n0 v U'.heap L ∧ FrameEnd U o U' L room_1.cells room_1.slots) := by
  refine MetFree.of_bodySF (plainFor_of_name pn_0) hisR ?_
  intro p e s m args below meth c s₁ Bd hml0 hP hK
  obtain ⟨rfl, hZ, hh⟩ := hP
  have hx := Bd.exec
  have hby := Bd.bytes
  have hml : c.maxLocals = 6 := hml0
  have hown : s.vm.findClass "com/example/taulu/taulu/parse/CursorIsControlCharacterPinLaw" = some m.cls := findClass_of_methodNamed Bd.named
  have hnm := (name_of_methodNamed Bd.named Bd.method).1
  have hlk : meth.locks = false := BodyLoose.notSynchronized Bd
  have hret := Bd.returns
  have X0 : Stand p l e room_1 s m #[(.int p1), (.int p2)] below meth c s₁ [] 0 0 := Stand.of_body Bd
  have e0 : s₁.heap = h0 := by rw [← hh, Bd.state]; rfl
  have N0 := Fr.nil n0
  show Done p e below s (Qrm0 Z p1 p2 h0 n0) room_1.cells room_1.slots (s₁.setTop (entryFrame m #[(.int p1), (.int p2)] maxLocals))
  refine Done.step (fun t k => castTop (ef_0 m p1 p2) k) ?_
  show Done p e below s _ _ _ (s₁.setTop (mkF m 0 #[.val (.int p1), .val (.int p2), .unset, .unset, .unset, .unset] []))
  refine Done.step (fun t k => XS.iloadN X0.here hx rfl (hb hby at_0) rfl k) ?_
  show Done p e below s _ _ _ (s₁.setTop (mkF m 1 #[.val (.int p1), .val (.int p2), .unset, .unset, .unset, .unset] [(.int p1)]))
  refine Done.step (X0.ldcInt hx hown (mvT hZ (hw _ (List.mem_of_getElem? (i := 0) rfl))) (g := (mkF m 1 #[.val (.int p1), .val (.int p2), .unset, .unset, .unset, .unset] [(.int p1)])) rfl (hb hby at_1)) ?_
  show Done p e below s _ _ _ (s₁.setTop (mkF m 3 #[.val (.int p1), .val (.int p2), .unset, .unset, .unset, .unset] [(.int (2147483647 : Int32)), (.int p1)]))
  refine Done.step (fun t k => XS.iand X0.here hx rfl (hb hby at_3) rfl k) ?_
  show Done p e below s _ _ _ (s₁.setTop (mkF m 4 #[.val (.int p1), .val (.int p2), .unset, .unset, .unset, .unset] [(.int (p1 &&& (2147483647 : Int32)))]))
  refine Done.step (X0.ldcInt hx hown (mvT hZ (hw _ (List.mem_of_getElem? (i := 1) rfl))) (g := (mkF m 4 #[.val (.int p1), .val (.int p2), .unset, .unset, .unset, .unset] [(.int (p1 &&& (2147483647 : Int32)))])) rfl (hb hby at_4)) ?_
  show Done p e below s _ _ _ (s₁.setTop (mkF m 6 #[.val (.int p1), .val (.int p2), .unset, .unset, .unset, .unset] [(.int (1114112 : Int32)), (.int (p1 &&& (2147483647 : Int32)))]))
  refine Done.step (fun t k => iremM X0 hx rfl (hb hby at_6) rfl (by decide) k) ?_
  show Done p e below s _ _ _ (s₁.setTop (mkF m 7 #[.val (.int p1), .val (.int p2), .unset, .unset, .unset, .unset] [(.int ((p1 &&& (2147483647 : Int32)) % (1114112 : Int32)))]))
  refine Done.step (fun t k => XS.istoreN X0.here hx rfl (hb hby at_7) rfl (l' := #[.val (.int p1), .val (.int p2), .val (.int ((p1 &&& (2147483647 : Int32)) % (1114112 : Int32))), .unset, .unset, .unset]) rfl k) ?_
  show Done p e below s _ _ _ (s₁.setTop (mkF m 8 #[.val (.int p1), .val (.int p2), .val (.int ((p1 &&& (2147483647 : Int32)) % (1114112 : Int32))), .unset, .unset, .unset] []))
  refine Done.step (fun t k => XS.iloadN X0.here hx rfl (hb hby at_8) rfl k) ?_
  show Done p e below s _ _ _ (s₁.setTop (mkF m 9 #[.val (.int p1), .val (.int p2), .val (.int ((p1 &&& (2147483647 : Int32)) % (1114112 : Int32))), .unset, .unset, .unset] [(.int p2)]))
  refine Done.step (fun t k => XS.sipush X0.here hx rfl (hb hby at_9) k) ?_
  show Done p e below s _ _ _ (s₁.setTop (mkF m 12 #[.val (.int p1), .val (.int p2), .val (.int ((p1 &&& (2147483647 : Int32)) % (1114112 : Int32))), .unset, .unset, .unset] [(.int (255 : Int32)), (.int p2)]))
  refine Done.step (fun t k => XS.iand X0.here hx rfl (hb hby at_12) rfl k) ?_
  show Done p e below s _ _ _ (s₁.setTop (mkF m 13 #[.val (.int p1), .val (.int p2), .val (.int ((p1 &&& (2147483647 : Int32)) % (1114112 : Int32))), .unset, .unset, .unset] [(.int (p2 &&& (255 : Int32)))]))
  refine Done.step (fun t k => XS.istoreN X0.here hx rfl (hb hby at_13) rfl (l' := #[.val (.int p1), .val (.int p2), .val (.int ((p1 &&& (2147483647 : Int32)) % (1114112 : Int32))), .val (.int (p2 &&& (255 : Int32))), .unset, .unset]) rfl k) ?_
  show Done p e below s _ _ _ (s₁.setTop (mkF m 14 #[.val (.int p1), .val (.int p2), .val (.int ((p1 &&& (2147483647 : Int32)) % (1114112 : Int32))), .val (.int (p2 &&& (255 : Int32))), .unset, .unset] []))
  refine Done.step (fun t k => XS.iloadN X0.here hx rfl (hb hby at_14) rfl k) ?_
  show Done p e below s _ _ _ (s₁.setTop (mkF m 15 #[.val (.int p1), .val (.int p2), .val (.int ((p1 &&& (2147483647 : Int32)) % (1114112 : Int32))), .val (.int (p2 &&& (255 : Int32))), .unset, .unset] [(.int ((p1 &&& (2147483647 : Int32)) % (1114112 : Int32)))]))
  obtain ⟨v1, _, ⟨T1, L1, k1, n1⟩, -, X1, ⟨Lc1, hQ1, l1, y1, z1⟩, st1⟩ := Jvm.LawKit.callS X0 hx (y := (⟨"com/example/taulu/taulu/parse/Cursor", "isControlCharacter", "(I)Z"⟩ : MethodName)) hown (mvT hZ (hw _ (List.mem_of_getElem? (i := 2) rfl))) (mvT hZ (hw _ (List.mem_of_getElem? (i := 3) rfl))) (mvT hZ (hw _ (List.mem_of_getElem? (i := 4) rfl))) (mvT hZ (hw _ (List.mem_of_getElem? (i := 5) rfl))) (by decide) (backOf (W := 0) (rm1 l Z a0 hw [] ((p1 &&& (2147483647 : Int32)) % (1114112 : Int32)) h0 n0 Z0 ) hZ (hw _ (List.mem_of_getElem? (i := 5) rfl)) (hw _ (List.mem_of_getElem? (i := 4) rfl)) (by decide) (by decide)) (g := (mkF m 15 #[.val (.int p1), .val (.int p2), .val (.int ((p1 &&& (2147483647 : Int32)) % (1114112 : Int32))), .val (.int (p2 &&& (255 : Int32))), .unset, .unset] [(.int ((p1 &&& (2147483647 : Int32)) % (1114112 : Int32)))])) rfl (by rw [hml]; rfl) (argsL := [(.int ((p1 &&& (2147483647 : Int32)) % (1114112 : Int32)))]) (rest := []) (lenOf pd_0 rfl) rfl (by show 2 * 0 + _ ≤ _; exact Nat.le_of_eq rfl) (hb hby at_15) (fun _ _ => ⟨rfl, e0, (by decide : 0 + 0 ≤ _), (by decide : 0 + 0 ≤ _)⟩)
  dsimp only [Pt.U, Pt.locs, Pt.cells, Pt.slots] at X1 l1 y1 z1 st1 hQ1
  subst l1 y1 z1
  refine Done.step st1 ?_
  obtain ⟨rfl, N1q, e1⟩ := hQ1
  have N1 := Fr.app N0 N1q
  show Done p e below s _ _ _ (T1.setTop (mkF m 18 #[.val (.int p1), .val (.int p2), .val (.int ((p1 &&& (2147483647 : Int32)) % (1114112 : Int32))), .val (.int (p2 &&& (255 : Int32))), .unset, .unset] [(.int (F1 ((p1 &&& (2147483647 : Int32)) % (1114112 : Int32))))]))
  refine Done.step (fun t k => XS.iloadN X1.here hx rfl (hb hby at_18) rfl k) ?_
  show Done p e below s _ _ _ (T1.setTop (mkF m 19 #[.val (.int p1), .val (.int p2), .val (.int ((p1 &&& (2147483647 : Int32)) % (1114112 : Int32))), .val (.int (p2 &&& (255 : Int32))), .unset, .unset] [(.int ((p1 &&& (2147483647 : Int32)) % (1114112 : Int32))), (.int (F1 ((p1 &&& (2147483647 : Int32)) % (1114112 : Int32))))]))
  obtain ⟨v2, _, ⟨T2, L2, k2, n2⟩, -, X2, ⟨Lc2, hQ2, l2, y2, z2⟩, st2⟩ := Jvm.LawKit.callS X1 hx (y := (⟨"com/example/taulu/taulu/parse/CursorIsControlCharacterPinLaw", "refused", "(I)Z"⟩ : MethodName)) hown (mvT hZ (hw _ (List.mem_of_getElem? (i := 6) rfl))) (mvT hZ (hw _ (List.mem_of_getElem? (i := 7) rfl))) (mvT hZ (hw _ (List.mem_of_getElem? (i := 8) rfl))) (mvT hZ (hw _ (List.mem_of_getElem? (i := 9) rfl))) (by decide) (backOf (W := 1) (rm2 l Z a0 hw [] ((p1 &&& (2147483647 : Int32)) % (1114112 : Int32)) h0 n0 Z0 ) hZ (hw _ (List.mem_of_getElem? (i := 9) rfl)) (hw _ (List.mem_of_getElem? (i := 8) rfl)) (by decide) (by decide)) (g := (mkF m 19 #[.val (.int p1), .val (.int p2), .val (.int ((p1 &&& (2147483647 : Int32)) % (1114112 : Int32))), .val (.int (p2 &&& (255 : Int32))), .unset, .unset] [(.int ((p1 &&& (2147483647 : Int32)) % (1114112 : Int32))), (.int (F1 ((p1 &&& (2147483647 : Int32)) % (1114112 : Int32))))])) rfl (by rw [hml]; rfl) (argsL := [(.int ((p1 &&& (2147483647 : Int32)) % (1114112 : Int32)))]) (rest := [(.int (F1 ((p1 &&& (2147483647 : Int32)) % (1114112 : Int32))))]) (lenOf pd_0 rfl) rfl (by show 2 * 0 + _ ≤ _; exact Nat.le_of_eq rfl) (hb hby at_19) (fun _ _ => ⟨rfl, e1, (by decide : 0 + 0 ≤ _), (by decide : 0 + 0 ≤ _)⟩)
  dsimp only [Pt.U, Pt.locs, Pt.cells, Pt.slots] at X2 l2 y2 z2 st2 hQ2
  subst l2 y2 z2
  refine Done.step st2 ?_
  obtain ⟨rfl, N2q, e2⟩ := hQ2
  have N2 := Fr.app N1 N2q
  show Done p e below s _ _ _ (T2.setTop (mkF m 22 #[.val (.int p1), .val (.int p2), .val (.int ((p1 &&& (2147483647 : Int32)) % (1114112 : Int32))), .val (.int (p2 &&& (255 : Int32))), .unset, .unset] [(.int (F2 ((p1 &&& (2147483647 : Int32)) % (1114112 : Int32)))), (.int (F1 ((p1 &&& (2147483647 : Int32)) % (1114112 : Int32))))]))
  by_cases c3 : (F1 ((p1 &&& (2147483647 : Int32)) % (1114112 : Int32))) = (F2 ((p1 &&& (2147483647 : Int32)) % (1114112 : Int32)))
  · refine Done.step (fun t k => XS.icmpNo X2.here hx rfl (hb hby at_22) rfl (teq c3).2 k) ?_
    show Done p e below s _ _ _ (T2.setTop (mkF m 25 #[.val (.int p1), .val (.int p2), .val (.int ((p1 &&& (2147483647 : Int32)) % (1114112 : Int32))), .val (.int (p2 &&& (255 : Int32))), .unset, .unset] []))
    refine Done.step (fun t k => XS.iconst X2.here hx rfl (hb hby at_25) k) ?_
    show Done p e below s _ _ _ (T2.setTop (mkF m 26 #[.val (.int p1), .val (.int p2), .val (.int ((p1 &&& (2147483647 : Int32)) % (1114112 : Int32))), .val (.int (p2 &&& (255 : Int32))), .unset, .unset] [(.int (1 : Int32))]))
    refine Done.step (fun t k => XS.goto X2.here hx rfl (pc0 := 26) (pc' := 30) rfl (hb hby at_26) (by decide) (by decide) k) ?_
    show Done p e below s _ _ _ (T2.setTop (mkF m 30 #[.val (.int p1), .val (.int p2), .val (.int ((p1 &&& (2147483647 : Int32)) % (1114112 : Int32))), .val (.int (p2 &&& (255 : Int32))), .unset, .unset] [(.int (1 : Int32))]))
    refine Done.step (fun t k => XS.istore X2.here hx rfl (hb hby at_30) rfl (l' := #[.val (.int p1), .val (.int p2), .val (.int ((p1 &&& (2147483647 : Int32)) % (1114112 : Int32))), .val (.int (p2 &&& (255 : Int32))), .val (.int (1 : Int32)), .unset]) rfl k) ?_
    show Done p e below s _ _ _ (T2.setTop (mkF m 32 #[.val (.int p1), .val (.int p2), .val (.int ((p1 &&& (2147483647 : Int32)) % (1114112 : Int32))), .val (.int (p2 &&& (255 : Int32))), .val (.int (1 : Int32)), .unset] []))
    refine Done.step (fun t k => XS.iloadN X2.here hx rfl (hb hby at_32) rfl k) ?_
    show Done p e below s _ _ _ (T2.setTop (mkF m 33 #[.val (.int p1), .val (.int p2), .val (.int ((p1 &&& (2147483647 : Int32)) % (1114112 : Int32))), .val (.int (p2 &&& (255 : Int32))), .val (.int (1 : Int32)), .unset] [(.int (p2 &&& (255 : Int32)))]))
    obtain ⟨v4, _, ⟨T4, L4, k4, n4⟩, -, X4, ⟨Lc4, hQ4, l4, y4, z4⟩, st4⟩ := Jvm.LawKit.callS X2 hx (y := (⟨"com/example/taulu/taulu/parse/Cursor", "isControlCharacter", "(I)Z"⟩ : MethodName)) hown (mvT hZ (hw _ (List.mem_of_getElem? (i := 2) rfl))) (mvT hZ (hw _ (List.mem_of_getElem? (i := 3) rfl))) (mvT hZ (hw _ (List.mem_of_getElem? (i := 4) rfl))) (mvT hZ (hw _ (List.mem_of_getElem? (i := 5) rfl))) (by decide) (backOf (W := 0) (rm1 l Z a0 hw [] (p2 &&& (255 : Int32)) h0 n0 Z0 ) hZ (hw _ (List.mem_of_getElem? (i := 5) rfl)) (hw _ (List.mem_of_getElem? (i := 4) rfl)) (by decide) (by decide)) (g := (mkF m 33 #[.val (.int p1), .val (.int p2), .val (.int ((p1 &&& (2147483647 : Int32)) % (1114112 : Int32))), .val (.int (p2 &&& (255 : Int32))), .val (.int (1 : Int32)), .unset] [(.int (p2 &&& (255 : Int32)))])) rfl (by rw [hml]; rfl) (argsL := [(.int (p2 &&& (255 : Int32)))]) (rest := []) (lenOf pd_0 rfl) rfl (by show 2 * 0 + _ ≤ _; exact Nat.le_of_eq rfl) (hb hby at_33) (fun _ _ => ⟨rfl, e2, (by decide : 0 + 0 ≤ _), (by decide : 0 + 0 ≤ _)⟩)
    dsimp only [Pt.U, Pt.locs, Pt.cells, Pt.slots] at X4 l4 y4 z4 st4 hQ4
    subst l4 y4 z4
    refine Done.step st4 ?_
    obtain ⟨rfl, N4q, e4⟩ := hQ4
    have N4 := Fr.app N2 N4q
    show Done p e below s _ _ _ (T4.setTop (mkF m 36 #[.val (.int p1), .val (.int p2), .val (.int ((p1 &&& (2147483647 : Int32)) % (1114112 : Int32))), .val (.int (p2 &&& (255 : Int32))), .val (.int (1 : Int32)), .unset] [(.int (F1 (p2 &&& (255 : Int32))))]))
    refine Done.step (fun t k => XS.iloadN X4.here hx rfl (hb hby at_36) rfl k) ?_
    show Done p e below s _ _ _ (T4.setTop (mkF m 37 #[.val (.int p1), .val (.int p2), .val (.int ((p1 &&& (2147483647 : Int32)) % (1114112 : Int32))), .val (.int (p2 &&& (255 : Int32))), .val (.int (1 : Int32)), .unset] [(.int (p2 &&& (255 : Int32))), (.int (F1 (p2 &&& (255 : Int32))))]))
    obtain ⟨v5, _, ⟨T5, L5, k5, n5⟩, -, X5, ⟨Lc5, hQ5, l5, y5, z5⟩, st5⟩ := Jvm.LawKit.callS X4 hx (y := (⟨"com/example/taulu/taulu/parse/CursorIsControlCharacterPinLaw", "refused", "(I)Z"⟩ : MethodName)) hown (mvT hZ (hw _ (List.mem_of_getElem? (i := 6) rfl))) (mvT hZ (hw _ (List.mem_of_getElem? (i := 7) rfl))) (mvT hZ (hw _ (List.mem_of_getElem? (i := 8) rfl))) (mvT hZ (hw _ (List.mem_of_getElem? (i := 9) rfl))) (by decide) (backOf (W := 1) (rm2 l Z a0 hw [] (p2 &&& (255 : Int32)) h0 n0 Z0 ) hZ (hw _ (List.mem_of_getElem? (i := 9) rfl)) (hw _ (List.mem_of_getElem? (i := 8) rfl)) (by decide) (by decide)) (g := (mkF m 37 #[.val (.int p1), .val (.int p2), .val (.int ((p1 &&& (2147483647 : Int32)) % (1114112 : Int32))), .val (.int (p2 &&& (255 : Int32))), .val (.int (1 : Int32)), .unset] [(.int (p2 &&& (255 : Int32))), (.int (F1 (p2 &&& (255 : Int32))))])) rfl (by rw [hml]; rfl) (argsL := [(.int (p2 &&& (255 : Int32)))]) (rest := [(.int (F1 (p2 &&& (255 : Int32))))]) (lenOf pd_0 rfl) rfl (by show 2 * 0 + _ ≤ _; exact Nat.le_of_eq rfl) (hb hby at_37) (fun _ _ => ⟨rfl, e4, (by decide : 0 + 0 ≤ _), (by decide : 0 + 0 ≤ _)⟩)
    dsimp only [Pt.U, Pt.locs, Pt.cells, Pt.slots] at X5 l5 y5 z5 st5 hQ5
    subst l5 y5 z5
    refine Done.step st5 ?_
    obtain ⟨rfl, N5q, e5⟩ := hQ5
    have N5 := Fr.app N4 N5q
    show Done p e below s _ _ _ (T5.setTop (mkF m 40 #[.val (.int p1), .val (.int p2), .val (.int ((p1 &&& (2147483647 : Int32)) % (1114112 : Int32))), .val (.int (p2 &&& (255 : Int32))), .val (.int (1 : Int32)), .unset] [(.int (F2 (p2 &&& (255 : Int32)))), (.int (F1 (p2 &&& (255 : Int32))))]))
    by_cases c6 : (F1 (p2 &&& (255 : Int32))) = (F2 (p2 &&& (255 : Int32)))
    · refine Done.step (fun t k => XS.icmpNo X5.here hx rfl (hb hby at_40) rfl (teq c6).2 k) ?_
      show Done p e below s _ _ _ (T5.setTop (mkF m 43 #[.val (.int p1), .val (.int p2), .val (.int ((p1 &&& (2147483647 : Int32)) % (1114112 : Int32))), .val (.int (p2 &&& (255 : Int32))), .val (.int (1 : Int32)), .unset] []))
      refine Done.step (fun t k => XS.iconst X5.here hx rfl (hb hby at_43) k) ?_
      show Done p e below s _ _ _ (T5.setTop (mkF m 44 #[.val (.int p1), .val (.int p2), .val (.int ((p1 &&& (2147483647 : Int32)) % (1114112 : Int32))), .val (.int (p2 &&& (255 : Int32))), .val (.int (1 : Int32)), .unset] [(.int (1 : Int32))]))
      refine Done.step (fun t k => XS.goto X5.here hx rfl (pc0 := 44) (pc' := 48) rfl (hb hby at_44) (by decide) (by decide) k) ?_
      show Done p e below s _ _ _ (T5.setTop (mkF m 48 #[.val (.int p1), .val (.int p2), .val (.int ((p1 &&& (2147483647 : Int32)) % (1114112 : Int32))), .val (.int (p2 &&& (255 : Int32))), .val (.int (1 : Int32)), .unset] [(.int (1 : Int32))]))
      refine Done.step (fun t k => XS.istore X5.here hx rfl (hb hby at_48) rfl (l' := #[.val (.int p1), .val (.int p2), .val (.int ((p1 &&& (2147483647 : Int32)) % (1114112 : Int32))), .val (.int (p2 &&& (255 : Int32))), .val (.int (1 : Int32)), .val (.int (1 : Int32))]) rfl k) ?_
      show Done p e below s _ _ _ (T5.setTop (mkF m 50 #[.val (.int p1), .val (.int p2), .val (.int ((p1 &&& (2147483647 : Int32)) % (1114112 : Int32))), .val (.int (p2 &&& (255 : Int32))), .val (.int (1 : Int32)), .val (.int (1 : Int32))] []))
      refine Done.step (fun t k => XS.iload X5.here hx rfl (hb hby at_50) rfl k) ?_
      show Done p e below s _ _ _ (T5.setTop (mkF m 52 #[.val (.int p1), .val (.int p2), .val (.int ((p1 &&& (2147483647 : Int32)) % (1114112 : Int32))), .val (.int (p2 &&& (255 : Int32))), .val (.int (1 : Int32)), .val (.int (1 : Int32))] [(.int (1 : Int32))]))
      refine Done.step (fun t k => XS.ifNo X5.here hx rfl (hb hby at_52) rfl ((if0 _ _).trans (feq (by decide)).1) k) ?_
      show Done p e below s _ _ _ (T5.setTop (mkF m 55 #[.val (.int p1), .val (.int p2), .val (.int ((p1 &&& (2147483647 : Int32)) % (1114112 : Int32))), .val (.int (p2 &&& (255 : Int32))), .val (.int (1 : Int32)), .val (.int (1 : Int32))] []))
      refine Done.step (fun t k => XS.iload X5.here hx rfl (hb hby at_55) rfl k) ?_
      show Done p e below s _ _ _ (T5.setTop (mkF m 57 #[.val (.int p1), .val (.int p2), .val (.int ((p1 &&& (2147483647 : Int32)) % (1114112 : Int32))), .val (.int (p2 &&& (255 : Int32))), .val (.int (1 : Int32)), .val (.int (1 : Int32))] [(.int (1 : Int32))]))
      refine Done.step (fun t k => XS.ifNo X5.here hx rfl (hb hby at_57) rfl ((if0 _ _).trans (feq (by decide)).1) k) ?_
      show Done p e below s _ _ _ (T5.setTop (mkF m 60 #[.val (.int p1), .val (.int p2), .val (.int ((p1 &&& (2147483647 : Int32)) % (1114112 : Int32))), .val (.int (p2 &&& (255 : Int32))), .val (.int (1 : Int32)), .val (.int (1 : Int32))] []))
      refine Done.step (fun t k => XS.iconst X5.here hx rfl (hb hby at_60) k) ?_
      show Done p e below s _ _ _ (T5.setTop (mkF m 61 #[.val (.int p1), .val (.int p2), .val (.int ((p1 &&& (2147483647 : Int32)) % (1114112 : Int32))), .val (.int (p2 &&& (255 : Int32))), .val (.int (1 : Int32)), .val (.int (1 : Int32))] [(.int (1 : Int32))]))
      refine Done.step (fun t k => XS.goto X5.here hx rfl (pc0 := 61) (pc' := 65) rfl (hb hby at_61) (by decide) (by decide) k) ?_
      show Done p e below s _ _ _ (T5.setTop (mkF m 65 #[.val (.int p1), .val (.int p2), .val (.int ((p1 &&& (2147483647 : Int32)) % (1114112 : Int32))), .val (.int (p2 &&& (255 : Int32))), .val (.int (1 : Int32)), .val (.int (1 : Int32))] [(.int (1 : Int32))]))
      exact Done.narr X5 hx hlk hret (by simp) (hb hby at_65) (by decide) (by decide) ⟨by rw [← law_one p1 p2, show F0 p1 p2 = (1 : Int32) from by unfold F0; rw [if_pos c3, if_pos c6]] <;> rfl, N5⟩
    · refine Done.step (fun t k => XS.icmpYes X5.here hx rfl (pc0 := 40) (pc' := 47) rfl (hb hby at_40) rfl (feq c6).2 (by decide) (by decide) k) ?_
      show Done p e below s _ _ _ (T5.setTop (mkF m 47 #[.val (.int p1), .val (.int p2), .val (.int ((p1 &&& (2147483647 : Int32)) % (1114112 : Int32))), .val (.int (p2 &&& (255 : Int32))), .val (.int (1 : Int32)), .unset] []))
      refine Done.step (fun t k => XS.iconst X5.here hx rfl (hb hby at_47) k) ?_
      show Done p e below s _ _ _ (T5.setTop (mkF m 48 #[.val (.int p1), .val (.int p2), .val (.int ((p1 &&& (2147483647 : Int32)) % (1114112 : Int32))), .val (.int (p2 &&& (255 : Int32))), .val (.int (1 : Int32)), .unset] [(.int (0 : Int32))]))
      refine Done.step (fun t k => XS.istore X5.here hx rfl (hb hby at_48) rfl (l' := #[.val (.int p1), .val (.int p2), .val (.int ((p1 &&& (2147483647 : Int32)) % (1114112 : Int32))), .val (.int (p2 &&& (255 : Int32))), .val (.int (1 : Int32)), .val (.int (0 : Int32))]) rfl k) ?_
      show Done p e below s _ _ _ (T5.setTop (mkF m 50 #[.val (.int p1), .val (.int p2), .val (.int ((p1 &&& (2147483647 : Int32)) % (1114112 : Int32))), .val (.int (p2 &&& (255 : Int32))), .val (.int (1 : Int32)), .val (.int (0 : Int32))] []))
      refine Done.step (fun t k => XS.iload X5.here hx rfl (hb hby at_50) rfl k) ?_
      show Done p e below s _ _ _ (T5.setTop (mkF m 52 #[.val (.int p1), .val (.int p2), .val (.int ((p1 &&& (2147483647 : Int32)) % (1114112 : Int32))), .val (.int (p2 &&& (255 : Int32))), .val (.int (1 : Int32)), .val (.int (0 : Int32))] [(.int (1 : Int32))]))
      refine Done.step (fun t k => XS.ifNo X5.here hx rfl (hb hby at_52) rfl ((if0 _ _).trans (feq (by decide)).1) k) ?_
      show Done p e below s _ _ _ (T5.setTop (mkF m 55 #[.val (.int p1), .val (.int p2), .val (.int ((p1 &&& (2147483647 : Int32)) % (1114112 : Int32))), .val (.int (p2 &&& (255 : Int32))), .val (.int (1 : Int32)), .val (.int (0 : Int32))] []))
      refine Done.step (fun t k => XS.iload X5.here hx rfl (hb hby at_55) rfl k) ?_
      show Done p e below s _ _ _ (T5.setTop (mkF m 57 #[.val (.int p1), .val (.int p2), .val (.int ((p1 &&& (2147483647 : Int32)) % (1114112 : Int32))), .val (.int (p2 &&& (255 : Int32))), .val (.int (1 : Int32)), .val (.int (0 : Int32))] [(.int (0 : Int32))]))
      refine Done.step (fun t k => XS.ifYes X5.here hx rfl (pc0 := 57) (pc' := 64) rfl (hb hby at_57) rfl ((if0 _ _).trans (teq (by decide)).1) (by decide) (by decide) k) ?_
      show Done p e below s _ _ _ (T5.setTop (mkF m 64 #[.val (.int p1), .val (.int p2), .val (.int ((p1 &&& (2147483647 : Int32)) % (1114112 : Int32))), .val (.int (p2 &&& (255 : Int32))), .val (.int (1 : Int32)), .val (.int (0 : Int32))] []))
      refine Done.step (fun t k => XS.iconst X5.here hx rfl (hb hby at_64) k) ?_
      show Done p e below s _ _ _ (T5.setTop (mkF m 65 #[.val (.int p1), .val (.int p2), .val (.int ((p1 &&& (2147483647 : Int32)) % (1114112 : Int32))), .val (.int (p2 &&& (255 : Int32))), .val (.int (1 : Int32)), .val (.int (0 : Int32))] [(.int (0 : Int32))]))
      exact Done.narr X5 hx hlk hret (by simp) (hb hby at_65) (by decide) (by decide) ⟨by rw [← law_one p1 p2, show F0 p1 p2 = (0 : Int32) from by unfold F0; rw [if_pos c3, if_neg c6]] <;> rfl, N5⟩
  · refine Done.step (fun t k => XS.icmpYes X2.here hx rfl (pc0 := 22) (pc' := 29) rfl (hb hby at_22) rfl (feq c3).2 (by decide) (by decide) k) ?_
    show Done p e below s _ _ _ (T2.setTop (mkF m 29 #[.val (.int p1), .val (.int p2), .val (.int ((p1 &&& (2147483647 : Int32)) % (1114112 : Int32))), .val (.int (p2 &&& (255 : Int32))), .unset, .unset] []))
    refine Done.step (fun t k => XS.iconst X2.here hx rfl (hb hby at_29) k) ?_
    show Done p e below s _ _ _ (T2.setTop (mkF m 30 #[.val (.int p1), .val (.int p2), .val (.int ((p1 &&& (2147483647 : Int32)) % (1114112 : Int32))), .val (.int (p2 &&& (255 : Int32))), .unset, .unset] [(.int (0 : Int32))]))
    refine Done.step (fun t k => XS.istore X2.here hx rfl (hb hby at_30) rfl (l' := #[.val (.int p1), .val (.int p2), .val (.int ((p1 &&& (2147483647 : Int32)) % (1114112 : Int32))), .val (.int (p2 &&& (255 : Int32))), .val (.int (0 : Int32)), .unset]) rfl k) ?_
    show Done p e below s _ _ _ (T2.setTop (mkF m 32 #[.val (.int p1), .val (.int p2), .val (.int ((p1 &&& (2147483647 : Int32)) % (1114112 : Int32))), .val (.int (p2 &&& (255 : Int32))), .val (.int (0 : Int32)), .unset] []))
    refine Done.step (fun t k => XS.iloadN X2.here hx rfl (hb hby at_32) rfl k) ?_
    show Done p e below s _ _ _ (T2.setTop (mkF m 33 #[.val (.int p1), .val (.int p2), .val (.int ((p1 &&& (2147483647 : Int32)) % (1114112 : Int32))), .val (.int (p2 &&& (255 : Int32))), .val (.int (0 : Int32)), .unset] [(.int (p2 &&& (255 : Int32)))]))
    obtain ⟨v7, _, ⟨T7, L7, k7, n7⟩, -, X7, ⟨Lc7, hQ7, l7, y7, z7⟩, st7⟩ := Jvm.LawKit.callS X2 hx (y := (⟨"com/example/taulu/taulu/parse/Cursor", "isControlCharacter", "(I)Z"⟩ : MethodName)) hown (mvT hZ (hw _ (List.mem_of_getElem? (i := 2) rfl))) (mvT hZ (hw _ (List.mem_of_getElem? (i := 3) rfl))) (mvT hZ (hw _ (List.mem_of_getElem? (i := 4) rfl))) (mvT hZ (hw _ (List.mem_of_getElem? (i := 5) rfl))) (by decide) (backOf (W := 0) (rm1 l Z a0 hw [] (p2 &&& (255 : Int32)) h0 n0 Z0 ) hZ (hw _ (List.mem_of_getElem? (i := 5) rfl)) (hw _ (List.mem_of_getElem? (i := 4) rfl)) (by decide) (by decide)) (g := (mkF m 33 #[.val (.int p1), .val (.int p2), .val (.int ((p1 &&& (2147483647 : Int32)) % (1114112 : Int32))), .val (.int (p2 &&& (255 : Int32))), .val (.int (0 : Int32)), .unset] [(.int (p2 &&& (255 : Int32)))])) rfl (by rw [hml]; rfl) (argsL := [(.int (p2 &&& (255 : Int32)))]) (rest := []) (lenOf pd_0 rfl) rfl (by show 2 * 0 + _ ≤ _; exact Nat.le_of_eq rfl) (hb hby at_33) (fun _ _ => ⟨rfl, e2, (by decide : 0 + 0 ≤ _), (by decide : 0 + 0 ≤ _)⟩)
    dsimp only [Pt.U, Pt.locs, Pt.cells, Pt.slots] at X7 l7 y7 z7 st7 hQ7
    subst l7 y7 z7
    refine Done.step st7 ?_
    obtain ⟨rfl, N7q, e7⟩ := hQ7
    have N7 := Fr.app N2 N7q
    show Done p e below s _ _ _ (T7.setTop (mkF m 36 #[.val (.int p1), .val (.int p2), .val (.int ((p1 &&& (2147483647 : Int32)) % (1114112 : Int32))), .val (.int (p2 &&& (255 : Int32))), .val (.int (0 : Int32)), .unset] [(.int (F1 (p2 &&& (255 : Int32))))]))
    refine Done.step (fun t k => XS.iloadN X7.here hx rfl (hb hby at_36) rfl k) ?_
    show Done p e below s _ _ _ (T7.setTop (mkF m 37 #[.val (.int p1), .val (.int p2), .val (.int ((p1 &&& (2147483647 : Int32)) % (1114112 : Int32))), .val (.int (p2 &&& (255 : Int32))), .val (.int (0 : Int32)), .unset] [(.int (p2 &&& (255 : Int32))), (.int (F1 (p2 &&& (255 : Int32))))]))
    obtain ⟨v8, _, ⟨T8, L8, k8, n8⟩, -, X8, ⟨Lc8, hQ8, l8, y8, z8⟩, st8⟩ := Jvm.LawKit.callS X7 hx (y := (⟨"com/example/taulu/taulu/parse/CursorIsControlCharacterPinLaw", "refused", "(I)Z"⟩ : MethodName)) hown (mvT hZ (hw _ (List.mem_of_getElem? (i := 6) rfl))) (mvT hZ (hw _ (List.mem_of_getElem? (i := 7) rfl))) (mvT hZ (hw _ (List.mem_of_getElem? (i := 8) rfl))) (mvT hZ (hw _ (List.mem_of_getElem? (i := 9) rfl))) (by decide) (backOf (W := 1) (rm2 l Z a0 hw [] (p2 &&& (255 : Int32)) h0 n0 Z0 ) hZ (hw _ (List.mem_of_getElem? (i := 9) rfl)) (hw _ (List.mem_of_getElem? (i := 8) rfl)) (by decide) (by decide)) (g := (mkF m 37 #[.val (.int p1), .val (.int p2), .val (.int ((p1 &&& (2147483647 : Int32)) % (1114112 : Int32))), .val (.int (p2 &&& (255 : Int32))), .val (.int (0 : Int32)), .unset] [(.int (p2 &&& (255 : Int32))), (.int (F1 (p2 &&& (255 : Int32))))])) rfl (by rw [hml]; rfl) (argsL := [(.int (p2 &&& (255 : Int32)))]) (rest := [(.int (F1 (p2 &&& (255 : Int32))))]) (lenOf pd_0 rfl) rfl (by show 2 * 0 + _ ≤ _; exact Nat.le_of_eq rfl) (hb hby at_37) (fun _ _ => ⟨rfl, e7, (by decide : 0 + 0 ≤ _), (by decide : 0 + 0 ≤ _)⟩)
    dsimp only [Pt.U, Pt.locs, Pt.cells, Pt.slots] at X8 l8 y8 z8 st8 hQ8
    subst l8 y8 z8
    refine Done.step st8 ?_
    obtain ⟨rfl, N8q, e8⟩ := hQ8
    have N8 := Fr.app N7 N8q
    show Done p e below s _ _ _ (T8.setTop (mkF m 40 #[.val (.int p1), .val (.int p2), .val (.int ((p1 &&& (2147483647 : Int32)) % (1114112 : Int32))), .val (.int (p2 &&& (255 : Int32))), .val (.int (0 : Int32)), .unset] [(.int (F2 (p2 &&& (255 : Int32)))), (.int (F1 (p2 &&& (255 : Int32))))]))
    by_cases c9 : (F1 (p2 &&& (255 : Int32))) = (F2 (p2 &&& (255 : Int32)))
    · refine Done.step (fun t k => XS.icmpNo X8.here hx rfl (hb hby at_40) rfl (teq c9).2 k) ?_
      show Done p e below s _ _ _ (T8.setTop (mkF m 43 #[.val (.int p1), .val (.int p2), .val (.int ((p1 &&& (2147483647 : Int32)) % (1114112 : Int32))), .val (.int (p2 &&& (255 : Int32))), .val (.int (0 : Int32)), .unset] []))
      refine Done.step (fun t k => XS.iconst X8.here hx rfl (hb hby at_43) k) ?_
      show Done p e below s _ _ _ (T8.setTop (mkF m 44 #[.val (.int p1), .val (.int p2), .val (.int ((p1 &&& (2147483647 : Int32)) % (1114112 : Int32))), .val (.int (p2 &&& (255 : Int32))), .val (.int (0 : Int32)), .unset] [(.int (1 : Int32))]))
      refine Done.step (fun t k => XS.goto X8.here hx rfl (pc0 := 44) (pc' := 48) rfl (hb hby at_44) (by decide) (by decide) k) ?_
      show Done p e below s _ _ _ (T8.setTop (mkF m 48 #[.val (.int p1), .val (.int p2), .val (.int ((p1 &&& (2147483647 : Int32)) % (1114112 : Int32))), .val (.int (p2 &&& (255 : Int32))), .val (.int (0 : Int32)), .unset] [(.int (1 : Int32))]))
      refine Done.step (fun t k => XS.istore X8.here hx rfl (hb hby at_48) rfl (l' := #[.val (.int p1), .val (.int p2), .val (.int ((p1 &&& (2147483647 : Int32)) % (1114112 : Int32))), .val (.int (p2 &&& (255 : Int32))), .val (.int (0 : Int32)), .val (.int (1 : Int32))]) rfl k) ?_
      show Done p e below s _ _ _ (T8.setTop (mkF m 50 #[.val (.int p1), .val (.int p2), .val (.int ((p1 &&& (2147483647 : Int32)) % (1114112 : Int32))), .val (.int (p2 &&& (255 : Int32))), .val (.int (0 : Int32)), .val (.int (1 : Int32))] []))
      refine Done.step (fun t k => XS.iload X8.here hx rfl (hb hby at_50) rfl k) ?_
      show Done p e below s _ _ _ (T8.setTop (mkF m 52 #[.val (.int p1), .val (.int p2), .val (.int ((p1 &&& (2147483647 : Int32)) % (1114112 : Int32))), .val (.int (p2 &&& (255 : Int32))), .val (.int (0 : Int32)), .val (.int (1 : Int32))] [(.int (0 : Int32))]))
      refine Done.step (fun t k => XS.ifYes X8.here hx rfl (pc0 := 52) (pc' := 64) rfl (hb hby at_52) rfl ((if0 _ _).trans (teq (by decide)).1) (by decide) (by decide) k) ?_
      show Done p e below s _ _ _ (T8.setTop (mkF m 64 #[.val (.int p1), .val (.int p2), .val (.int ((p1 &&& (2147483647 : Int32)) % (1114112 : Int32))), .val (.int (p2 &&& (255 : Int32))), .val (.int (0 : Int32)), .val (.int (1 : Int32))] []))
      refine Done.step (fun t k => XS.iconst X8.here hx rfl (hb hby at_64) k) ?_
      show Done p e below s _ _ _ (T8.setTop (mkF m 65 #[.val (.int p1), .val (.int p2), .val (.int ((p1 &&& (2147483647 : Int32)) % (1114112 : Int32))), .val (.int (p2 &&& (255 : Int32))), .val (.int (0 : Int32)), .val (.int (1 : Int32))] [(.int (0 : Int32))]))
      exact Done.narr X8 hx hlk hret (by simp) (hb hby at_65) (by decide) (by decide) ⟨by rw [← law_one p1 p2, show F0 p1 p2 = (0 : Int32) from by unfold F0; rw [if_neg c3, if_pos c9]] <;> rfl, N8⟩
    · refine Done.step (fun t k => XS.icmpYes X8.here hx rfl (pc0 := 40) (pc' := 47) rfl (hb hby at_40) rfl (feq c9).2 (by decide) (by decide) k) ?_
      show Done p e below s _ _ _ (T8.setTop (mkF m 47 #[.val (.int p1), .val (.int p2), .val (.int ((p1 &&& (2147483647 : Int32)) % (1114112 : Int32))), .val (.int (p2 &&& (255 : Int32))), .val (.int (0 : Int32)), .unset] []))
      refine Done.step (fun t k => XS.iconst X8.here hx rfl (hb hby at_47) k) ?_
      show Done p e below s _ _ _ (T8.setTop (mkF m 48 #[.val (.int p1), .val (.int p2), .val (.int ((p1 &&& (2147483647 : Int32)) % (1114112 : Int32))), .val (.int (p2 &&& (255 : Int32))), .val (.int (0 : Int32)), .unset] [(.int (0 : Int32))]))
      refine Done.step (fun t k => XS.istore X8.here hx rfl (hb hby at_48) rfl (l' := #[.val (.int p1), .val (.int p2), .val (.int ((p1 &&& (2147483647 : Int32)) % (1114112 : Int32))), .val (.int (p2 &&& (255 : Int32))), .val (.int (0 : Int32)), .val (.int (0 : Int32))]) rfl k) ?_
      show Done p e below s _ _ _ (T8.setTop (mkF m 50 #[.val (.int p1), .val (.int p2), .val (.int ((p1 &&& (2147483647 : Int32)) % (1114112 : Int32))), .val (.int (p2 &&& (255 : Int32))), .val (.int (0 : Int32)), .val (.int (0 : Int32))] []))
      refine Done.step (fun t k => XS.iload X8.here hx rfl (hb hby at_50) rfl k) ?_
      show Done p e below s _ _ _ (T8.setTop (mkF m 52 #[.val (.int p1), .val (.int p2), .val (.int ((p1 &&& (2147483647 : Int32)) % (1114112 : Int32))), .val (.int (p2 &&& (255 : Int32))), .val (.int (0 : Int32)), .val (.int (0 : Int32))] [(.int (0 : Int32))]))
      refine Done.step (fun t k => XS.ifYes X8.here hx rfl (pc0 := 52) (pc' := 64) rfl (hb hby at_52) rfl ((if0 _ _).trans (teq (by decide)).1) (by decide) (by decide) k) ?_
      show Done p e below s _ _ _ (T8.setTop (mkF m 64 #[.val (.int p1), .val (.int p2), .val (.int ((p1 &&& (2147483647 : Int32)) % (1114112 : Int32))), .val (.int (p2 &&& (255 : Int32))), .val (.int (0 : Int32)), .val (.int (0 : Int32))] []))
      refine Done.step (fun t k => XS.iconst X8.here hx rfl (hb hby at_64) k) ?_
      show Done p e below s _ _ _ (T8.setTop (mkF m 65 #[.val (.int p1), .val (.int p2), .val (.int ((p1 &&& (2147483647 : Int32)) % (1114112 : Int32))), .val (.int (p2 &&& (255 : Int32))), .val (.int (0 : Int32)), .val (.int (0 : Int32))] [(.int (0 : Int32))]))
      exact Done.narr X8 hx hlk hret (by simp) (hb hby at_65) (by decide) (by decide) ⟨by rw [← law_one p1 p2, show F0 p1 p2 = (0 : Int32) from by unfold F0; rw [if_neg c3, if_neg c9]] <;> rfl, N8⟩
set_option maxRecDepth 65536 in
set_option maxHeartbeats 40000000 in
theorem comes_1 {Post : Tables → Env → Array Value → State → Outcome → State → Prop} (hpost : ∀ tb e args s v u, (limb_1_1.after args s (.returned v) u = true ∧ limb_1_2.after args s (.returned v) u = true ∧ True) → FrameEnd s (.returned v) u (Jvm.fieldLocs frame_1_writes args s ++ Jvm.arrayLocs frame_1_arrays args s ++ Jvm.staticLocs frame_1_statics s) 0 0 → Post tb e args s (.returned v) u) :
    ArmFor flags0 classFile x code maxLocals ret World_1 tables_1 room_1 Calls_1 rest_1 Pre_1 Post := by
  intro l hfl _ _ p e ha hc hk s m args below hf hA hF happ hP
  obtain ⟨hcalls, hrest, hpre⟩ := hP
  obtain ⟨-, -, -, hnamed, -, -, -, hat⟩ := (Spec.applies_iff hf).mp happ
  obtain ⟨hg, hn⟩ := and_e (Cond.before_iff.mp (show (Jvm.Cond.and given_1 narrow_1).before args s = true from hpre))
  obtain ⟨hcnt, g0⟩ := and_e hg
  obtain ⟨u0, g1⟩ := and_e g0
  have u1 := g1
  obtain ⟨w0, w1, rfl⟩ : ∃ w0 w1 : Value, args = #[w0, w1] := by
    have hs : args.size = 2 := by simpa [Cond.value, given_1] using hcnt
    obtain ⟨L⟩ := args
    match L, hs with
    | [w0, w1], _ => exact ⟨w0, w1, rfl⟩
  have hw := fun d (hd : d ∈ tables_1) => atoms_spec (ws := Jvm.Cond.code x code maxLocals ret :: tables_1) hat d (List.mem_cons_of_mem _ hd)
  have hfit : Fit s := fun {y c} hc i hi => by
    obtain ⟨ha, rfl⟩ := Array.getElem?_eq_some_iff.mp hc
    have q := List.all_eq_true.mp ((Array.all_eq_true_iff_forall_mem.mp hF) _ (Array.getElem_mem ha)) i (List.mem_range.mpr hi)
    simpa [Array.getElem?_eq_getElem hi] using q
  obtain ⟨i0, ei0⟩ := is_v u0
  obtain rfl : w0 = (.int i0) := Option.some.inj ei0
  obtain ⟨i1, ei1⟩ := is_v u1
  obtain rfl : w1 = (.int i1) := Option.some.inj ei1
  obtain ⟨n, o, h1, h2, h3, _, L, rfl, ⟨rfl, N⟩, hq⟩ := rm0 l s _ hw tables_1 i0 i1 s.heap s.heap.size (Nat.le_refl _) p e ha hc hk s m _ below hf ((Spec.applies_iff_loose hf).mp happ).1 ⟨rfl, State.Warmed39.refl s, rfl⟩ trivial
  refine ⟨n, _, h1, h2, h3, hpost _ _ _ _ _ _ ⟨Cond.after_iff.mpr rfl, Cond.after_iff.mpr (eq_i res_at (Term.int_eval (1)) rfl), trivial⟩ ⟨hq.1, hq.2.1, (hq.2.2.sift fun y hy => Or.inr (N y hy)).mono (by decide) (by decide)⟩⟩
theorem main_1_1 : Claimed_1_1 := comes_1 fun _ _ _ _ _ _ h hF => ⟨h.1, hF⟩
theorem main_1_2 : Claimed_1_2 := comes_1 fun _ _ _ _ _ _ h hF => ⟨h.2.1, hF⟩
end Jvm.Pilot.@@N@@
namespace Jvm.Pilot.@@N@@
open Jvm Jvm.ClassFile Sem Op Lib Jvm.Free Jvm.Stand Jvm.Pilot.@@N@@.Jvm.D
/-! MADE BY PROGRAM (witnessworld.py) out of the Statement's table words and the real class files: 9 classes; the members and pool entries that the words name. The judged class is class 1, her method 2. -/
namespace start1
open Jvm.ClassFile
def u (s : String) : CpInfo := .utf8 (stringToUtf16 s)
/-- a pool by its gaps: so many unusable entries, then the entry; so many at the end -/
def gap : Nat → List CpInfo → List CpInfo
  | 0, r => r
  | n + 1, r => .unusable :: gap n r
def poolList (es : List (Nat × CpInfo)) (last : Nat) : List CpInfo := es.foldr (fun e r => gap e.1 (e.2 :: r)) (gap last [])
def pool (es : List (Nat × CpInfo)) (last : Nat) : Array CpInfo := ⟨poolList es last⟩
def fileOf (pool : Array CpInfo) (this : Nat) (attrs : Array Attribute := #[]) (ms : Array MethodInfo := #[]) (fl : Nat := 33) (sup : Nat := 0) (ifs : Array Nat := #[]) (fds : Array FieldInfo := #[]) : ClassFile where
  minorVersion := 0
  majorVersion := 65
  constantPool := pool
  accessFlags := fl
  thisClass := this
  superClass := sup
  interfaces := ifs
  fields := fds
  methods := ms
  attributes := attrs
def plain (name : String) (sup : Option ClassId) : Class where
  name := name
  kind := .ordinary
  loader := none
  accessFlags := 33
  super := sup
  interfaces := #[]
  cf := none
  fields := #[]
  methods := #[]
  instanceTypes := #[]
  staticTypes := #[]
  resolved := #[]
  callSites := []
  init := .initialized
  statics := none
  mirror := none

def pool0 : Array CpInfo := pool [(5, u "<init>"), (0, u "()V"), (1, .class_ 10), (1, u "java/lang/Object")] 113

def k0m0 : Method := { name := "<init>", desc := "()V", sig := { parameters := [], returnType := none }, accessFlags := 1, code := none }
/-- java/lang/Object -/
def k0 : Class := { plain "java/lang/Object" none with
  accessFlags := 33
  interfaces := #[]
  cf := some (fileOf pool0 8 #[] #[{ accessFlags := 1, nameIndex := 5, descriptorIndex := 6, attributes := #[] }] 33 0 #[] #[])
  fields := #[]
  methods := #[k0m0]
  instanceTypes := #[]
  staticTypes := #[]
  resolved := Array.replicate 124 none
  statics := none }

def pool1 : Array CpInfo := pool [(2, .class_ 4), (1, u "java/lang/Object"), (0, u "<init>"), (0, u "()V"), (0, .integer 2147483647), (0, .integer 1114112), (0, .methodref 10 11), (0, .class_ 12), (0, .nameAndType 13 14), (0, u "com/example/taulu/taulu/parse/Cursor"), (0, u "isControlCharacter"), (0, u "(I)Z"), (0, .methodref 16 17), (0, .class_ 18), (0, .nameAndType 19 14), (0, u "com/example/taulu/taulu/parse/CursorIsControlCharacterPinLaw"), (0, u "refused"), (3, u "law"), (0, u "(II)Z")] 2

def k1m0 : Method := { name := "<init>", desc := "()V", sig := { parameters := [], returnType := none }, accessFlags := 2, code := none }
def k1c1 : Code := { maxStack := 2, maxLocals := 1, code := method_2_code, exceptionTable := #[], attributes := #[] }
def k1m1 : Method := { name := "refused", desc := "(I)Z", sig := { parameters := [.int], returnType := some .boolean }, accessFlags := 10, code := some k1c1 }
def k1c2 : Code := { maxStack := 2, maxLocals := 6, code := code, exceptionTable := #[], attributes := #[] }
def k1m2 : Method := { name := "law", desc := "(II)Z", sig := { parameters := [.int, .int], returnType := some .boolean }, accessFlags := 9, code := some k1c2 }
/-- com/example/taulu/taulu/parse/CursorIsControlCharacterPinLaw -/
def k1 : Class := { plain "com/example/taulu/taulu/parse/CursorIsControlCharacterPinLaw" (some 0) with
  accessFlags := 49
  interfaces := #[]
  cf := some (fileOf pool1 16 #[] #[{ accessFlags := 2, nameIndex := 5, descriptorIndex := 6, attributes := #[] }, { accessFlags := 10, nameIndex := 19, descriptorIndex := 14, attributes := #[] }, { accessFlags := 9, nameIndex := 23, descriptorIndex := 24, attributes := #[] }] 49 2 #[] #[])
  fields := #[]
  methods := #[k1m0, k1m1, k1m2]
  instanceTypes := #[]
  staticTypes := #[]
  resolved := Array.replicate 27 none
  statics := none }

def pool2 : Array CpInfo := pool [(2, .class_ 4), (1, u "java/lang/Object"), (3, .class_ 10), (1, u "com/example/taulu/taulu/parse/Cursor"), (0, u "text"), (0, u "Ljava/lang/String;"), (2, u "unreadable"), (134, u "position"), (13, u "I"), (31, u "heldBack"), (0, u "Lcom/example/taulu/taulu/parse/Cursor$HeldBackForm;"), (1, .class_ 201), (1, u "com/example/taulu/taulu/parse/Cursor$HeldBackForm"), (45, u "(I)Z"), (38, u "isControlCharacter"), (22, u "END"), (2, u "BYTE_ORDER_MARK"), (0, u "C"), (0, u "REPLACEMENT_CHARACTER")] 55

def k2c0 : Code := { maxStack := 2, maxLocals := 1, code := prog_21_method_40_code, exceptionTable := #[], attributes := #[] }
def k2m0 : Method := { name := "isControlCharacter", desc := "(I)Z", sig := { parameters := [.int], returnType := some .boolean }, accessFlags := 8, code := some k2c0 }
/-- com/example/taulu/taulu/parse/Cursor -/
def k2 : Class := { plain "com/example/taulu/taulu/parse/Cursor" (some 0) with
  accessFlags := 32
  interfaces := #[]
  cf := some (fileOf pool2 8 #[.nestMembers #[199]] #[{ accessFlags := 8, nameIndex := 286, descriptorIndex := 247, attributes := #[] }] 32 2 #[] #[{ accessFlags := 24, nameIndex := 309, descriptorIndex := 164, attributes := #[] }, { accessFlags := 26, nameIndex := 312, descriptorIndex := 313, attributes := #[] }, { accessFlags := 26, nameIndex := 314, descriptorIndex := 313, attributes := #[] }, { accessFlags := 18, nameIndex := 11, descriptorIndex := 12, attributes := #[] }, { accessFlags := 18, nameIndex := 15, descriptorIndex := 12, attributes := #[] }, { accessFlags := 2, nameIndex := 150, descriptorIndex := 164, attributes := #[] }, { accessFlags := 2, nameIndex := 196, descriptorIndex := 197, attributes := #[] }])
  fields := #[{ name := "END", type := .int, accessFlags := 24, slot := 0, constantValue := 0 }, { name := "BYTE_ORDER_MARK", type := .char, accessFlags := 26, slot := 1, constantValue := 0 }, { name := "REPLACEMENT_CHARACTER", type := .char, accessFlags := 26, slot := 2, constantValue := 0 }, { name := "text", type := (.object "java/lang/String"), accessFlags := 18, slot := 0, constantValue := 0 }, { name := "unreadable", type := (.object "java/lang/String"), accessFlags := 18, slot := 1, constantValue := 0 }, { name := "position", type := .int, accessFlags := 2, slot := 2, constantValue := 0 }, { name := "heldBack", type := (.object "com/example/taulu/taulu/parse/Cursor$HeldBackForm"), accessFlags := 2, slot := 3, constantValue := 0 }]
  methods := #[k2m0]
  instanceTypes := #[(.object "java/lang/String"), (.object "java/lang/String"), .int, (.object "com/example/taulu/taulu/parse/Cursor$HeldBackForm")]
  staticTypes := #[.int, .char, .char]
  resolved := Array.replicate 370 none
  statics := none }

def pool3 : Array CpInfo := pool [(1, u "java/lang/Cloneable"), (0, .class_ 1), (0, u "java/lang/Object"), (0, .class_ 3)] 3

/-- java/lang/Cloneable -/
def k3 : Class := { plain "java/lang/Cloneable" (some 0) with
  accessFlags := 1537
  interfaces := #[]
  cf := some (fileOf pool3 2 #[] #[] 1537 4 #[] #[])
  fields := #[]
  methods := #[]
  instanceTypes := #[]
  staticTypes := #[]
  resolved := Array.replicate 8 none
  statics := none }

def pool4 : Array CpInfo := pool [(1, u "java/io/Serializable"), (0, .class_ 1), (0, u "java/lang/Object"), (0, .class_ 3)] 3

/-- java/io/Serializable -/
def k4 : Class := { plain "java/io/Serializable" (some 0) with
  accessFlags := 1537
  interfaces := #[]
  cf := some (fileOf pool4 2 #[] #[] 1537 4 #[] #[])
  fields := #[]
  methods := #[]
  instanceTypes := #[]
  staticTypes := #[]
  resolved := Array.replicate 8 none
  statics := none }

/-- the primitive byte -/
def k5 : Class := { plain "byte" none with kind := .primitive 'B', accessFlags := 0x411 }
/-- [B -/
def k6 : Class := { plain "[B" (some 0) with kind := .array 5 .byte, interfaces := #[3, 4], accessFlags := 1041 }

/-- the primitive int -/
def k7 : Class := { plain "int" none with kind := .primitive 'I', accessFlags := 0x411 }
/-- [I -/
def k8 : Class := { plain "[I" (some 0) with kind := .array 7 .int, interfaces := #[3, 4], accessFlags := 1041 }

def heap : Heap := #[]
def classes : Array Class := #[k0, k1, k2, k3, k4, k5, k6, k7, k8]
def interned : List (Array UInt16 × Addr) := []
def slotsUsed : Nat := 0
def theMethod : MethodId := ⟨1, 2⟩
def args0 : Array Value := #[.int 5, .int 7]
def aboutOver (below : List Frame) : State where
  vm := { classes := classes, interned := interned.toArray }
  heap := heap
  slotsUsed := slotsUsed
  threads := #[{ frames := .invoking theMethod args0 :: below }]
def below0 : List Frame := [.native { method := ⟨0, 0⟩, args := #[] }]
def about1 : State := aboutOver below0
def p0 : Program := .bare "" "" ""
def e0 : Env := launch0.env 0 0 0
theorem w_frames : about1.frames = Frame.invoking theMethod args0 :: below0 := rfl
set_option maxRecDepth 65536 in
theorem w_args : argsFit about1.vm theMethod args0 = true := by decide +kernel
set_option maxRecDepth 65536 in
theorem w_heap : heapFits about1 = true := by decide +kernel
set_option maxRecDepth 65536 in
theorem w_runnable : about1.curStatus? = some .runnable := by decide +kernel
set_option maxRecDepth 65536 in
theorem w_alone : about1.alone = true := by decide +kernel
set_option maxRecDepth 65536 in
theorem w_named : about1.methodNamed? x = some theMethod := by decide +kernel
set_option maxRecDepth 65536 in
theorem w_hears : about1.hears theMethod below0 = true := by decide +kernel
set_option maxRecDepth 65536 in
theorem w_ripe : about1.ripe theMethod args0 below0 = true := by decide +kernel
theorem w_running : about1.status = .running := rfl
set_option maxRecDepth 65536 in
theorem w_room : about1.hasRoom e0.platform room_1 = true :=
  launch0.hasRoom_least _ room_1 (by decide +kernel) (by decide +kernel) (by decide +kernel) (by decide +kernel) (by decide +kernel) (by decide +kernel)
theorem allAtoms_all (ts : List Jvm.Cond) (a : Array Jvm.Value) (st : Jvm.State) : (allAtoms ts).before a st = ts.all (fun c => c.before a st) := by
  induction ts with
  | nil => rfl
  | cons c t ih =>
    show (Jvm.Cond.and c (allAtoms t)).before a st = _
    rw [Jvm.Cond.before_and, ih, List.all_cons]
def words1 : List Jvm.Cond := Jvm.Cond.code x code maxLocals ret :: tables_1
/-- a 'code' word, met by the world's own term for the bytes: nothing is compared byte by byte -/
theorem code_word {y : MethodName} {bytes : ByteArray} {mx : Nat} {rt : Option FieldType} {a : Array Value} {s : State} {m : MethodId} {meth : Method} {c : Code} (h1 : s.methodNamed? y = some m) (h2 : s.vm.method? m = some meth) (h3 : meth.code = some c) (h4 : c.code = bytes)
    (h5 : (c.maxLocals == mx && c.exceptionTable.isEmpty && decide (c.maxStack ≤ mostOperands) && decide (meth.sig.returnType = rt) && !meth.locks && decide (parseMethodDescriptor y.desc = some meth.sig)) = true) : (Jvm.Cond.code y bytes mx rt).before a s = true := by
  simp only [Bool.and_eq_true, beq_iff_eq, Bool.not_eq_true', decide_eq_true_eq] at h5
  obtain ⟨⟨⟨⟨⟨g1, g2⟩, g3⟩, g4⟩, g5⟩, g6⟩ := h5
  simp [Cond.before, Cond.holds, Cond.value, h1, h2, h3, h4, g1, g2, g3, g4, g5, g6]
def isCode : Jvm.Cond → Bool
  | .code _ _ _ _ => true
  | _ => false
theorem all_split {L : List Jvm.Cond} {P : Jvm.Cond → Bool} (h1 : L.all (fun c => isCode c || P c) = true) (h2 : ∀ c ∈ L.filter isCode, P c = true) : L.all P = true := by
  refine List.all_eq_true.mpr fun c hc => ?_
  have h := List.all_eq_true.mp h1 c hc
  rcases Bool.eq_false_or_eq_true (isCode c) with hi | hi
  · exact h2 c (List.mem_filter.mpr ⟨hc, hi⟩)
  · simpa [hi] using h
set_option maxRecDepth 65536 in
theorem w_c0 : (Jvm.Cond.code x code maxLocals ret).before args0 about1 = true := code_word (m := ⟨1, 2⟩) (meth := k1m2) (c := k1c2) (by decide +kernel) rfl rfl rfl (by decide +kernel)
set_option maxRecDepth 65536 in
theorem w_c1 : (Jvm.Cond.code ({ cls := "com/example/taulu/taulu/parse/Cursor", name := "isControlCharacter", desc := "(I)Z" } : Jvm.MethodName) prog_21_method_40_code (1 : Nat) (Option.some Jvm.ClassFile.FieldType.boolean)).before args0 about1 = true := code_word (m := ⟨2, 0⟩) (meth := k2m0) (c := k2c0) (by decide +kernel) rfl rfl rfl (by decide +kernel)
set_option maxRecDepth 65536 in
theorem w_c2 : (Jvm.Cond.code ({ cls := "com/example/taulu/taulu/parse/CursorIsControlCharacterPinLaw", name := "refused", desc := "(I)Z" } : Jvm.MethodName) method_2_code (1 : Nat) (Option.some Jvm.ClassFile.FieldType.boolean)).before args0 about1 = true := code_word (m := ⟨1, 1⟩) (meth := k1m1) (c := k1c1) (by decide +kernel) rfl rfl rfl (by decide +kernel)
def codes1 : List Jvm.Cond := [Jvm.Cond.code x code maxLocals ret, Jvm.Cond.code ({ cls := "com/example/taulu/taulu/parse/Cursor", name := "isControlCharacter", desc := "(I)Z" } : Jvm.MethodName) prog_21_method_40_code (1 : Nat) (Option.some Jvm.ClassFile.FieldType.boolean), Jvm.Cond.code ({ cls := "com/example/taulu/taulu/parse/CursorIsControlCharacterPinLaw", name := "refused", desc := "(I)Z" } : Jvm.MethodName) method_2_code (1 : Nat) (Option.some Jvm.ClassFile.FieldType.boolean)]
set_option maxRecDepth 65536 in
theorem codes_eq : words1.filter isCode = codes1 := rfl
theorem w_codes : ∀ c ∈ words1.filter isCode, c.before args0 about1 = true := by
  rw [codes_eq]
  intro c hc
  simp only [codes1, List.mem_cons, List.not_mem_nil, or_false] at hc
  rcases hc with rfl | rfl | rfl
  · exact w_c0
  · exact w_c1
  · exact w_c2
set_option maxRecDepth 65536 in
theorem w_t1 : words1.all (fun c => isCode c || c.before args0 about1) = true := by decide +kernel
theorem w_tables : (allAtoms (Jvm.Cond.code x code maxLocals ret :: tables_1)).before args0 about1 = true := by
  rw [allAtoms_all]
  show words1.all (fun c => c.before args0 about1) = true
  refine all_split ?_ w_codes
  rw [w_t1]
set_option maxRecDepth 65536 in
theorem w_case : (Jvm.Cond.and given_1 narrow_1).before args0 about1 = true := by decide +kernel
theorem w_applies : (headSpec (Jvm.Cond.code x code maxLocals ret :: tables_1) room_1).applies x e0.platform about1 = true :=
  (Spec.applies_iff w_frames).mpr ⟨w_running, w_runnable, w_alone, w_named, w_hears, w_ripe, w_room, w_tables⟩
theorem atStart : AtStart classFile x code maxLocals ret World_1 tables_1 room_1 Calls_1 rest_1 Pre_1 launch0 p0 e0 about1 theMethod args0 below0 :=
  ⟨lists_1, trivial, launch0.admits_env _ _ _, launch0.least_env, fairChoices_fair.cas, fairChoices_fair.clock, w_frames, w_args, w_heap, w_applies, trivial, trivial, w_case⟩
end start1
theorem witness_1 : WitnessClaimed_1 := ⟨start1.p0, start1.e0, start1.about1, start1.theMethod, start1.args0, start1.below0, start1.atStart⟩
end Jvm.Pilot.@@N@@
