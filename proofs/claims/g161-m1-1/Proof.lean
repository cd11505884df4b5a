import JvmDerived
import JvmDerived.Pilot.@@N@@Statement
import JvmDerived.Pilot.@@N@@Code
set_option linter.unusedVariables false
set_option linter.unusedSimpArgs false
namespace Jvm.RoadKit
open Sem ClassFile Op Lib Jvm.Stand Jvm.Free Jvm.LawKit
section New
variable {p : Program} {l : Launch} {e : Env} {R : Room} {s : State} {m : MethodId} {args : Array Value} {below : List Frame} {meth : Method} {c : Code} {T : State} {locs : List Loc} {cells slots : Nat}
theorem retI (X : Stand p l e R s m args below meth c T locs cells slots) (hx : p.tables.exec = Jvm.exec) {pc : Nat} {Ls : Array Slot} {z : Int32} {rest : List Value} (hret : meth.sig.returnType = some .int) (hd : decode c.code pc = .ok (.ireturn, 1)) {fs : List Frame}
    (hl : ∀ (f : JFrame) (acts : List Action), f.method = m → f.locked = none → f.entered = [] → (doReturn e (T.setTop f) acts (some (.int z))).1 = T.setFrames fs) : Steps p.tables e below (T.setTop (mkF m pc Ls (.int z :: rest))) (T.setFrames fs) := by
  have hm' : T.vm.method? m = some meth := X.method'
  have hn : narrow .int (.int z) = .int z := rfl
  show Steps p.tables e below (T.setTop { method := m, pc := pc, locals := Ls, stack := _ :: rest, locked := none }) _
  jvm_step X.here [X.here.top, hx, hd, hm', hret, hn]
  first | (intro acts; rw [hl _ acts rfl rfl rfl]) | rw [hl _ _ rfl rfl rfl]
  exact Steps.refl _
end New
end Jvm.RoadKit
namespace Jvm.Pilot.@@N@@
open Jvm Jvm.ClassFile Sem Op Lib Jvm.Free Jvm.Stand Jvm.LawKit Jvm.RoadKit Bundle Jvm.Pilot.@@N@@.Jvm.D
section OwnKit
/-- the rest of a body ends well: from the state U on it comes to its end, what it returns and leaves is as Q says -/
def Done (p : Program) (e : Env) (below : List Frame) (s : State) (Q : Option Value → Heap → List Loc → Prop) (C S : Nat) (U : State) : Prop :=
  ∃ s₂ o, Steps p.tables e below U s₂ ∧ s₂.status = .running ∧ Ended s₂ below o ∧ ∃ v L, o = .returned v ∧ Q v s₂.heap L ∧ FrameEnd s o s₂ L C S
variable {p : Program} {l : Launch} {e : Env} {R : Room} {s : State} {m : MethodId} {args : Array Value} {below : List Frame} {meth : Method} {c : Code} {T U U' : State} {locs : List Loc} {cells slots C S : Nat} {Q : Option Value → Heap → List Loc → Prop}
theorem Done.step (h : ∀ t, Steps p.tables e below U' t → Steps p.tables e below U t) (d : Done p e below s Q C S U') : Done p e below s Q C S U := by
  obtain ⟨s₂, o, h1, r⟩ := d
  exact ⟨s₂, o, h _ h1, r⟩
theorem Done.far (h : Steps p.tables e below U U') (d : Done p e below s Q C S U') : Done p e below s Q C S U := by
  obtain ⟨s₂, o, h1, r⟩ := d
  exact ⟨s₂, o, h.trans h1, r⟩
theorem Done.mono {Q' : Option Value → Heap → List Loc → Prop} (d : Done p e below s Q C S U) (h : ∀ v h L, Q v h L → Q' v h L) : Done p e below s Q' C S U := by
  obtain ⟨s₂, o, h1, h2, h3, v, L, h4, h5, h6⟩ := d
  exact ⟨s₂, o, h1, h2, h3, v, L, h4, h _ _ _ h5, h6⟩
theorem Done.int (X : Stand p l e R s m args below meth c T locs cells slots) (hx : p.tables.exec = Jvm.exec) (hlk : meth.locks = false) (hret : meth.sig.returnType = some .int) {pc : Nat} {Ls : Array Slot} {z : Int32} {rest : List Value} (hd : decode c.code pc = .ok (.ireturn, 1)) (hc : cells ≤ C) (hs : slots ≤ S)
    (hq : Q (some (.int z)) T.heap locs) : Done p e below s Q C S (T.setTop (mkF m pc Ls (.int z :: rest))) := by
  obtain ⟨fs, hr, hrun, hended, hW, hsame⟩ := X.leave (v := some (.int z)) (fun h => by rw [hret] at h; cases h)
  exact ⟨_, _, retI X hx hret hd hr, hrun, hended, _, _, rfl, hq, ⟨_, rfl⟩, hW, hsame.mono hc hs⟩
theorem Done.narr (X : Stand p l e R s m args below meth c T locs cells slots) (hx : p.tables.exec = Jvm.exec) (hlk : meth.locks = false) {t : FieldType} (hret : meth.sig.returnType = some t) (ht : t = .boolean ∨ t = .byte ∨ t = .char ∨ t = .short) {pc : Nat} {Ls : Array Slot} {z : Int32} {rest : List Value} (hd : decode c.code pc = .ok (.ireturn, 1)) (hc : cells ≤ C) (hs : slots ≤ S)
    (hq : Q (some (.int (nar t z))) T.heap locs) : Done p e below s Q C S (T.setTop (mkF m pc Ls (.int z :: rest))) := by
  obtain ⟨fs, hr, hrun, hended, hW, hsame⟩ := X.leave (v := some (.int (nar t z))) (fun h => by rw [hret] at h; cases h)
  exact ⟨_, _, retN X hx hret ht hd hr, hrun, hended, _, _, rfl, hq, ⟨_, rfl⟩, hW, hsame.mono hc hs⟩
theorem Done.long (X : Stand p l e R s m args below meth c T locs cells slots) (hx : p.tables.exec = Jvm.exec) (hlk : meth.locks = false) (hret : meth.sig.returnType = some .long) {pc : Nat} {Ls : Array Slot} {z : Int64} {rest : List Value} (hd : decode c.code pc = .ok (.lreturn, 1)) (hc : cells ≤ C) (hs : slots ≤ S)
    (hq : Q (some (.long z)) T.heap locs) : Done p e below s Q C S (T.setTop (mkF m pc Ls (.long z :: rest))) := by
  obtain ⟨fs, hr, hrun, hended, hW, hsame⟩ := X.leave (v := some (.long z)) (fun h => by rw [hret] at h; cases h)
  exact ⟨_, _, retOut X hx hret rfl (Or.inr (Or.inl ⟨rfl, rfl, z, rfl⟩)) hd hr, hrun, hended, _, _, rfl, hq, ⟨_, rfl⟩, hW, hsame.mono hc hs⟩
theorem Done.ref (X : Stand p l e R s m args below meth c T locs cells slots) (hx : p.tables.exec = Jvm.exec) (hlk : meth.locks = false) {t : FieldType} (hret : meth.sig.returnType = some t) (ht : t.isReference = true) {pc : Nat} {Ls : Array Slot} {w : Value} {rest : List Value} (hw : w.isRef = true) (hn : narrow t w = w) (hd : decode c.code pc = .ok (.areturn, 1)) (hc : cells ≤ C) (hs : slots ≤ S)
    (hq : Q (some w) T.heap locs) : Done p e below s Q C S (T.setTop (mkF m pc Ls (w :: rest))) := by
  obtain ⟨fs, hr, hrun, hended, hW, hsame⟩ := X.leave (v := some w) (fun h => by rw [hret] at h; cases h)
  exact ⟨_, _, retOut X hx hret hn (Or.inr (Or.inr (Or.inr (Or.inr ⟨rfl, ht, hw⟩)))) hd hr, hrun, hended, _, _, rfl, hq, ⟨_, rfl⟩, hW, hsame.mono hc hs⟩
theorem Done.void (X : Stand p l e R s m args below meth c T locs cells slots) (hx : p.tables.exec = Jvm.exec) (hlk : meth.locks = false) (hret : meth.sig.returnType = none) {pc : Nat} {Ls : Array Slot} (hd : decode c.code pc = .ok (.return_, 1)) (hc : cells ≤ C) (hs : slots ≤ S)
    (hq : Q none T.heap locs) : Done p e below s Q C S (T.setTop (mkF m pc Ls [])) := by
  obtain ⟨fs, hr, hrun, hended, hW, hsame⟩ := X.leave (v := none) (fun _ => rfl)
  exact ⟨_, _, X.returnOut hx hret hd hr, hrun, hended, _, _, rfl, hq, ⟨_, rfl⟩, hW, hsame.mono hc hs⟩
variable {Z : State} {h h' h0 : Heap} {a b : Addr} {ty : FieldType} {vs : List Value} {sl : Nat} {v x : Value} {ws : List Addr} {j : Int32} {g : JFrame} {rest : List Value}
/-- an array whose slots are just the list vs -/
def Ax (Z : State) (h : Heap) (a : Addr) (ty : FieldType) (vs : List Value) : Prop := ∃ c : Cell, Arr Z h a c ty ∧ c.slots = vs.toArray
theorem Ax.lt (F : Ax Z h a ty vs) : a < h.size := by obtain ⟨c, A, -⟩ := F; exact A.lt
theorem Ax.ext (F : Ax Z h a ty vs) (E : Ext h h') : Ax Z h' a ty vs := by obtain ⟨c, A, r⟩ := F; exact ⟨c, A.ext E, r⟩
theorem Ax.other (F : Ax Z h b ty vs) (W : Wr h h' a sl v) (q : b ≠ a) : Ax Z h' b ty vs := by obtain ⟨c, A, r⟩ := F; exact ⟨c, A.other W q, r⟩
theorem Ax.keep (F : Ax Z h a ty vs) (K : Keep h h' ws) (q : a ∉ ws) : Ax Z h' a ty vs := by obtain ⟨c, A, r⟩ := F; exact ⟨c, ⟨K.2.1 a c A.1 q, A.2⟩, r⟩
theorem own_stakeep {C n d : String} (F : Sta Z h C n d v) (K : Keep h h' ws) (q : ∀ y ∈ ws, ∃ cell : Cell, h[y]? = some cell ∧ cell.vm.isStatics = false) : Sta Z h' C n d v := by
  obtain ⟨cf, i, k, f, st, cell, h1, h2, h3, h4, h5, h6, h7⟩ := F
  refine ⟨cf, i, k, f, st, cell, h1, h2, h3, h4, K.2.1 st cell h5 (fun z => ?_), h6, h7⟩
  obtain ⟨c', g1, g2⟩ := q st z
  cases h5.symm.trans g1; rw [g2] at h6; cases h6
theorem own_unst {C : String} (F : Exa Z h a C) : ∃ cell : Cell, h[a]? = some cell ∧ cell.vm.isStatics = false := by
  obtain ⟨cell, k, h1, -, -, h4, -⟩ := F; exact ⟨cell, h1, h4⟩
theorem fld_long {t : Term} {D n d : String} {k : Int64} {y : Addr} {av : Array Value} (hh : (Jvm.Cond.eq (Term.field t D n d) (Term.long k)).value av Z none Z [] = some true) (ht : t.eval av Z none [] Z = some (.ref y)) : Fld Z Z.heap y D n d (.long k) := by
  obtain ⟨u, w, e1, e2, k1, k2⟩ := cmp_v (Or.inl hh)
  have e3 : (Term.long k).eval av Z none [] Z = some (.long k) := rfl
  rw [e3] at e2; cases e2
  obtain ⟨z, rfl⟩ := k2
  have q := gotT (eq_L e1 e3) hh
  subst q
  rw [fld_at ht] at e1
  exact Fld.start e1
theorem fld_int {t : Term} {D n d : String} {k : Int32} {y : Addr} {av : Array Value} (hh : (Jvm.Cond.eq (Term.field t D n d) (Term.int k)).value av Z none Z [] = some true) (ht : t.eval av Z none [] Z = some (.ref y)) : Fld Z Z.heap y D n d (.int k) := by
  obtain ⟨u, w, e1, e2, k1, k2⟩ := cmp_v (Or.inl hh)
  have e3 : (Term.int k).eval av Z none [] Z = some (.int k) := rfl
  rw [e3] at e2; cases e2
  obtain ⟨z, rfl⟩ := k2
  have q : z = k := by simpa [Jvm.Cond.value, e1, e3] using hh
  subst q
  rw [fld_at ht] at e1
  exact Fld.start e1
theorem Ax.set (F : Ax Z h a ty vs) (W : Wr h h' a sl v) : Ax Z h' a ty (vs.set sl v) := by
  obtain ⟨c, A, r⟩ := F
  exact ⟨_, A.same W, by rw [show (c.setSlot sl v).slots = c.slots.setIfInBounds sl v from rfl, r, List.setIfInBounds_toArray]⟩
theorem Ax.new {k : ClassId} {n : Int32} {i : Nat} (A : Arr Z h a (newA k ty n) ty) (hi : n.toNatClampNeg = i) : Ax Z h a ty (List.replicate i (defaultValue ty)) :=
  ⟨_, A, by rw [show (newA k ty n).slots = Array.replicate n.toNatClampNeg (defaultValue ty) from rfl, hi, List.toArray_replicate]⟩
theorem Ax.size {c : Cell} (r : c.slots = vs.toArray) : c.slots.size = vs.length := by rw [r, List.size_toArray]
theorem Ax.inb {c : Cell} (r : c.slots = vs.toArray) (hj : ¬ j < 0) (hl : j.toNatClampNeg < vs.length) : ¬ (j < 0 ∨ c.slots.size ≤ j.toNatClampNeg) := fun q => q.elim hj fun u => by
  rw [Ax.size r] at u; exact absurd hl (Nat.not_lt.mpr u)
theorem Ax.get {c : Cell} (r : c.slots = vs.toArray) (hat : vs[j.toNatClampNeg]? = some x) : c.slots[j.toNatClampNeg]? = some x := by rw [r, List.getElem?_toArray]; exact hat
theorem Ax.lens (hat : vs[j.toNatClampNeg]? = some x) : j.toNatClampNeg < vs.length := (List.getElem?_eq_some_iff.mp hat).1
theorem ldI (X : Stand p l e R s m args below meth c T locs cells slots) (hx : p.tables.exec = Jvm.exec) (hZ : Z.Warmed39 s.vm) (eT : T.heap = h) (F : Ax Z h a .int vs) (hj : ¬ j < 0) (hat : vs[j.toNatClampNeg]? = some x) (hg : g.method = m) (hs : g.stack = .int j :: .ref a :: rest) (hd : decode c.code g.pc = .ok (.iaload, 1)) :
    ∀ target, Steps p.tables e below (T.setTop { g with pc := g.pc + 1, stack := x :: rest }) target → Steps p.tables e below (T.setTop g) target := by
  obtain ⟨cl, A, r⟩ := F
  exact X.iaload hx (by rw [eT]; exact A.1) (State.isArrayOf_alike hZ.alike A.2.1) A.2.2 (Ax.inb r hj (Ax.lens hat)) (Ax.get r hat) hg hs hd
theorem ldJ (X : Stand p l e R s m args below meth c T locs cells slots) (hx : p.tables.exec = Jvm.exec) (hZ : Z.Warmed39 s.vm) (eT : T.heap = h) (F : Ax Z h a .long vs) (hj : ¬ j < 0) (hat : vs[j.toNatClampNeg]? = some x) (hg : g.method = m) (hs : g.stack = .int j :: .ref a :: rest) (hd : decode c.code g.pc = .ok (.laload, 1)) :
    ∀ target, Steps p.tables e below (T.setTop { g with pc := g.pc + 1, stack := x :: rest }) target → Steps p.tables e below (T.setTop g) target := by
  obtain ⟨cl, A, r⟩ := F
  exact X.laload hx (by rw [eT]; exact A.1) (State.isArrayOf_alike hZ.alike A.2.1) A.2.2 (Ax.inb r hj (Ax.lens hat)) (Ax.get r hat) hg hs hd
theorem ldB (X : Stand p l e R s m args below meth c T locs cells slots) (hx : p.tables.exec = Jvm.exec) (hZ : Z.Warmed39 s.vm) (eT : T.heap = h) (F : Ax Z h a .byte vs) (hj : ¬ j < 0) (hat : vs[j.toNatClampNeg]? = some x) (hg : g.method = m) (hs : g.stack = .int j :: .ref a :: rest) (hd : decode c.code g.pc = .ok (.baload, 1)) :
    ∀ target, Steps p.tables e below (T.setTop { g with pc := g.pc + 1, stack := x :: rest }) target → Steps p.tables e below (T.setTop g) target := by
  obtain ⟨cl, A, r⟩ := F
  exact X.baloadBytes hx (by rw [eT]; exact A.1) (State.isArrayOf_alike hZ.alike A.2.1) A.2.2 (Ax.inb r hj (Ax.lens hat)) (Ax.get r hat) hg hs hd
theorem ldZ (X : Stand p l e R s m args below meth c T locs cells slots) (hx : p.tables.exec = Jvm.exec) (hZ : Z.Warmed39 s.vm) (eT : T.heap = h) (F : Ax Z h a .boolean vs) (hj : ¬ j < 0) (hat : vs[j.toNatClampNeg]? = some x) (hg : g.method = m) (hs : g.stack = .int j :: .ref a :: rest) (hd : decode c.code g.pc = .ok (.baload, 1)) :
    ∀ target, Steps p.tables e below (T.setTop { g with pc := g.pc + 1, stack := x :: rest }) target → Steps p.tables e below (T.setTop g) target := by
  obtain ⟨cl, A, r⟩ := F
  exact X.baloadBooleans hx (by rw [eT]; exact A.1) (State.isArrayOf_alike hZ.alike A.2.1) A.2.2 (Ax.inb r hj (Ax.lens hat)) (Ax.get r hat) hg hs hd
theorem lenA (X : Stand p l e R s m args below meth c T locs cells slots) (hx : p.tables.exec = Jvm.exec) (hZ : Z.Warmed39 s.vm) (eT : T.heap = h) (F : Ax Z h a ty vs) {n : Int32} (hn : vs.length.toInt32 = n) (hg : g.method = m) (hs : g.stack = .ref a :: rest) (hd : decode c.code g.pc = .ok (.arraylength, 1)) :
    ∀ target, Steps p.tables e below (T.setTop { g with pc := g.pc + 1, stack := .int n :: rest }) target → Steps p.tables e below (T.setTop g) target := by
  obtain ⟨cl, A, r⟩ := F
  intro target k
  refine X.arraylength hx (by rw [eT]; exact A.1) (State.isArrayOf_alike hZ.alike A.2.1) hg hs hd target ?_
  rw [Ax.size r, hn]; exact k
theorem stoI (X : Stand p l e R s m args below meth c T locs cells slots) (hx : p.tables.exec = Jvm.exec) (hZ : Z.Warmed39 s.vm) (eT : T.heap = h) (F : Ax Z h a .int vs) {y : Int32} (hj : ¬ j < 0) {i : Nat} (hi : j.toNatClampNeg = i) (hl : i < vs.length) (hg : g.method = m) (hs : g.stack = .int y :: .int j :: .ref a :: rest) (hd : decode c.code g.pc = .ok (.iastore, 1)) :
    ∃ T' h', Stand p l e R s m args below meth c T' (locs ++ [⟨a, j.toNatClampNeg⟩]) cells slots ∧ T'.heap = h' ∧ Wr h h' a j.toNatClampNeg (.int y) ∧ Ax Z h' a .int (vs.set i (.int y)) ∧ ∀ target, Steps p.tables e below (T'.setTop { g with pc := g.pc + 1, stack := rest }) target → Steps p.tables e below (T.setTop g) target := by
  obtain ⟨cl, A, r⟩ := F
  obtain ⟨T', h', X', e', W, st⟩ := stI X hx hZ eT A (Ax.inb r hj (by rw [hi]; exact hl)) hg hs hd
  exact ⟨T', h', X', e', W, hi ▸ Ax.set ⟨cl, A, r⟩ W, st⟩
theorem stoJ (X : Stand p l e R s m args below meth c T locs cells slots) (hx : p.tables.exec = Jvm.exec) (hZ : Z.Warmed39 s.vm) (eT : T.heap = h) (F : Ax Z h a .long vs) {y : Int64} (hj : ¬ j < 0) {i : Nat} (hi : j.toNatClampNeg = i) (hl : i < vs.length) (hg : g.method = m) (hs : g.stack = .long y :: .int j :: .ref a :: rest) (hd : decode c.code g.pc = .ok (.lastore, 1)) :
    ∃ T' h', Stand p l e R s m args below meth c T' (locs ++ [⟨a, j.toNatClampNeg⟩]) cells slots ∧ T'.heap = h' ∧ Wr h h' a j.toNatClampNeg (.long y) ∧ Ax Z h' a .long (vs.set i (.long y)) ∧ ∀ target, Steps p.tables e below (T'.setTop { g with pc := g.pc + 1, stack := rest }) target → Steps p.tables e below (T.setTop g) target := by
  obtain ⟨cl, A, r⟩ := F
  obtain ⟨T', h', X', e', W, st⟩ := stJ X hx hZ eT A (Ax.inb r hj (by rw [hi]; exact hl)) hg hs hd
  exact ⟨T', h', X', e', W, hi ▸ Ax.set ⟨cl, A, r⟩ W, st⟩
theorem stoB (X : Stand p l e R s m args below meth c T locs cells slots) (hx : p.tables.exec = Jvm.exec) (hZ : Z.Warmed39 s.vm) (eT : T.heap = h) (F : Ax Z h a .byte vs) {y : Int32} (hj : ¬ j < 0) {i : Nat} (hi : j.toNatClampNeg = i) (hl : i < vs.length) (hg : g.method = m) (hs : g.stack = .int y :: .int j :: .ref a :: rest) (hd : decode c.code g.pc = .ok (.bastore, 1)) :
    ∃ T' h', Stand p l e R s m args below meth c T' (locs ++ [⟨a, j.toNatClampNeg⟩]) cells slots ∧ T'.heap = h' ∧ Wr h h' a j.toNatClampNeg (.int (nar .byte y)) ∧ Ax Z h' a .byte (vs.set i (.int (nar .byte y))) ∧ ∀ target, Steps p.tables e below (T'.setTop { g with pc := g.pc + 1, stack := rest }) target → Steps p.tables e below (T.setTop g) target := by
  obtain ⟨cl, A, r⟩ := F
  obtain ⟨T', h', X', e', W, st⟩ := stB X hx hZ eT A (Ax.inb r hj (by rw [hi]; exact hl)) hg hs hd
  exact ⟨T', h', X', e', W, hi ▸ Ax.set ⟨cl, A, r⟩ W, st⟩
theorem stoZ (X : Stand p l e R s m args below meth c T locs cells slots) (hx : p.tables.exec = Jvm.exec) (hZ : Z.Warmed39 s.vm) (eT : T.heap = h) (F : Ax Z h a .boolean vs) {y : Int32} (hj : ¬ j < 0) {i : Nat} (hi : j.toNatClampNeg = i) (hl : i < vs.length) (hg : g.method = m) (hs : g.stack = .int y :: .int j :: .ref a :: rest) (hd : decode c.code g.pc = .ok (.bastore, 1)) :
    ∃ T' h', Stand p l e R s m args below meth c T' (locs ++ [⟨a, j.toNatClampNeg⟩]) cells slots ∧ T'.heap = h' ∧ Wr h h' a j.toNatClampNeg (.int (nar .boolean y)) ∧ Ax Z h' a .boolean (vs.set i (.int (nar .boolean y))) ∧ ∀ target, Steps p.tables e below (T'.setTop { g with pc := g.pc + 1, stack := rest }) target → Steps p.tables e below (T.setTop g) target := by
  obtain ⟨cl, A, r⟩ := F
  obtain ⟨T', h', X', e', W, st⟩ := stZ X hx hZ eT A (Ax.inb r hj (by rw [hi]; exact hl)) hg hs hd
  exact ⟨T', h', X', e', W, hi ▸ Ax.set ⟨cl, A, r⟩ W, st⟩
theorem cloX (X : Stand p l e R s m args below meth c T locs cells slots) (hx : p.tables.exec = Jvm.exec) (hZ : Z.Warmed39 s.vm) {a0 : Array Value} {own ad : String} {index : Nat} (hown : s.vm.findClass own = some m.cls)
    (w1 : (Cond.methodLink own index ⟨ad, "clone", "()Ljava/lang/Object;"⟩).before a0 Z = true) (w2 : (Cond.sameMethod ad "java/lang/Object" "clone" "()Ljava/lang/Object;").before a0 Z = true) (w3 : (Cond.native ⟨"java/lang/Object", "clone", "()Ljava/lang/Object;"⟩).before a0 Z = true)
    (w4 : (Cond.instanceMethod ⟨"java/lang/Object", "clone", "()Ljava/lang/Object;"⟩).before a0 Z = true) (w5 : (Cond.selects ad ⟨ad, "clone", "()Ljava/lang/Object;"⟩ ⟨"java/lang/Object", "clone", "()Ljava/lang/Object;"⟩).before a0 Z = true) (w6 : (Cond.castable ad "java/lang/Cloneable").before a0 Z = true)
    (eT : T.heap = h) (F : Ax Z h a ty vs) (E : Exa Z h a ad) (G : ∀ v ∈ vs, fits ty v = true) (hg : g.method = m) (hsize : g.locals.size = c.maxLocals) (hs : g.stack = .ref a :: rest) (hd : decode c.code g.pc = .ok (.invokevirtual index, 3))
    (hf : 1 ≤ R.frames) {W cap : Nat} (hW : 2 * g.monitorRoom + (rest.map fun v => v.category).sum ≤ W) (hl : W + 14 ≤ R.locals) (hcap : vs.length ≤ cap) (hc : cells + 1 ≤ R.cells) (hsl : slots + cap ≤ R.slots) :
    ∃ T' h', Stand p l e R s m args below meth c T' locs (cells + 1) (slots + cap) ∧ T'.heap = h' ∧ Ext h h' ∧ Ax Z h' h.size ty vs ∧ Exa Z h' h.size ad ∧
      ∀ target, Steps p.tables e below (T'.setTop { g with pc := g.pc + 3, stack := .ref h.size :: rest }) target → Steps p.tables e below (T.setTop g) target := by
  obtain ⟨cl, A, r⟩ := F
  have FC : FitC Z cl := fitC_of A fun i hi v hv => by
    rw [r, List.getElem?_toArray] at hv
    exact G v (List.mem_of_getElem? hv)
  obtain ⟨T', h', X', e', ex, A', E', st⟩ := cloneA X hx hZ hown w1 w2 w3 w4 w5 w6 eT A E FC hg hsize hs hd hf hW hl (by rw [Ax.size r]; exact hcap) hc hsl
  exact ⟨T', h', X', e', ex, ⟨cloneOf cl, A', r⟩, E', st⟩
end OwnKit
theorem pd_0 : parseMethodDescriptor "(B)I" = some ⟨[.byte], some .int⟩ := by decide +kernel
theorem pd_1 : parseMethodDescriptor "(I)J" = some ⟨[.int], some .long⟩ := by decide +kernel
theorem pd_2 : parseMethodDescriptor "(II)I" = some ⟨[.int, .int], some .int⟩ := by decide +kernel
theorem pd_3 : parseMethodDescriptor "([BII)J" = some ⟨[(.array .byte), .int, .int], some .long⟩ := by decide +kernel
theorem pd_4 : parseMethodDescriptor "(BBBBII)J" = some ⟨[.byte, .byte, .byte, .byte, .int, .int], some .long⟩ := by decide +kernel
theorem pd_5 : parseMethodDescriptor "(IZ)B" = some ⟨[.int, .boolean], some .byte⟩ := by decide +kernel
theorem d1_0 : decode method_3_code 0 = .ok (.iload_n 1, 1) := by decide +kernel
theorem d1_1 : decode method_3_code 1 = .ok (.ifCond .eq 18, 3) := by decide +kernel
theorem d1_4 : decode method_3_code 4 = .ok (.bipush 48, 2) := by decide +kernel
theorem d1_6 : decode method_3_code 6 = .ok (.iload_n 0, 1) := by decide +kernel
theorem d1_7 : decode method_3_code 7 = .ok (.sipush 255, 3) := by decide +kernel
theorem d1_10 : decode method_3_code 10 = .ok (.iand, 1) := by decide +kernel
theorem d1_11 : decode method_3_code 11 = .ok (.bipush 10, 2) := by decide +kernel
theorem d1_13 : decode method_3_code 13 = .ok (.irem, 1) := by decide +kernel
theorem d1_14 : decode method_3_code 14 = .ok (.iadd, 1) := by decide +kernel
theorem d1_15 : decode method_3_code 15 = .ok (.i2b, 1) := by decide +kernel
theorem d1_16 : decode method_3_code 16 = .ok (.goto 5, 3) := by decide +kernel
theorem d1_19 : decode method_3_code 19 = .ok (.iload_n 0, 1) := by decide +kernel
theorem d1_20 : decode method_3_code 20 = .ok (.i2b, 1) := by decide +kernel
theorem d1_21 : decode method_3_code 21 = .ok (.ireturn, 1) := by decide +kernel
def F1 (p1 : Int32) (p2 : Int32) : Int32 := (if p2 = (0 : Int32) then (nar .byte (p1).toInt8.toInt32)
  else (nar .byte (((48 : Int32) + ((p1 &&& (255 : Int32)) % (10 : Int32)))).toInt8.toInt32))
theorem pn_1 : plainName "weirstream/engine/WrittenNumberShortWholePinLaw" = true := by first | (simp [plainName, overriddenIn]; done) | decide +kernel
theorem ef_1 (m : MethodId) (p1 : Int32) (p2 : Int32) : entryFrame m #[(.int p1), (.int p2)] 2 = mkF m 0 #[.val (.int p1), .val (.int p2)] [] := by first | (simp [entryFrame, mkF, argsToLocals, Value.category]; done) | rfl
def Qrm1 (Z : State) (p1 : Int32) (p2 : Int32) (h0 : Heap) (n0 : Nat) : Option Value → Heap → List Loc → Prop := fun v h L => v = some (.int (F1 p1 p2)) ∧ Fr n0 L ∧ h = h0
set_option maxRecDepth 65536 in
set_option maxHeartbeats 40000000 in
theorem rm1 (l : Launch) (Z : State) (a0 : Array Value) (hw : ∀ d ∈ tables_1, d.before a0 Z = true) (ws : List Jvm.Cond) (p1 : Int32) (p2 : Int32) (h0 : Heap) (n0 : Nat) (Z0 : n0 ≤ h0.size) :
    MetFree l (⟨"weirstream/engine/WrittenNumberShortWholePinLaw", "pick", "(IZ)B"⟩ : MethodName) (head1 (Jvm.Cond.code (⟨"weirstream/engine/WrittenNumberShortWholePinLaw", "pick", "(IZ)B"⟩ : MethodName) method_3_code 2 (some .byte) :: ws) ({ frames := 0, cells := 0, slots := 0, locals := 0 } : Room)) (fun a U => a = #[(.int p1), (.int p2)] ∧ Z.Warmed39 U.vm ∧ U.heap = h0) (fun _ _ _ _ _ => True) (fun _ U o U' => ∃ v L, o = .returned v ∧ Qrm1 Z p1 p2 h0 n0 v U'.heap L ∧ FrameEnd U o U' L ({ frames := 0, cells := 0, slots := 0, locals := 0 } : Room).cells ({ frames := 0, cells := 0, slots := 0, locals := 0 } : Room).slots) := by
  refine MetFree.of_bodySF (plainFor_of_name pn_1) hisR ?_
  intro p e s m args below meth c s₁ Bd hml0 hP hK
  obtain ⟨rfl, hZ, hhp⟩ := hP
  have hx := Bd.exec
  have hby := Bd.bytes
  have hml : c.maxLocals = 2 := hml0
  have hown : s.vm.findClass "weirstream/engine/WrittenNumberShortWholePinLaw" = some m.cls := findClass_of_methodNamed Bd.named
  have hnm := (name_of_methodNamed Bd.named Bd.method).1
  have hlk : meth.locks = false := BodyLoose.notSynchronized Bd
  have hret := Bd.returns
  have X0 : Stand p l e ({ frames := 0, cells := 0, slots := 0, locals := 0 } : Room) s m #[(.int p1), (.int p2)] below meth c s₁ [] 0 0 := Stand.of_body Bd
  have e0 : s₁.heap = h0 := by rw [← hhp, Bd.state]; rfl
  have N0 := Fr.nil n0
  show Done p e below s (Qrm1 Z p1 p2 h0 n0) ({ frames := 0, cells := 0, slots := 0, locals := 0 } : Room).cells ({ frames := 0, cells := 0, slots := 0, locals := 0 } : Room).slots (s₁.setTop (entryFrame m #[(.int p1), (.int p2)] 2))
  refine Done.step (fun t k => castTop (ef_1 m p1 p2) k) ?_
  show Done p e below s _ _ _ (s₁.setTop (mkF m 0 #[.val (.int p1), .val (.int p2)] []))
  refine Done.step (fun t k => XS.iloadN X0.here hx rfl (hb hby d1_0) rfl k) ?_
  show Done p e below s _ _ _ (s₁.setTop (mkF m 1 #[.val (.int p1), .val (.int p2)] [(.int p2)]))
  by_cases c1 : p2 = (0 : Int32)
  · refine Done.step (fun t k => XS.ifYes X0.here hx rfl (pc0 := 1) (pc' := 19) rfl (hb hby d1_1) rfl ((if0 _ _).trans (teq c1).1) (by decide) (by decide) k) ?_
    show Done p e below s _ _ _ (s₁.setTop (mkF m 19 #[.val (.int p1), .val (.int p2)] []))
    refine Done.step (fun t k => XS.iloadN X0.here hx rfl (hb hby d1_19) rfl k) ?_
    show Done p e below s _ _ _ (s₁.setTop (mkF m 20 #[.val (.int p1), .val (.int p2)] [(.int p1)]))
    refine Done.step (fun t k => XS.i2b X0.here hx rfl (hb hby d1_20) rfl k) ?_
    show Done p e below s _ _ _ (s₁.setTop (mkF m 21 #[.val (.int p1), .val (.int p2)] [(.int (p1).toInt8.toInt32)]))
    exact Done.narr X0 hx hlk hret (by simp) (hb hby d1_21) (by decide) (by decide) ⟨by rw [show F1 p1 p2 = (nar .byte (p1).toInt8.toInt32) from by unfold F1; rw [if_pos c1]] <;> rfl, N0, e0⟩
  · refine Done.step (fun t k => XS.ifNo X0.here hx rfl (hb hby d1_1) rfl ((if0 _ _).trans (feq c1).1) k) ?_
    show Done p e below s _ _ _ (s₁.setTop (mkF m 4 #[.val (.int p1), .val (.int p2)] []))
    refine Done.step (fun t k => XS.bipush X0.here hx rfl (hb hby d1_4) k) ?_
    show Done p e below s _ _ _ (s₁.setTop (mkF m 6 #[.val (.int p1), .val (.int p2)] [(.int (48 : Int32))]))
    refine Done.step (fun t k => XS.iloadN X0.here hx rfl (hb hby d1_6) rfl k) ?_
    show Done p e below s _ _ _ (s₁.setTop (mkF m 7 #[.val (.int p1), .val (.int p2)] [(.int p1), (.int (48 : Int32))]))
    refine Done.step (fun t k => XS.sipush X0.here hx rfl (hb hby d1_7) k) ?_
    show Done p e below s _ _ _ (s₁.setTop (mkF m 10 #[.val (.int p1), .val (.int p2)] [(.int (255 : Int32)), (.int p1), (.int (48 : Int32))]))
    refine Done.step (fun t k => XS.iand X0.here hx rfl (hb hby d1_10) rfl k) ?_
    show Done p e below s _ _ _ (s₁.setTop (mkF m 11 #[.val (.int p1), .val (.int p2)] [(.int (p1 &&& (255 : Int32))), (.int (48 : Int32))]))
    refine Done.step (fun t k => XS.bipush X0.here hx rfl (hb hby d1_11) k) ?_
    show Done p e below s _ _ _ (s₁.setTop (mkF m 13 #[.val (.int p1), .val (.int p2)] [(.int (10 : Int32)), (.int (p1 &&& (255 : Int32))), (.int (48 : Int32))]))
    refine Done.step (fun t k => iremM X0 hx rfl (hb hby d1_13) rfl (by decide) k) ?_
    show Done p e below s _ _ _ (s₁.setTop (mkF m 14 #[.val (.int p1), .val (.int p2)] [(.int ((p1 &&& (255 : Int32)) % (10 : Int32))), (.int (48 : Int32))]))
    refine Done.step (fun t k => XS.iadd X0.here hx rfl (hb hby d1_14) rfl k) ?_
    show Done p e below s _ _ _ (s₁.setTop (mkF m 15 #[.val (.int p1), .val (.int p2)] [(.int ((48 : Int32) + ((p1 &&& (255 : Int32)) % (10 : Int32))))]))
    refine Done.step (fun t k => XS.i2b X0.here hx rfl (hb hby d1_15) rfl k) ?_
    show Done p e below s _ _ _ (s₁.setTop (mkF m 16 #[.val (.int p1), .val (.int p2)] [(.int (((48 : Int32) + ((p1 &&& (255 : Int32)) % (10 : Int32)))).toInt8.toInt32)]))
    refine Done.step (fun t k => XS.goto X0.here hx rfl (pc0 := 16) (pc' := 21) rfl (hb hby d1_16) (by decide) (by decide) k) ?_
    show Done p e below s _ _ _ (s₁.setTop (mkF m 21 #[.val (.int p1), .val (.int p2)] [(.int (((48 : Int32) + ((p1 &&& (255 : Int32)) % (10 : Int32)))).toInt8.toInt32)]))
    exact Done.narr X0 hx hlk hret (by simp) (hb hby d1_21) (by decide) (by decide) ⟨by rw [show F1 p1 p2 = (nar .byte (((48 : Int32) + ((p1 &&& (255 : Int32)) % (10 : Int32)))).toInt8.toInt32) from by unfold F1; rw [if_neg c1]] <;> rfl, N0, e0⟩
theorem d4_0 : decode method_4_code 0 = .ok (.iload_n 0, 1) := by decide +kernel
theorem d4_1 : decode method_4_code 1 = .ok (.bipush 48, 2) := by decide +kernel
theorem d4_3 : decode method_4_code 3 = .ok (.if_icmp .lt 16, 3) := by decide +kernel
theorem d4_6 : decode method_4_code 6 = .ok (.iload_n 0, 1) := by decide +kernel
theorem d4_7 : decode method_4_code 7 = .ok (.bipush 57, 2) := by decide +kernel
theorem d4_9 : decode method_4_code 9 = .ok (.if_icmp .gt 10, 3) := by decide +kernel
theorem d4_12 : decode method_4_code 12 = .ok (.iload_n 0, 1) := by decide +kernel
theorem d4_13 : decode method_4_code 13 = .ok (.bipush 48, 2) := by decide +kernel
theorem d4_15 : decode method_4_code 15 = .ok (.isub, 1) := by decide +kernel
theorem d4_16 : decode method_4_code 16 = .ok (.goto 4, 3) := by decide +kernel
theorem d4_19 : decode method_4_code 19 = .ok (.iconst (-1), 1) := by decide +kernel
theorem d4_20 : decode method_4_code 20 = .ok (.ireturn, 1) := by decide +kernel
def F4 (p1 : Int32) : Int32 := (if p1 < (48 : Int32) then (-1 : Int32)
  else (if (57 : Int32) < p1 then (-1 : Int32)
    else (p1 - (48 : Int32))))
theorem pn_4 : plainName "weirstream/engine/WrittenNumberShortWholePinLaw" = true := by first | (simp [plainName, overriddenIn]; done) | decide +kernel
theorem ef_4 (m : MethodId) (p1 : Int32) : entryFrame m #[(.int p1)] 1 = mkF m 0 #[.val (.int p1)] [] := by first | (simp [entryFrame, mkF, argsToLocals, Value.category]; done) | rfl
def Qrm4 (Z : State) (p1 : Int32) (h0 : Heap) (n0 : Nat) : Option Value → Heap → List Loc → Prop := fun v h L => v = some (.int (F4 p1)) ∧ Fr n0 L ∧ h = h0
set_option maxRecDepth 65536 in
set_option maxHeartbeats 40000000 in
theorem rm4 (l : Launch) (Z : State) (a0 : Array Value) (hw : ∀ d ∈ tables_1, d.before a0 Z = true) (ws : List Jvm.Cond) (p1 : Int32) (h0 : Heap) (n0 : Nat) (Z0 : n0 ≤ h0.size) :
    MetFree l (⟨"weirstream/engine/WrittenNumberShortWholePinLaw", "digitOf", "(B)I"⟩ : MethodName) (head1 (Jvm.Cond.code (⟨"weirstream/engine/WrittenNumberShortWholePinLaw", "digitOf", "(B)I"⟩ : MethodName) method_4_code 1 (some .int) :: ws) ({ frames := 0, cells := 0, slots := 0, locals := 0 } : Room)) (fun a U => a = #[(.int p1)] ∧ Z.Warmed39 U.vm ∧ U.heap = h0) (fun _ _ _ _ _ => True) (fun _ U o U' => ∃ v L, o = .returned v ∧ Qrm4 Z p1 h0 n0 v U'.heap L ∧ FrameEnd U o U' L ({ frames := 0, cells := 0, slots := 0, locals := 0 } : Room).cells ({ frames := 0, cells := 0, slots := 0, locals := 0 } : Room).slots) := by
  refine MetFree.of_bodySF (plainFor_of_name pn_4) hisR ?_
  intro p e s m args below meth c s₁ Bd hml0 hP hK
  obtain ⟨rfl, hZ, hhp⟩ := hP
  have hx := Bd.exec
  have hby := Bd.bytes
  have hml : c.maxLocals = 1 := hml0
  have hown : s.vm.findClass "weirstream/engine/WrittenNumberShortWholePinLaw" = some m.cls := findClass_of_methodNamed Bd.named
  have hnm := (name_of_methodNamed Bd.named Bd.method).1
  have hlk : meth.locks = false := BodyLoose.notSynchronized Bd
  have hret := Bd.returns
  have X0 : Stand p l e ({ frames := 0, cells := 0, slots := 0, locals := 0 } : Room) s m #[(.int p1)] below meth c s₁ [] 0 0 := Stand.of_body Bd
  have e0 : s₁.heap = h0 := by rw [← hhp, Bd.state]; rfl
  have N0 := Fr.nil n0
  show Done p e below s (Qrm4 Z p1 h0 n0) ({ frames := 0, cells := 0, slots := 0, locals := 0 } : Room).cells ({ frames := 0, cells := 0, slots := 0, locals := 0 } : Room).slots (s₁.setTop (entryFrame m #[(.int p1)] 1))
  refine Done.step (fun t k => castTop (ef_4 m p1) k) ?_
  show Done p e below s _ _ _ (s₁.setTop (mkF m 0 #[.val (.int p1)] []))
  refine Done.step (fun t k => XS.iloadN X0.here hx rfl (hb hby d4_0) rfl k) ?_
  show Done p e below s _ _ _ (s₁.setTop (mkF m 1 #[.val (.int p1)] [(.int p1)]))
  refine Done.step (fun t k => XS.bipush X0.here hx rfl (hb hby d4_1) k) ?_
  show Done p e below s _ _ _ (s₁.setTop (mkF m 3 #[.val (.int p1)] [(.int (48 : Int32)), (.int p1)]))
  by_cases c1 : p1 < (48 : Int32)
  · refine Done.step (fun t k => XS.icmpYes X0.here hx rfl (pc0 := 3) (pc' := 19) rfl (hb hby d4_3) rfl (tlt c1).1 (by decide) (by decide) k) ?_
    show Done p e below s _ _ _ (s₁.setTop (mkF m 19 #[.val (.int p1)] []))
    refine Done.step (fun t k => XS.iconst X0.here hx rfl (hb hby d4_19) k) ?_
    show Done p e below s _ _ _ (s₁.setTop (mkF m 20 #[.val (.int p1)] [(.int (-1 : Int32))]))
    exact Done.int X0 hx hlk hret (hb hby d4_20) (by decide) (by decide) ⟨by rw [show F4 p1 = (-1 : Int32) from by unfold F4; rw [if_pos c1]] <;> rfl, N0, e0⟩
  · refine Done.step (fun t k => XS.icmpNo X0.here hx rfl (hb hby d4_3) rfl (flt c1).1 k) ?_
    show Done p e below s _ _ _ (s₁.setTop (mkF m 6 #[.val (.int p1)] []))
    refine Done.step (fun t k => XS.iloadN X0.here hx rfl (hb hby d4_6) rfl k) ?_
    show Done p e below s _ _ _ (s₁.setTop (mkF m 7 #[.val (.int p1)] [(.int p1)]))
    refine Done.step (fun t k => XS.bipush X0.here hx rfl (hb hby d4_7) k) ?_
    show Done p e below s _ _ _ (s₁.setTop (mkF m 9 #[.val (.int p1)] [(.int (57 : Int32)), (.int p1)]))
    by_cases c2 : (57 : Int32) < p1
    · refine Done.step (fun t k => XS.icmpYes X0.here hx rfl (pc0 := 9) (pc' := 19) rfl (hb hby d4_9) rfl (tlt c2).2.2.1 (by decide) (by decide) k) ?_
      show Done p e below s _ _ _ (s₁.setTop (mkF m 19 #[.val (.int p1)] []))
      refine Done.step (fun t k => XS.iconst X0.here hx rfl (hb hby d4_19) k) ?_
      show Done p e below s _ _ _ (s₁.setTop (mkF m 20 #[.val (.int p1)] [(.int (-1 : Int32))]))
      exact Done.int X0 hx hlk hret (hb hby d4_20) (by decide) (by decide) ⟨by rw [show F4 p1 = (-1 : Int32) from by unfold F4; rw [if_neg c1, if_pos c2]] <;> rfl, N0, e0⟩
    · refine Done.step (fun t k => XS.icmpNo X0.here hx rfl (hb hby d4_9) rfl (flt c2).2.2.1 k) ?_
      show Done p e below s _ _ _ (s₁.setTop (mkF m 12 #[.val (.int p1)] []))
      refine Done.step (fun t k => XS.iloadN X0.here hx rfl (hb hby d4_12) rfl k) ?_
      show Done p e below s _ _ _ (s₁.setTop (mkF m 13 #[.val (.int p1)] [(.int p1)]))
      refine Done.step (fun t k => XS.bipush X0.here hx rfl (hb hby d4_13) k) ?_
      show Done p e below s _ _ _ (s₁.setTop (mkF m 15 #[.val (.int p1)] [(.int (48 : Int32)), (.int p1)]))
      refine Done.step (fun t k => XS.isub X0.here hx rfl (hb hby d4_15) rfl k) ?_
      show Done p e below s _ _ _ (s₁.setTop (mkF m 16 #[.val (.int p1)] [(.int (p1 - (48 : Int32)))]))
      refine Done.step (fun t k => XS.goto X0.here hx rfl (pc0 := 16) (pc' := 20) rfl (hb hby d4_16) (by decide) (by decide) k) ?_
      show Done p e below s _ _ _ (s₁.setTop (mkF m 20 #[.val (.int p1)] [(.int (p1 - (48 : Int32)))]))
      exact Done.int X0 hx hlk hret (hb hby d4_20) (by decide) (by decide) ⟨by rw [show F4 p1 = (p1 - (48 : Int32)) from by unfold F4; rw [if_neg c1, if_neg c2]] <;> rfl, N0, e0⟩
theorem d5_0 : decode jdk_29_method_65_code 0 = .ok (.iload_n 0, 1) := by decide +kernel
theorem d5_1 : decode jdk_29_method_65_code 1 = .ok (.iload_n 1, 1) := by decide +kernel
theorem d5_2 : decode jdk_29_method_65_code 2 = .ok (.if_icmp .lt 7, 3) := by decide +kernel
theorem d5_5 : decode jdk_29_method_65_code 5 = .ok (.iload_n 0, 1) := by decide +kernel
theorem d5_6 : decode jdk_29_method_65_code 6 = .ok (.goto 4, 3) := by decide +kernel
theorem d5_9 : decode jdk_29_method_65_code 9 = .ok (.iload_n 1, 1) := by decide +kernel
theorem d5_10 : decode jdk_29_method_65_code 10 = .ok (.ireturn, 1) := by decide +kernel
def F5 (p1 : Int32) (p2 : Int32) : Int32 := (if p1 < p2 then p2
  else p1)
theorem ef_5 (m : MethodId) (p1 : Int32) (p2 : Int32) : entryFrame m #[(.int p1), (.int p2)] 2 = mkF m 0 #[.val (.int p1), .val (.int p2)] [] := by first | (simp [entryFrame, mkF, argsToLocals, Value.category]; done) | rfl
def Qrm5 (Z : State) (p1 : Int32) (p2 : Int32) (h0 : Heap) (n0 : Nat) : Option Value → Heap → List Loc → Prop := fun v h L => v = some (.int (F5 p1 p2)) ∧ Fr n0 L ∧ h = h0
set_option maxRecDepth 65536 in
set_option maxHeartbeats 40000000 in
theorem rm5 (l : Launch) (Z : State) (a0 : Array Value) (hw : ∀ d ∈ tables_1, d.before a0 Z = true) (ws : List Jvm.Cond) (p1 : Int32) (p2 : Int32) (h0 : Heap) (n0 : Nat) (Z0 : n0 ≤ h0.size) :
    MetFree l (⟨"java/lang/Math", "max", "(II)I"⟩ : MethodName) (head1 (Jvm.Cond.code (⟨"java/lang/Math", "max", "(II)I"⟩ : MethodName) jdk_29_method_65_code 2 (some .int) :: ws) ({ frames := 0, cells := 0, slots := 0, locals := 0 } : Room)) (fun a U => a = #[(.int p1), (.int p2)] ∧ Z.Warmed39 U.vm ∧ U.heap = h0) (fun _ _ _ _ _ => True) (fun _ U o U' => ∃ v L, o = .returned v ∧ Qrm5 Z p1 p2 h0 n0 v U'.heap L ∧ FrameEnd U o U' L ({ frames := 0, cells := 0, slots := 0, locals := 0 } : Room).cells ({ frames := 0, cells := 0, slots := 0, locals := 0 } : Room).slots) := by
  refine MetFree.of_bodySF (Jvm.Free.JP.mathPlain rfl (by decide +kernel)) hisR ?_
  intro p e s m args below meth c s₁ Bd hml0 hP hK
  obtain ⟨rfl, hZ, hhp⟩ := hP
  have hx := Bd.exec
  have hby := Bd.bytes
  have hml : c.maxLocals = 2 := hml0
  have hown : s.vm.findClass "java/lang/Math" = some m.cls := findClass_of_methodNamed Bd.named
  have hnm := (name_of_methodNamed Bd.named Bd.method).1
  have hlk : meth.locks = false := BodyLoose.notSynchronized Bd
  have hret := Bd.returns
  have X0 : Stand p l e ({ frames := 0, cells := 0, slots := 0, locals := 0 } : Room) s m #[(.int p1), (.int p2)] below meth c s₁ [] 0 0 := Stand.of_body Bd
  have e0 : s₁.heap = h0 := by rw [← hhp, Bd.state]; rfl
  have N0 := Fr.nil n0
  show Done p e below s (Qrm5 Z p1 p2 h0 n0) ({ frames := 0, cells := 0, slots := 0, locals := 0 } : Room).cells ({ frames := 0, cells := 0, slots := 0, locals := 0 } : Room).slots (s₁.setTop (entryFrame m #[(.int p1), (.int p2)] 2))
  refine Done.step (fun t k => castTop (ef_5 m p1 p2) k) ?_
  show Done p e below s _ _ _ (s₁.setTop (mkF m 0 #[.val (.int p1), .val (.int p2)] []))
  refine Done.step (fun t k => XS.iloadN X0.here hx rfl (hb hby d5_0) rfl k) ?_
  show Done p e below s _ _ _ (s₁.setTop (mkF m 1 #[.val (.int p1), .val (.int p2)] [(.int p1)]))
  refine Done.step (fun t k => XS.iloadN X0.here hx rfl (hb hby d5_1) rfl k) ?_
  show Done p e below s _ _ _ (s₁.setTop (mkF m 2 #[.val (.int p1), .val (.int p2)] [(.int p2), (.int p1)]))
  by_cases c1 : p1 < p2
  · refine Done.step (fun t k => XS.icmpYes X0.here hx rfl (pc0 := 2) (pc' := 9) rfl (hb hby d5_2) rfl (tlt c1).1 (by decide) (by decide) k) ?_
    show Done p e below s _ _ _ (s₁.setTop (mkF m 9 #[.val (.int p1), .val (.int p2)] []))
    refine Done.step (fun t k => XS.iloadN X0.here hx rfl (hb hby d5_9) rfl k) ?_
    show Done p e below s _ _ _ (s₁.setTop (mkF m 10 #[.val (.int p1), .val (.int p2)] [(.int p2)]))
    exact Done.int X0 hx hlk hret (hb hby d5_10) (by decide) (by decide) ⟨by rw [show F5 p1 p2 = p2 from by unfold F5; rw [if_pos c1]] <;> rfl, N0, e0⟩
  · refine Done.step (fun t k => XS.icmpNo X0.here hx rfl (hb hby d5_2) rfl (flt c1).1 k) ?_
    show Done p e below s _ _ _ (s₁.setTop (mkF m 5 #[.val (.int p1), .val (.int p2)] []))
    refine Done.step (fun t k => XS.iloadN X0.here hx rfl (hb hby d5_5) rfl k) ?_
    show Done p e below s _ _ _ (s₁.setTop (mkF m 6 #[.val (.int p1), .val (.int p2)] [(.int p1)]))
    refine Done.step (fun t k => XS.goto X0.here hx rfl (pc0 := 6) (pc' := 10) rfl (hb hby d5_6) (by decide) (by decide) k) ?_
    show Done p e below s _ _ _ (s₁.setTop (mkF m 10 #[.val (.int p1), .val (.int p2)] [(.int p1)]))
    exact Done.int X0 hx hlk hret (hb hby d5_10) (by decide) (by decide) ⟨by rw [show F5 p1 p2 = p1 from by unfold F5; rw [if_neg c1]] <;> rfl, N0, e0⟩
theorem d6_0 : decode method_5_code 0 = .ok (.lconst 1, 1) := by decide +kernel
theorem d6_1 : decode method_5_code 1 = .ok (.lstore_n 1, 1) := by decide +kernel
theorem d6_2 : decode method_5_code 2 = .ok (.iload_n 0, 1) := by decide +kernel
theorem d6_3 : decode method_5_code 3 = .ok (.iconst 1, 1) := by decide +kernel
theorem d6_4 : decode method_5_code 4 = .ok (.iand, 1) := by decide +kernel
theorem d6_5 : decode method_5_code 5 = .ok (.ifCond .eq 9, 3) := by decide +kernel
theorem d6_8 : decode method_5_code 8 = .ok (.lload_n 1, 1) := by decide +kernel
theorem d6_9 : decode method_5_code 9 = .ok (.ldc2_w 24, 3) := by decide +kernel
theorem d6_12 : decode method_5_code 12 = .ok (.lmul, 1) := by decide +kernel
theorem d6_13 : decode method_5_code 13 = .ok (.lstore_n 1, 1) := by decide +kernel
theorem d6_14 : decode method_5_code 14 = .ok (.iload_n 0, 1) := by decide +kernel
theorem d6_15 : decode method_5_code 15 = .ok (.iconst 2, 1) := by decide +kernel
theorem d6_16 : decode method_5_code 16 = .ok (.iand, 1) := by decide +kernel
theorem d6_17 : decode method_5_code 17 = .ok (.ifCond .eq 9, 3) := by decide +kernel
theorem d6_20 : decode method_5_code 20 = .ok (.lload_n 1, 1) := by decide +kernel
theorem d6_21 : decode method_5_code 21 = .ok (.ldc2_w 26, 3) := by decide +kernel
theorem d6_24 : decode method_5_code 24 = .ok (.lmul, 1) := by decide +kernel
theorem d6_25 : decode method_5_code 25 = .ok (.lstore_n 1, 1) := by decide +kernel
theorem d6_26 : decode method_5_code 26 = .ok (.iload_n 0, 1) := by decide +kernel
theorem d6_27 : decode method_5_code 27 = .ok (.iconst 4, 1) := by decide +kernel
theorem d6_28 : decode method_5_code 28 = .ok (.iand, 1) := by decide +kernel
theorem d6_29 : decode method_5_code 29 = .ok (.ifCond .eq 9, 3) := by decide +kernel
theorem d6_32 : decode method_5_code 32 = .ok (.lload_n 1, 1) := by decide +kernel
theorem d6_33 : decode method_5_code 33 = .ok (.ldc2_w 28, 3) := by decide +kernel
theorem d6_36 : decode method_5_code 36 = .ok (.lmul, 1) := by decide +kernel
theorem d6_37 : decode method_5_code 37 = .ok (.lstore_n 1, 1) := by decide +kernel
theorem d6_38 : decode method_5_code 38 = .ok (.iload_n 0, 1) := by decide +kernel
theorem d6_39 : decode method_5_code 39 = .ok (.bipush 8, 2) := by decide +kernel
theorem d6_41 : decode method_5_code 41 = .ok (.iand, 1) := by decide +kernel
theorem d6_42 : decode method_5_code 42 = .ok (.ifCond .eq 9, 3) := by decide +kernel
theorem d6_45 : decode method_5_code 45 = .ok (.lload_n 1, 1) := by decide +kernel
theorem d6_46 : decode method_5_code 46 = .ok (.ldc2_w 30, 3) := by decide +kernel
theorem d6_49 : decode method_5_code 49 = .ok (.lmul, 1) := by decide +kernel
theorem d6_50 : decode method_5_code 50 = .ok (.lstore_n 1, 1) := by decide +kernel
theorem d6_51 : decode method_5_code 51 = .ok (.iload_n 0, 1) := by decide +kernel
theorem d6_52 : decode method_5_code 52 = .ok (.bipush 16, 2) := by decide +kernel
theorem d6_54 : decode method_5_code 54 = .ok (.iand, 1) := by decide +kernel
theorem d6_55 : decode method_5_code 55 = .ok (.ifCond .eq 15, 3) := by decide +kernel
theorem d6_58 : decode method_5_code 58 = .ok (.lload_n 1, 1) := by decide +kernel
theorem d6_59 : decode method_5_code 59 = .ok (.ldc2_w 30, 3) := by decide +kernel
theorem d6_62 : decode method_5_code 62 = .ok (.lmul, 1) := by decide +kernel
theorem d6_63 : decode method_5_code 63 = .ok (.lstore_n 1, 1) := by decide +kernel
theorem d6_64 : decode method_5_code 64 = .ok (.lload_n 1, 1) := by decide +kernel
theorem d6_65 : decode method_5_code 65 = .ok (.ldc2_w 30, 3) := by decide +kernel
theorem d6_68 : decode method_5_code 68 = .ok (.lmul, 1) := by decide +kernel
theorem d6_69 : decode method_5_code 69 = .ok (.lstore_n 1, 1) := by decide +kernel
theorem d6_70 : decode method_5_code 70 = .ok (.lload_n 1, 1) := by decide +kernel
theorem d6_71 : decode method_5_code 71 = .ok (.lreturn, 1) := by decide +kernel
def F6 (p1 : Int32) : Int64 := (if (p1 &&& (1 : Int32)) = (0 : Int32) then (if (p1 &&& (2 : Int32)) = (0 : Int32) then (if (p1 &&& (4 : Int32)) = (0 : Int32) then (if (p1 &&& (8 : Int32)) = (0 : Int32) then (if (p1 &&& (16 : Int32)) = (0 : Int32) then (1 : Int64)
          else (((1 : Int64) * (100000000 : Int64)) * (100000000 : Int64)))
        else (if (p1 &&& (16 : Int32)) = (0 : Int32) then ((1 : Int64) * (100000000 : Int64))
          else ((((1 : Int64) * (100000000 : Int64)) * (100000000 : Int64)) * (100000000 : Int64))))
      else (if (p1 &&& (8 : Int32)) = (0 : Int32) then (if (p1 &&& (16 : Int32)) = (0 : Int32) then ((1 : Int64) * (10000 : Int64))
          else ((((1 : Int64) * (10000 : Int64)) * (100000000 : Int64)) * (100000000 : Int64)))
        else (if (p1 &&& (16 : Int32)) = (0 : Int32) then (((1 : Int64) * (10000 : Int64)) * (100000000 : Int64))
          else (((((1 : Int64) * (10000 : Int64)) * (100000000 : Int64)) * (100000000 : Int64)) * (100000000 : Int64)))))
    else (if (p1 &&& (4 : Int32)) = (0 : Int32) then (if (p1 &&& (8 : Int32)) = (0 : Int32) then (if (p1 &&& (16 : Int32)) = (0 : Int32) then ((1 : Int64) * (100 : Int64))
          else ((((1 : Int64) * (100 : Int64)) * (100000000 : Int64)) * (100000000 : Int64)))
        else (if (p1 &&& (16 : Int32)) = (0 : Int32) then (((1 : Int64) * (100 : Int64)) * (100000000 : Int64))
          else (((((1 : Int64) * (100 : Int64)) * (100000000 : Int64)) * (100000000 : Int64)) * (100000000 : Int64))))
      else (if (p1 &&& (8 : Int32)) = (0 : Int32) then (if (p1 &&& (16 : Int32)) = (0 : Int32) then (((1 : Int64) * (100 : Int64)) * (10000 : Int64))
          else (((((1 : Int64) * (100 : Int64)) * (10000 : Int64)) * (100000000 : Int64)) * (100000000 : Int64)))
        else (if (p1 &&& (16 : Int32)) = (0 : Int32) then ((((1 : Int64) * (100 : Int64)) * (10000 : Int64)) * (100000000 : Int64))
          else ((((((1 : Int64) * (100 : Int64)) * (10000 : Int64)) * (100000000 : Int64)) * (100000000 : Int64)) * (100000000 : Int64))))))
  else (if (p1 &&& (2 : Int32)) = (0 : Int32) then (if (p1 &&& (4 : Int32)) = (0 : Int32) then (if (p1 &&& (8 : Int32)) = (0 : Int32) then (if (p1 &&& (16 : Int32)) = (0 : Int32) then ((1 : Int64) * (10 : Int64))
          else ((((1 : Int64) * (10 : Int64)) * (100000000 : Int64)) * (100000000 : Int64)))
        else (if (p1 &&& (16 : Int32)) = (0 : Int32) then (((1 : Int64) * (10 : Int64)) * (100000000 : Int64))
          else (((((1 : Int64) * (10 : Int64)) * (100000000 : Int64)) * (100000000 : Int64)) * (100000000 : Int64))))
      else (if (p1 &&& (8 : Int32)) = (0 : Int32) then (if (p1 &&& (16 : Int32)) = (0 : Int32) then (((1 : Int64) * (10 : Int64)) * (10000 : Int64))
          else (((((1 : Int64) * (10 : Int64)) * (10000 : Int64)) * (100000000 : Int64)) * (100000000 : Int64)))
        else (if (p1 &&& (16 : Int32)) = (0 : Int32) then ((((1 : Int64) * (10 : Int64)) * (10000 : Int64)) * (100000000 : Int64))
          else ((((((1 : Int64) * (10 : Int64)) * (10000 : Int64)) * (100000000 : Int64)) * (100000000 : Int64)) * (100000000 : Int64)))))
    else (if (p1 &&& (4 : Int32)) = (0 : Int32) then (if (p1 &&& (8 : Int32)) = (0 : Int32) then (if (p1 &&& (16 : Int32)) = (0 : Int32) then (((1 : Int64) * (10 : Int64)) * (100 : Int64))
          else (((((1 : Int64) * (10 : Int64)) * (100 : Int64)) * (100000000 : Int64)) * (100000000 : Int64)))
        else (if (p1 &&& (16 : Int32)) = (0 : Int32) then ((((1 : Int64) * (10 : Int64)) * (100 : Int64)) * (100000000 : Int64))
          else ((((((1 : Int64) * (10 : Int64)) * (100 : Int64)) * (100000000 : Int64)) * (100000000 : Int64)) * (100000000 : Int64))))
      else (if (p1 &&& (8 : Int32)) = (0 : Int32) then (if (p1 &&& (16 : Int32)) = (0 : Int32) then ((((1 : Int64) * (10 : Int64)) * (100 : Int64)) * (10000 : Int64))
          else ((((((1 : Int64) * (10 : Int64)) * (100 : Int64)) * (10000 : Int64)) * (100000000 : Int64)) * (100000000 : Int64)))
        else (if (p1 &&& (16 : Int32)) = (0 : Int32) then (((((1 : Int64) * (10 : Int64)) * (100 : Int64)) * (10000 : Int64)) * (100000000 : Int64))
          else (((((((1 : Int64) * (10 : Int64)) * (100 : Int64)) * (10000 : Int64)) * (100000000 : Int64)) * (100000000 : Int64)) * (100000000 : Int64)))))))
theorem pn_6 : plainName "weirstream/engine/WrittenNumberShortWholePinLaw" = true := by first | (simp [plainName, overriddenIn]; done) | decide +kernel
theorem ef_6 (m : MethodId) (p1 : Int32) : entryFrame m #[(.int p1)] 3 = mkF m 0 #[.val (.int p1), .unset, .unset] [] := by first | (simp [entryFrame, mkF, argsToLocals, Value.category]; done) | rfl
def Qrm6 (Z : State) (p1 : Int32) (h0 : Heap) (n0 : Nat) : Option Value → Heap → List Loc → Prop := fun v h L => v = some (.long (F6 p1)) ∧ Fr n0 L ∧ h = h0
set_option maxRecDepth 65536 in
set_option maxHeartbeats 40000000 in
theorem rm6 (l : Launch) (Z : State) (a0 : Array Value) (hw : ∀ d ∈ tables_1, d.before a0 Z = true) (ws : List Jvm.Cond) (p1 : Int32) (h0 : Heap) (n0 : Nat) (Z0 : n0 ≤ h0.size) :
    MetFree l (⟨"weirstream/engine/WrittenNumberShortWholePinLaw", "pow10", "(I)J"⟩ : MethodName) (head1 (Jvm.Cond.code (⟨"weirstream/engine/WrittenNumberShortWholePinLaw", "pow10", "(I)J"⟩ : MethodName) method_5_code 3 (some .long) :: ws) ({ frames := 0, cells := 0, slots := 0, locals := 0 } : Room)) (fun a U => a = #[(.int p1)] ∧ Z.Warmed39 U.vm ∧ U.heap = h0) (fun _ _ _ _ _ => True) (fun _ U o U' => ∃ v L, o = .returned v ∧ Qrm6 Z p1 h0 n0 v U'.heap L ∧ FrameEnd U o U' L ({ frames := 0, cells := 0, slots := 0, locals := 0 } : Room).cells ({ frames := 0, cells := 0, slots := 0, locals := 0 } : Room).slots) := by
  refine MetFree.of_bodySF (plainFor_of_name pn_6) hisR ?_
  intro p e s m args below meth c s₁ Bd hml0 hP hK
  obtain ⟨rfl, hZ, hhp⟩ := hP
  have hx := Bd.exec
  have hby := Bd.bytes
  have hml : c.maxLocals = 3 := hml0
  have hown : s.vm.findClass "weirstream/engine/WrittenNumberShortWholePinLaw" = some m.cls := findClass_of_methodNamed Bd.named
  have hnm := (name_of_methodNamed Bd.named Bd.method).1
  have hlk : meth.locks = false := BodyLoose.notSynchronized Bd
  have hret := Bd.returns
  have X0 : Stand p l e ({ frames := 0, cells := 0, slots := 0, locals := 0 } : Room) s m #[(.int p1)] below meth c s₁ [] 0 0 := Stand.of_body Bd
  have e0 : s₁.heap = h0 := by rw [← hhp, Bd.state]; rfl
  have N0 := Fr.nil n0
  show Done p e below s (Qrm6 Z p1 h0 n0) ({ frames := 0, cells := 0, slots := 0, locals := 0 } : Room).cells ({ frames := 0, cells := 0, slots := 0, locals := 0 } : Room).slots (s₁.setTop (entryFrame m #[(.int p1)] 3))
  refine Done.step (fun t k => castTop (ef_6 m p1) k) ?_
  show Done p e below s _ _ _ (s₁.setTop (mkF m 0 #[.val (.int p1), .unset, .unset] []))
  refine Done.step (fun t k => XS.lconst X0.here hx rfl (hb hby d6_0) k) ?_
  show Done p e below s _ _ _ (s₁.setTop (mkF m 1 #[.val (.int p1), .unset, .unset] [(.long (1 : Int64))]))
  refine Done.step (fun t k => XS.lstoreN X0.here hx rfl (hb hby d6_1) rfl (l' := #[.val (.int p1), .val (.long (1 : Int64)), .second]) rfl k) ?_
  show Done p e below s _ _ _ (s₁.setTop (mkF m 2 #[.val (.int p1), .val (.long (1 : Int64)), .second] []))
  refine Done.step (fun t k => XS.iloadN X0.here hx rfl (hb hby d6_2) rfl k) ?_
  show Done p e below s _ _ _ (s₁.setTop (mkF m 3 #[.val (.int p1), .val (.long (1 : Int64)), .second] [(.int p1)]))
  refine Done.step (fun t k => XS.iconst X0.here hx rfl (hb hby d6_3) k) ?_
  show Done p e below s _ _ _ (s₁.setTop (mkF m 4 #[.val (.int p1), .val (.long (1 : Int64)), .second] [(.int (1 : Int32)), (.int p1)]))
  refine Done.step (fun t k => XS.iand X0.here hx rfl (hb hby d6_4) rfl k) ?_
  show Done p e below s _ _ _ (s₁.setTop (mkF m 5 #[.val (.int p1), .val (.long (1 : Int64)), .second] [(.int (p1 &&& (1 : Int32)))]))
  by_cases c1 : (p1 &&& (1 : Int32)) = (0 : Int32)
  · refine Done.step (fun t k => XS.ifYes X0.here hx rfl (pc0 := 5) (pc' := 14) rfl (hb hby d6_5) rfl ((if0 _ _).trans (teq c1).1) (by decide) (by decide) k) ?_
    show Done p e below s _ _ _ (s₁.setTop (mkF m 14 #[.val (.int p1), .val (.long (1 : Int64)), .second] []))
    refine Done.step (fun t k => XS.iloadN X0.here hx rfl (hb hby d6_14) rfl k) ?_
    show Done p e below s _ _ _ (s₁.setTop (mkF m 15 #[.val (.int p1), .val (.long (1 : Int64)), .second] [(.int p1)]))
    refine Done.step (fun t k => XS.iconst X0.here hx rfl (hb hby d6_15) k) ?_
    show Done p e below s _ _ _ (s₁.setTop (mkF m 16 #[.val (.int p1), .val (.long (1 : Int64)), .second] [(.int (2 : Int32)), (.int p1)]))
    refine Done.step (fun t k => XS.iand X0.here hx rfl (hb hby d6_16) rfl k) ?_
    show Done p e below s _ _ _ (s₁.setTop (mkF m 17 #[.val (.int p1), .val (.long (1 : Int64)), .second] [(.int (p1 &&& (2 : Int32)))]))
    by_cases c2 : (p1 &&& (2 : Int32)) = (0 : Int32)
    · refine Done.step (fun t k => XS.ifYes X0.here hx rfl (pc0 := 17) (pc' := 26) rfl (hb hby d6_17) rfl ((if0 _ _).trans (teq c2).1) (by decide) (by decide) k) ?_
      show Done p e below s _ _ _ (s₁.setTop (mkF m 26 #[.val (.int p1), .val (.long (1 : Int64)), .second] []))
      refine Done.step (fun t k => XS.iloadN X0.here hx rfl (hb hby d6_26) rfl k) ?_
      show Done p e below s _ _ _ (s₁.setTop (mkF m 27 #[.val (.int p1), .val (.long (1 : Int64)), .second] [(.int p1)]))
      refine Done.step (fun t k => XS.iconst X0.here hx rfl (hb hby d6_27) k) ?_
      show Done p e below s _ _ _ (s₁.setTop (mkF m 28 #[.val (.int p1), .val (.long (1 : Int64)), .second] [(.int (4 : Int32)), (.int p1)]))
      refine Done.step (fun t k => XS.iand X0.here hx rfl (hb hby d6_28) rfl k) ?_
      show Done p e below s _ _ _ (s₁.setTop (mkF m 29 #[.val (.int p1), .val (.long (1 : Int64)), .second] [(.int (p1 &&& (4 : Int32)))]))
      by_cases c3 : (p1 &&& (4 : Int32)) = (0 : Int32)
      · refine Done.step (fun t k => XS.ifYes X0.here hx rfl (pc0 := 29) (pc' := 38) rfl (hb hby d6_29) rfl ((if0 _ _).trans (teq c3).1) (by decide) (by decide) k) ?_
        show Done p e below s _ _ _ (s₁.setTop (mkF m 38 #[.val (.int p1), .val (.long (1 : Int64)), .second] []))
        refine Done.step (fun t k => XS.iloadN X0.here hx rfl (hb hby d6_38) rfl k) ?_
        show Done p e below s _ _ _ (s₁.setTop (mkF m 39 #[.val (.int p1), .val (.long (1 : Int64)), .second] [(.int p1)]))
        refine Done.step (fun t k => XS.bipush X0.here hx rfl (hb hby d6_39) k) ?_
        show Done p e below s _ _ _ (s₁.setTop (mkF m 41 #[.val (.int p1), .val (.long (1 : Int64)), .second] [(.int (8 : Int32)), (.int p1)]))
        refine Done.step (fun t k => XS.iand X0.here hx rfl (hb hby d6_41) rfl k) ?_
        show Done p e below s _ _ _ (s₁.setTop (mkF m 42 #[.val (.int p1), .val (.long (1 : Int64)), .second] [(.int (p1 &&& (8 : Int32)))]))
        by_cases c4 : (p1 &&& (8 : Int32)) = (0 : Int32)
        · refine Done.step (fun t k => XS.ifYes X0.here hx rfl (pc0 := 42) (pc' := 51) rfl (hb hby d6_42) rfl ((if0 _ _).trans (teq c4).1) (by decide) (by decide) k) ?_
          show Done p e below s _ _ _ (s₁.setTop (mkF m 51 #[.val (.int p1), .val (.long (1 : Int64)), .second] []))
          refine Done.step (fun t k => XS.iloadN X0.here hx rfl (hb hby d6_51) rfl k) ?_
          show Done p e below s _ _ _ (s₁.setTop (mkF m 52 #[.val (.int p1), .val (.long (1 : Int64)), .second] [(.int p1)]))
          refine Done.step (fun t k => XS.bipush X0.here hx rfl (hb hby d6_52) k) ?_
          show Done p e below s _ _ _ (s₁.setTop (mkF m 54 #[.val (.int p1), .val (.long (1 : Int64)), .second] [(.int (16 : Int32)), (.int p1)]))
          refine Done.step (fun t k => XS.iand X0.here hx rfl (hb hby d6_54) rfl k) ?_
          show Done p e below s _ _ _ (s₁.setTop (mkF m 55 #[.val (.int p1), .val (.long (1 : Int64)), .second] [(.int (p1 &&& (16 : Int32)))]))
          by_cases c5 : (p1 &&& (16 : Int32)) = (0 : Int32)
          · refine Done.step (fun t k => XS.ifYes X0.here hx rfl (pc0 := 55) (pc' := 70) rfl (hb hby d6_55) rfl ((if0 _ _).trans (teq c5).1) (by decide) (by decide) k) ?_
            show Done p e below s _ _ _ (s₁.setTop (mkF m 70 #[.val (.int p1), .val (.long (1 : Int64)), .second] []))
            refine Done.step (fun t k => XS.lloadN X0.here hx rfl (hb hby d6_70) rfl k) ?_
            show Done p e below s _ _ _ (s₁.setTop (mkF m 71 #[.val (.int p1), .val (.long (1 : Int64)), .second] [(.long (1 : Int64))]))
            exact Done.long X0 hx hlk hret (hb hby d6_71) (by decide) (by decide) ⟨by rw [show F6 p1 = (1 : Int64) from by unfold F6; rw [if_pos c1, if_pos c2, if_pos c3, if_pos c4, if_pos c5]] <;> rfl, N0, e0⟩
          · refine Done.step (fun t k => XS.ifNo X0.here hx rfl (hb hby d6_55) rfl ((if0 _ _).trans (feq c5).1) k) ?_
            show Done p e below s _ _ _ (s₁.setTop (mkF m 58 #[.val (.int p1), .val (.long (1 : Int64)), .second] []))
            refine Done.step (fun t k => XS.lloadN X0.here hx rfl (hb hby d6_58) rfl k) ?_
            show Done p e below s _ _ _ (s₁.setTop (mkF m 59 #[.val (.int p1), .val (.long (1 : Int64)), .second] [(.long (1 : Int64))]))
            refine Done.step (X0.ldc2Long hx hown (mvT hZ (hw _ (List.mem_of_getElem? (i := 29) rfl))) (g := (mkF m 59 #[.val (.int p1), .val (.long (1 : Int64)), .second] [(.long (1 : Int64))])) rfl (hb hby d6_59)) ?_
            show Done p e below s _ _ _ (s₁.setTop (mkF m 62 #[.val (.int p1), .val (.long (1 : Int64)), .second] [(.long (100000000 : Int64)), (.long (1 : Int64))]))
            refine Done.step (fun t k => XS.lmul X0.here hx rfl (hb hby d6_62) rfl k) ?_
            show Done p e below s _ _ _ (s₁.setTop (mkF m 63 #[.val (.int p1), .val (.long (1 : Int64)), .second] [(.long ((1 : Int64) * (100000000 : Int64)))]))
            refine Done.step (fun t k => XS.lstoreN X0.here hx rfl (hb hby d6_63) rfl (l' := #[.val (.int p1), .val (.long ((1 : Int64) * (100000000 : Int64))), .second]) rfl k) ?_
            show Done p e below s _ _ _ (s₁.setTop (mkF m 64 #[.val (.int p1), .val (.long ((1 : Int64) * (100000000 : Int64))), .second] []))
            refine Done.step (fun t k => XS.lloadN X0.here hx rfl (hb hby d6_64) rfl k) ?_
            show Done p e below s _ _ _ (s₁.setTop (mkF m 65 #[.val (.int p1), .val (.long ((1 : Int64) * (100000000 : Int64))), .second] [(.long ((1 : Int64) * (100000000 : Int64)))]))
            refine Done.step (X0.ldc2Long hx hown (mvT hZ (hw _ (List.mem_of_getElem? (i := 29) rfl))) (g := (mkF m 65 #[.val (.int p1), .val (.long ((1 : Int64) * (100000000 : Int64))), .second] [(.long ((1 : Int64) * (100000000 : Int64)))])) rfl (hb hby d6_65)) ?_
            show Done p e below s _ _ _ (s₁.setTop (mkF m 68 #[.val (.int p1), .val (.long ((1 : Int64) * (100000000 : Int64))), .second] [(.long (100000000 : Int64)), (.long ((1 : Int64) * (100000000 : Int64)))]))
            refine Done.step (fun t k => XS.lmul X0.here hx rfl (hb hby d6_68) rfl k) ?_
            show Done p e below s _ _ _ (s₁.setTop (mkF m 69 #[.val (.int p1), .val (.long ((1 : Int64) * (100000000 : Int64))), .second] [(.long (((1 : Int64) * (100000000 : Int64)) * (100000000 : Int64)))]))
            refine Done.step (fun t k => XS.lstoreN X0.here hx rfl (hb hby d6_69) rfl (l' := #[.val (.int p1), .val (.long (((1 : Int64) * (100000000 : Int64)) * (100000000 : Int64))), .second]) rfl k) ?_
            show Done p e below s _ _ _ (s₁.setTop (mkF m 70 #[.val (.int p1), .val (.long (((1 : Int64) * (100000000 : Int64)) * (100000000 : Int64))), .second] []))
            refine Done.step (fun t k => XS.lloadN X0.here hx rfl (hb hby d6_70) rfl k) ?_
            show Done p e below s _ _ _ (s₁.setTop (mkF m 71 #[.val (.int p1), .val (.long (((1 : Int64) * (100000000 : Int64)) * (100000000 : Int64))), .second] [(.long (((1 : Int64) * (100000000 : Int64)) * (100000000 : Int64)))]))
            exact Done.long X0 hx hlk hret (hb hby d6_71) (by decide) (by decide) ⟨by rw [show F6 p1 = (((1 : Int64) * (100000000 : Int64)) * (100000000 : Int64)) from by unfold F6; rw [if_pos c1, if_pos c2, if_pos c3, if_pos c4, if_neg c5]] <;> rfl, N0, e0⟩
        · refine Done.step (fun t k => XS.ifNo X0.here hx rfl (hb hby d6_42) rfl ((if0 _ _).trans (feq c4).1) k) ?_
          show Done p e below s _ _ _ (s₁.setTop (mkF m 45 #[.val (.int p1), .val (.long (1 : Int64)), .second] []))
          refine Done.step (fun t k => XS.lloadN X0.here hx rfl (hb hby d6_45) rfl k) ?_
          show Done p e below s _ _ _ (s₁.setTop (mkF m 46 #[.val (.int p1), .val (.long (1 : Int64)), .second] [(.long (1 : Int64))]))
          refine Done.step (X0.ldc2Long hx hown (mvT hZ (hw _ (List.mem_of_getElem? (i := 29) rfl))) (g := (mkF m 46 #[.val (.int p1), .val (.long (1 : Int64)), .second] [(.long (1 : Int64))])) rfl (hb hby d6_46)) ?_
          show Done p e below s _ _ _ (s₁.setTop (mkF m 49 #[.val (.int p1), .val (.long (1 : Int64)), .second] [(.long (100000000 : Int64)), (.long (1 : Int64))]))
          refine Done.step (fun t k => XS.lmul X0.here hx rfl (hb hby d6_49) rfl k) ?_
          show Done p e below s _ _ _ (s₁.setTop (mkF m 50 #[.val (.int p1), .val (.long (1 : Int64)), .second] [(.long ((1 : Int64) * (100000000 : Int64)))]))
          refine Done.step (fun t k => XS.lstoreN X0.here hx rfl (hb hby d6_50) rfl (l' := #[.val (.int p1), .val (.long ((1 : Int64) * (100000000 : Int64))), .second]) rfl k) ?_
          show Done p e below s _ _ _ (s₁.setTop (mkF m 51 #[.val (.int p1), .val (.long ((1 : Int64) * (100000000 : Int64))), .second] []))
          refine Done.step (fun t k => XS.iloadN X0.here hx rfl (hb hby d6_51) rfl k) ?_
          show Done p e below s _ _ _ (s₁.setTop (mkF m 52 #[.val (.int p1), .val (.long ((1 : Int64) * (100000000 : Int64))), .second] [(.int p1)]))
          refine Done.step (fun t k => XS.bipush X0.here hx rfl (hb hby d6_52) k) ?_
          show Done p e below s _ _ _ (s₁.setTop (mkF m 54 #[.val (.int p1), .val (.long ((1 : Int64) * (100000000 : Int64))), .second] [(.int (16 : Int32)), (.int p1)]))
          refine Done.step (fun t k => XS.iand X0.here hx rfl (hb hby d6_54) rfl k) ?_
          show Done p e below s _ _ _ (s₁.setTop (mkF m 55 #[.val (.int p1), .val (.long ((1 : Int64) * (100000000 : Int64))), .second] [(.int (p1 &&& (16 : Int32)))]))
          by_cases c6 : (p1 &&& (16 : Int32)) = (0 : Int32)
          · refine Done.step (fun t k => XS.ifYes X0.here hx rfl (pc0 := 55) (pc' := 70) rfl (hb hby d6_55) rfl ((if0 _ _).trans (teq c6).1) (by decide) (by decide) k) ?_
            show Done p e below s _ _ _ (s₁.setTop (mkF m 70 #[.val (.int p1), .val (.long ((1 : Int64) * (100000000 : Int64))), .second] []))
            refine Done.step (fun t k => XS.lloadN X0.here hx rfl (hb hby d6_70) rfl k) ?_
            show Done p e below s _ _ _ (s₁.setTop (mkF m 71 #[.val (.int p1), .val (.long ((1 : Int64) * (100000000 : Int64))), .second] [(.long ((1 : Int64) * (100000000 : Int64)))]))
            exact Done.long X0 hx hlk hret (hb hby d6_71) (by decide) (by decide) ⟨by rw [show F6 p1 = ((1 : Int64) * (100000000 : Int64)) from by unfold F6; rw [if_pos c1, if_pos c2, if_pos c3, if_neg c4, if_pos c6]] <;> rfl, N0, e0⟩
          · refine Done.step (fun t k => XS.ifNo X0.here hx rfl (hb hby d6_55) rfl ((if0 _ _).trans (feq c6).1) k) ?_
            show Done p e below s _ _ _ (s₁.setTop (mkF m 58 #[.val (.int p1), .val (.long ((1 : Int64) * (100000000 : Int64))), .second] []))
            refine Done.step (fun t k => XS.lloadN X0.here hx rfl (hb hby d6_58) rfl k) ?_
            show Done p e below s _ _ _ (s₁.setTop (mkF m 59 #[.val (.int p1), .val (.long ((1 : Int64) * (100000000 : Int64))), .second] [(.long ((1 : Int64) * (100000000 : Int64)))]))
            refine Done.step (X0.ldc2Long hx hown (mvT hZ (hw _ (List.mem_of_getElem? (i := 29) rfl))) (g := (mkF m 59 #[.val (.int p1), .val (.long ((1 : Int64) * (100000000 : Int64))), .second] [(.long ((1 : Int64) * (100000000 : Int64)))])) rfl (hb hby d6_59)) ?_
            show Done p e below s _ _ _ (s₁.setTop (mkF m 62 #[.val (.int p1), .val (.long ((1 : Int64) * (100000000 : Int64))), .second] [(.long (100000000 : Int64)), (.long ((1 : Int64) * (100000000 : Int64)))]))
            refine Done.step (fun t k => XS.lmul X0.here hx rfl (hb hby d6_62) rfl k) ?_
            show Done p e below s _ _ _ (s₁.setTop (mkF m 63 #[.val (.int p1), .val (.long ((1 : Int64) * (100000000 : Int64))), .second] [(.long (((1 : Int64) * (100000000 : Int64)) * (100000000 : Int64)))]))
            refine Done.step (fun t k => XS.lstoreN X0.here hx rfl (hb hby d6_63) rfl (l' := #[.val (.int p1), .val (.long (((1 : Int64) * (100000000 : Int64)) * (100000000 : Int64))), .second]) rfl k) ?_
            show Done p e below s _ _ _ (s₁.setTop (mkF m 64 #[.val (.int p1), .val (.long (((1 : Int64) * (100000000 : Int64)) * (100000000 : Int64))), .second] []))
            refine Done.step (fun t k => XS.lloadN X0.here hx rfl (hb hby d6_64) rfl k) ?_
            show Done p e below s _ _ _ (s₁.setTop (mkF m 65 #[.val (.int p1), .val (.long (((1 : Int64) * (100000000 : Int64)) * (100000000 : Int64))), .second] [(.long (((1 : Int64) * (100000000 : Int64)) * (100000000 : Int64)))]))
            refine Done.step (X0.ldc2Long hx hown (mvT hZ (hw _ (List.mem_of_getElem? (i := 29) rfl))) (g := (mkF m 65 #[.val (.int p1), .val (.long (((1 : Int64) * (100000000 : Int64)) * (100000000 : Int64))), .second] [(.long (((1 : Int64) * (100000000 : Int64)) * (100000000 : Int64)))])) rfl (hb hby d6_65)) ?_
            show Done p e below s _ _ _ (s₁.setTop (mkF m 68 #[.val (.int p1), .val (.long (((1 : Int64) * (100000000 : Int64)) * (100000000 : Int64))), .second] [(.long (100000000 : Int64)), (.long (((1 : Int64) * (100000000 : Int64)) * (100000000 : Int64)))]))
            refine Done.step (fun t k => XS.lmul X0.here hx rfl (hb hby d6_68) rfl k) ?_
            show Done p e below s _ _ _ (s₁.setTop (mkF m 69 #[.val (.int p1), .val (.long (((1 : Int64) * (100000000 : Int64)) * (100000000 : Int64))), .second] [(.long ((((1 : Int64) * (100000000 : Int64)) * (100000000 : Int64)) * (100000000 : Int64)))]))
            refine Done.step (fun t k => XS.lstoreN X0.here hx rfl (hb hby d6_69) rfl (l' := #[.val (.int p1), .val (.long ((((1 : Int64) * (100000000 : Int64)) * (100000000 : Int64)) * (100000000 : Int64))), .second]) rfl k) ?_
            show Done p e below s _ _ _ (s₁.setTop (mkF m 70 #[.val (.int p1), .val (.long ((((1 : Int64) * (100000000 : Int64)) * (100000000 : Int64)) * (100000000 : Int64))), .second] []))
            refine Done.step (fun t k => XS.lloadN X0.here hx rfl (hb hby d6_70) rfl k) ?_
            show Done p e below s _ _ _ (s₁.setTop (mkF m 71 #[.val (.int p1), .val (.long ((((1 : Int64) * (100000000 : Int64)) * (100000000 : Int64)) * (100000000 : Int64))), .second] [(.long ((((1 : Int64) * (100000000 : Int64)) * (100000000 : Int64)) * (100000000 : Int64)))]))
            exact Done.long X0 hx hlk hret (hb hby d6_71) (by decide) (by decide) ⟨by rw [show F6 p1 = ((((1 : Int64) * (100000000 : Int64)) * (100000000 : Int64)) * (100000000 : Int64)) from by unfold F6; rw [if_pos c1, if_pos c2, if_pos c3, if_neg c4, if_neg c6]] <;> rfl, N0, e0⟩
      · refine Done.step (fun t k => XS.ifNo X0.here hx rfl (hb hby d6_29) rfl ((if0 _ _).trans (feq c3).1) k) ?_
        show Done p e below s _ _ _ (s₁.setTop (mkF m 32 #[.val (.int p1), .val (.long (1 : Int64)), .second] []))
        refine Done.step (fun t k => XS.lloadN X0.here hx rfl (hb hby d6_32) rfl k) ?_
        show Done p e below s _ _ _ (s₁.setTop (mkF m 33 #[.val (.int p1), .val (.long (1 : Int64)), .second] [(.long (1 : Int64))]))
        refine Done.step (X0.ldc2Long hx hown (mvT hZ (hw _ (List.mem_of_getElem? (i := 30) rfl))) (g := (mkF m 33 #[.val (.int p1), .val (.long (1 : Int64)), .second] [(.long (1 : Int64))])) rfl (hb hby d6_33)) ?_
        show Done p e below s _ _ _ (s₁.setTop (mkF m 36 #[.val (.int p1), .val (.long (1 : Int64)), .second] [(.long (10000 : Int64)), (.long (1 : Int64))]))
        refine Done.step (fun t k => XS.lmul X0.here hx rfl (hb hby d6_36) rfl k) ?_
        show Done p e below s _ _ _ (s₁.setTop (mkF m 37 #[.val (.int p1), .val (.long (1 : Int64)), .second] [(.long ((1 : Int64) * (10000 : Int64)))]))
        refine Done.step (fun t k => XS.lstoreN X0.here hx rfl (hb hby d6_37) rfl (l' := #[.val (.int p1), .val (.long ((1 : Int64) * (10000 : Int64))), .second]) rfl k) ?_
        show Done p e below s _ _ _ (s₁.setTop (mkF m 38 #[.val (.int p1), .val (.long ((1 : Int64) * (10000 : Int64))), .second] []))
        refine Done.step (fun t k => XS.iloadN X0.here hx rfl (hb hby d6_38) rfl k) ?_
        show Done p e below s _ _ _ (s₁.setTop (mkF m 39 #[.val (.int p1), .val (.long ((1 : Int64) * (10000 : Int64))), .second] [(.int p1)]))
        refine Done.step (fun t k => XS.bipush X0.here hx rfl (hb hby d6_39) k) ?_
        show Done p e below s _ _ _ (s₁.setTop (mkF m 41 #[.val (.int p1), .val (.long ((1 : Int64) * (10000 : Int64))), .second] [(.int (8 : Int32)), (.int p1)]))
        refine Done.step (fun t k => XS.iand X0.here hx rfl (hb hby d6_41) rfl k) ?_
        show Done p e below s _ _ _ (s₁.setTop (mkF m 42 #[.val (.int p1), .val (.long ((1 : Int64) * (10000 : Int64))), .second] [(.int (p1 &&& (8 : Int32)))]))
        by_cases c7 : (p1 &&& (8 : Int32)) = (0 : Int32)
        · refine Done.step (fun t k => XS.ifYes X0.here hx rfl (pc0 := 42) (pc' := 51) rfl (hb hby d6_42) rfl ((if0 _ _).trans (teq c7).1) (by decide) (by decide) k) ?_
          show Done p e below s _ _ _ (s₁.setTop (mkF m 51 #[.val (.int p1), .val (.long ((1 : Int64) * (10000 : Int64))), .second] []))
          refine Done.step (fun t k => XS.iloadN X0.here hx rfl (hb hby d6_51) rfl k) ?_
          show Done p e below s _ _ _ (s₁.setTop (mkF m 52 #[.val (.int p1), .val (.long ((1 : Int64) * (10000 : Int64))), .second] [(.int p1)]))
          refine Done.step (fun t k => XS.bipush X0.here hx rfl (hb hby d6_52) k) ?_
          show Done p e below s _ _ _ (s₁.setTop (mkF m 54 #[.val (.int p1), .val (.long ((1 : Int64) * (10000 : Int64))), .second] [(.int (16 : Int32)), (.int p1)]))
          refine Done.step (fun t k => XS.iand X0.here hx rfl (hb hby d6_54) rfl k) ?_
          show Done p e below s _ _ _ (s₁.setTop (mkF m 55 #[.val (.int p1), .val (.long ((1 : Int64) * (10000 : Int64))), .second] [(.int (p1 &&& (16 : Int32)))]))
          by_cases c8 : (p1 &&& (16 : Int32)) = (0 : Int32)
          · refine Done.step (fun t k => XS.ifYes X0.here hx rfl (pc0 := 55) (pc' := 70) rfl (hb hby d6_55) rfl ((if0 _ _).trans (teq c8).1) (by decide) (by decide) k) ?_
            show Done p e below s _ _ _ (s₁.setTop (mkF m 70 #[.val (.int p1), .val (.long ((1 : Int64) * (10000 : Int64))), .second] []))
            refine Done.step (fun t k => XS.lloadN X0.here hx rfl (hb hby d6_70) rfl k) ?_
            show Done p e below s _ _ _ (s₁.setTop (mkF m 71 #[.val (.int p1), .val (.long ((1 : Int64) * (10000 : Int64))), .second] [(.long ((1 : Int64) * (10000 : Int64)))]))
            exact Done.long X0 hx hlk hret (hb hby d6_71) (by decide) (by decide) ⟨by rw [show F6 p1 = ((1 : Int64) * (10000 : Int64)) from by unfold F6; rw [if_pos c1, if_pos c2, if_neg c3, if_pos c7, if_pos c8]] <;> rfl, N0, e0⟩
          · refine Done.step (fun t k => XS.ifNo X0.here hx rfl (hb hby d6_55) rfl ((if0 _ _).trans (feq c8).1) k) ?_
            show Done p e below s _ _ _ (s₁.setTop (mkF m 58 #[.val (.int p1), .val (.long ((1 : Int64) * (10000 : Int64))), .second] []))
            refine Done.step (fun t k => XS.lloadN X0.here hx rfl (hb hby d6_58) rfl k) ?_
            show Done p e below s _ _ _ (s₁.setTop (mkF m 59 #[.val (.int p1), .val (.long ((1 : Int64) * (10000 : Int64))), .second] [(.long ((1 : Int64) * (10000 : Int64)))]))
            refine Done.step (X0.ldc2Long hx hown (mvT hZ (hw _ (List.mem_of_getElem? (i := 29) rfl))) (g := (mkF m 59 #[.val (.int p1), .val (.long ((1 : Int64) * (10000 : Int64))), .second] [(.long ((1 : Int64) * (10000 : Int64)))])) rfl (hb hby d6_59)) ?_
            show Done p e below s _ _ _ (s₁.setTop (mkF m 62 #[.val (.int p1), .val (.long ((1 : Int64) * (10000 : Int64))), .second] [(.long (100000000 : Int64)), (.long ((1 : Int64) * (10000 : Int64)))]))
            refine Done.step (fun t k => XS.lmul X0.here hx rfl (hb hby d6_62) rfl k) ?_
            show Done p e below s _ _ _ (s₁.setTop (mkF m 63 #[.val (.int p1), .val (.long ((1 : Int64) * (10000 : Int64))), .second] [(.long (((1 : Int64) * (10000 : Int64)) * (100000000 : Int64)))]))
            refine Done.step (fun t k => XS.lstoreN X0.here hx rfl (hb hby d6_63) rfl (l' := #[.val (.int p1), .val (.long (((1 : Int64) * (10000 : Int64)) * (100000000 : Int64))), .second]) rfl k) ?_
            show Done p e below s _ _ _ (s₁.setTop (mkF m 64 #[.val (.int p1), .val (.long (((1 : Int64) * (10000 : Int64)) * (100000000 : Int64))), .second] []))
            refine Done.step (fun t k => XS.lloadN X0.here hx rfl (hb hby d6_64) rfl k) ?_
            show Done p e below s _ _ _ (s₁.setTop (mkF m 65 #[.val (.int p1), .val (.long (((1 : Int64) * (10000 : Int64)) * (100000000 : Int64))), .second] [(.long (((1 : Int64) * (10000 : Int64)) * (100000000 : Int64)))]))
            refine Done.step (X0.ldc2Long hx hown (mvT hZ (hw _ (List.mem_of_getElem? (i := 29) rfl))) (g := (mkF m 65 #[.val (.int p1), .val (.long (((1 : Int64) * (10000 : Int64)) * (100000000 : Int64))), .second] [(.long (((1 : Int64) * (10000 : Int64)) * (100000000 : Int64)))])) rfl (hb hby d6_65)) ?_
            show Done p e below s _ _ _ (s₁.setTop (mkF m 68 #[.val (.int p1), .val (.long (((1 : Int64) * (10000 : Int64)) * (100000000 : Int64))), .second] [(.long (100000000 : Int64)), (.long (((1 : Int64) * (10000 : Int64)) * (100000000 : Int64)))]))
            refine Done.step (fun t k => XS.lmul X0.here hx rfl (hb hby d6_68) rfl k) ?_
            show Done p e below s _ _ _ (s₁.setTop (mkF m 69 #[.val (.int p1), .val (.long (((1 : Int64) * (10000 : Int64)) * (100000000 : Int64))), .second] [(.long ((((1 : Int64) * (10000 : Int64)) * (100000000 : Int64)) * (100000000 : Int64)))]))
            refine Done.step (fun t k => XS.lstoreN X0.here hx rfl (hb hby d6_69) rfl (l' := #[.val (.int p1), .val (.long ((((1 : Int64) * (10000 : Int64)) * (100000000 : Int64)) * (100000000 : Int64))), .second]) rfl k) ?_
            show Done p e below s _ _ _ (s₁.setTop (mkF m 70 #[.val (.int p1), .val (.long ((((1 : Int64) * (10000 : Int64)) * (100000000 : Int64)) * (100000000 : Int64))), .second] []))
            refine Done.step (fun t k => XS.lloadN X0.here hx rfl (hb hby d6_70) rfl k) ?_
            show Done p e below s _ _ _ (s₁.setTop (mkF m 71 #[.val (.int p1), .val (.long ((((1 : Int64) * (10000 : Int64)) * (100000000 : Int64)) * (100000000 : Int64))), .second] [(.long ((((1 : Int64) * (10000 : Int64)) * (100000000 : Int64)) * (100000000 : Int64)))]))
            exact Done.long X0 hx hlk hret (hb hby d6_71) (by decide) (by decide) ⟨by rw [show F6 p1 = ((((1 : Int64) * (10000 : Int64)) * (100000000 : Int64)) * (100000000 : Int64)) from by unfold F6; rw [if_pos c1, if_pos c2, if_neg c3, if_pos c7, if_neg c8]] <;> rfl, N0, e0⟩
        · refine Done.step (fun t k => XS.ifNo X0.here hx rfl (hb hby d6_42) rfl ((if0 _ _).trans (feq c7).1) k) ?_
          show Done p e below s _ _ _ (s₁.setTop (mkF m 45 #[.val (.int p1), .val (.long ((1 : Int64) * (10000 : Int64))), .second] []))
          refine Done.step (fun t k => XS.lloadN X0.here hx rfl (hb hby d6_45) rfl k) ?_
          show Done p e below s _ _ _ (s₁.setTop (mkF m 46 #[.val (.int p1), .val (.long ((1 : Int64) * (10000 : Int64))), .second] [(.long ((1 : Int64) * (10000 : Int64)))]))
          refine Done.step (X0.ldc2Long hx hown (mvT hZ (hw _ (List.mem_of_getElem? (i := 29) rfl))) (g := (mkF m 46 #[.val (.int p1), .val (.long ((1 : Int64) * (10000 : Int64))), .second] [(.long ((1 : Int64) * (10000 : Int64)))])) rfl (hb hby d6_46)) ?_
          show Done p e below s _ _ _ (s₁.setTop (mkF m 49 #[.val (.int p1), .val (.long ((1 : Int64) * (10000 : Int64))), .second] [(.long (100000000 : Int64)), (.long ((1 : Int64) * (10000 : Int64)))]))
          refine Done.step (fun t k => XS.lmul X0.here hx rfl (hb hby d6_49) rfl k) ?_
          show Done p e below s _ _ _ (s₁.setTop (mkF m 50 #[.val (.int p1), .val (.long ((1 : Int64) * (10000 : Int64))), .second] [(.long (((1 : Int64) * (10000 : Int64)) * (100000000 : Int64)))]))
          refine Done.step (fun t k => XS.lstoreN X0.here hx rfl (hb hby d6_50) rfl (l' := #[.val (.int p1), .val (.long (((1 : Int64) * (10000 : Int64)) * (100000000 : Int64))), .second]) rfl k) ?_
          show Done p e below s _ _ _ (s₁.setTop (mkF m 51 #[.val (.int p1), .val (.long (((1 : Int64) * (10000 : Int64)) * (100000000 : Int64))), .second] []))
          refine Done.step (fun t k => XS.iloadN X0.here hx rfl (hb hby d6_51) rfl k) ?_
          show Done p e below s _ _ _ (s₁.setTop (mkF m 52 #[.val (.int p1), .val (.long (((1 : Int64) * (10000 : Int64)) * (100000000 : Int64))), .second] [(.int p1)]))
          refine Done.step (fun t k => XS.bipush X0.here hx rfl (hb hby d6_52) k) ?_
          show Done p e below s _ _ _ (s₁.setTop (mkF m 54 #[.val (.int p1), .val (.long (((1 : Int64) * (10000 : Int64)) * (100000000 : Int64))), .second] [(.int (16 : Int32)), (.int p1)]))
          refine Done.step (fun t k => XS.iand X0.here hx rfl (hb hby d6_54) rfl k) ?_
          show Done p e below s _ _ _ (s₁.setTop (mkF m 55 #[.val (.int p1), .val (.long (((1 : Int64) * (10000 : Int64)) * (100000000 : Int64))), .second] [(.int (p1 &&& (16 : Int32)))]))
          by_cases c9 : (p1 &&& (16 : Int32)) = (0 : Int32)
          · refine Done.step (fun t k => XS.ifYes X0.here hx rfl (pc0 := 55) (pc' := 70) rfl (hb hby d6_55) rfl ((if0 _ _).trans (teq c9).1) (by decide) (by decide) k) ?_
            show Done p e below s _ _ _ (s₁.setTop (mkF m 70 #[.val (.int p1), .val (.long (((1 : Int64) * (10000 : Int64)) * (100000000 : Int64))), .second] []))
            refine Done.step (fun t k => XS.lloadN X0.here hx rfl (hb hby d6_70) rfl k) ?_
            show Done p e below s _ _ _ (s₁.setTop (mkF m 71 #[.val (.int p1), .val (.long (((1 : Int64) * (10000 : Int64)) * (100000000 : Int64))), .second] [(.long (((1 : Int64) * (10000 : Int64)) * (100000000 : Int64)))]))
            exact Done.long X0 hx hlk hret (hb hby d6_71) (by decide) (by decide) ⟨by rw [show F6 p1 = (((1 : Int64) * (10000 : Int64)) * (100000000 : Int64)) from by unfold F6; rw [if_pos c1, if_pos c2, if_neg c3, if_neg c7, if_pos c9]] <;> rfl, N0, e0⟩
          · refine Done.step (fun t k => XS.ifNo X0.here hx rfl (hb hby d6_55) rfl ((if0 _ _).trans (feq c9).1) k) ?_
            show Done p e below s _ _ _ (s₁.setTop (mkF m 58 #[.val (.int p1), .val (.long (((1 : Int64) * (10000 : Int64)) * (100000000 : Int64))), .second] []))
            refine Done.step (fun t k => XS.lloadN X0.here hx rfl (hb hby d6_58) rfl k) ?_
            show Done p e below s _ _ _ (s₁.setTop (mkF m 59 #[.val (.int p1), .val (.long (((1 : Int64) * (10000 : Int64)) * (100000000 : Int64))), .second] [(.long (((1 : Int64) * (10000 : Int64)) * (100000000 : Int64)))]))
            refine Done.step (X0.ldc2Long hx hown (mvT hZ (hw _ (List.mem_of_getElem? (i := 29) rfl))) (g := (mkF m 59 #[.val (.int p1), .val (.long (((1 : Int64) * (10000 : Int64)) * (100000000 : Int64))), .second] [(.long (((1 : Int64) * (10000 : Int64)) * (100000000 : Int64)))])) rfl (hb hby d6_59)) ?_
            show Done p e below s _ _ _ (s₁.setTop (mkF m 62 #[.val (.int p1), .val (.long (((1 : Int64) * (10000 : Int64)) * (100000000 : Int64))), .second] [(.long (100000000 : Int64)), (.long (((1 : Int64) * (10000 : Int64)) * (100000000 : Int64)))]))
            refine Done.step (fun t k => XS.lmul X0.here hx rfl (hb hby d6_62) rfl k) ?_
            show Done p e below s _ _ _ (s₁.setTop (mkF m 63 #[.val (.int p1), .val (.long (((1 : Int64) * (10000 : Int64)) * (100000000 : Int64))), .second] [(.long ((((1 : Int64) * (10000 : Int64)) * (100000000 : Int64)) * (100000000 : Int64)))]))
            refine Done.step (fun t k => XS.lstoreN X0.here hx rfl (hb hby d6_63) rfl (l' := #[.val (.int p1), .val (.long ((((1 : Int64) * (10000 : Int64)) * (100000000 : Int64)) * (100000000 : Int64))), .second]) rfl k) ?_
            show Done p e below s _ _ _ (s₁.setTop (mkF m 64 #[.val (.int p1), .val (.long ((((1 : Int64) * (10000 : Int64)) * (100000000 : Int64)) * (100000000 : Int64))), .second] []))
            refine Done.step (fun t k => XS.lloadN X0.here hx rfl (hb hby d6_64) rfl k) ?_
            show Done p e below s _ _ _ (s₁.setTop (mkF m 65 #[.val (.int p1), .val (.long ((((1 : Int64) * (10000 : Int64)) * (100000000 : Int64)) * (100000000 : Int64))), .second] [(.long ((((1 : Int64) * (10000 : Int64)) * (100000000 : Int64)) * (100000000 : Int64)))]))
            refine Done.step (X0.ldc2Long hx hown (mvT hZ (hw _ (List.mem_of_getElem? (i := 29) rfl))) (g := (mkF m 65 #[.val (.int p1), .val (.long ((((1 : Int64) * (10000 : Int64)) * (100000000 : Int64)) * (100000000 : Int64))), .second] [(.long ((((1 : Int64) * (10000 : Int64)) * (100000000 : Int64)) * (100000000 : Int64)))])) rfl (hb hby d6_65)) ?_
            show Done p e below s _ _ _ (s₁.setTop (mkF m 68 #[.val (.int p1), .val (.long ((((1 : Int64) * (10000 : Int64)) * (100000000 : Int64)) * (100000000 : Int64))), .second] [(.long (100000000 : Int64)), (.long ((((1 : Int64) * (10000 : Int64)) * (100000000 : Int64)) * (100000000 : Int64)))]))
            refine Done.step (fun t k => XS.lmul X0.here hx rfl (hb hby d6_68) rfl k) ?_
            show Done p e below s _ _ _ (s₁.setTop (mkF m 69 #[.val (.int p1), .val (.long ((((1 : Int64) * (10000 : Int64)) * (100000000 : Int64)) * (100000000 : Int64))), .second] [(.long (((((1 : Int64) * (10000 : Int64)) * (100000000 : Int64)) * (100000000 : Int64)) * (100000000 : Int64)))]))
            refine Done.step (fun t k => XS.lstoreN X0.here hx rfl (hb hby d6_69) rfl (l' := #[.val (.int p1), .val (.long (((((1 : Int64) * (10000 : Int64)) * (100000000 : Int64)) * (100000000 : Int64)) * (100000000 : Int64))), .second]) rfl k) ?_
            show Done p e below s _ _ _ (s₁.setTop (mkF m 70 #[.val (.int p1), .val (.long (((((1 : Int64) * (10000 : Int64)) * (100000000 : Int64)) * (100000000 : Int64)) * (100000000 : Int64))), .second] []))
            refine Done.step (fun t k => XS.lloadN X0.here hx rfl (hb hby d6_70) rfl k) ?_
            show Done p e below s _ _ _ (s₁.setTop (mkF m 71 #[.val (.int p1), .val (.long (((((1 : Int64) * (10000 : Int64)) * (100000000 : Int64)) * (100000000 : Int64)) * (100000000 : Int64))), .second] [(.long (((((1 : Int64) * (10000 : Int64)) * (100000000 : Int64)) * (100000000 : Int64)) * (100000000 : Int64)))]))
            exact Done.long X0 hx hlk hret (hb hby d6_71) (by decide) (by decide) ⟨by rw [show F6 p1 = (((((1 : Int64) * (10000 : Int64)) * (100000000 : Int64)) * (100000000 : Int64)) * (100000000 : Int64)) from by unfold F6; rw [if_pos c1, if_pos c2, if_neg c3, if_neg c7, if_neg c9]] <;> rfl, N0, e0⟩
    · refine Done.step (fun t k => XS.ifNo X0.here hx rfl (hb hby d6_17) rfl ((if0 _ _).trans (feq c2).1) k) ?_
      show Done p e below s _ _ _ (s₁.setTop (mkF m 20 #[.val (.int p1), .val (.long (1 : Int64)), .second] []))
      refine Done.step (fun t k => XS.lloadN X0.here hx rfl (hb hby d6_20) rfl k) ?_
      show Done p e below s _ _ _ (s₁.setTop (mkF m 21 #[.val (.int p1), .val (.long (1 : Int64)), .second] [(.long (1 : Int64))]))
      refine Done.step (X0.ldc2Long hx hown (mvT hZ (hw _ (List.mem_of_getElem? (i := 27) rfl))) (g := (mkF m 21 #[.val (.int p1), .val (.long (1 : Int64)), .second] [(.long (1 : Int64))])) rfl (hb hby d6_21)) ?_
      show Done p e below s _ _ _ (s₁.setTop (mkF m 24 #[.val (.int p1), .val (.long (1 : Int64)), .second] [(.long (100 : Int64)), (.long (1 : Int64))]))
      refine Done.step (fun t k => XS.lmul X0.here hx rfl (hb hby d6_24) rfl k) ?_
      show Done p e below s _ _ _ (s₁.setTop (mkF m 25 #[.val (.int p1), .val (.long (1 : Int64)), .second] [(.long ((1 : Int64) * (100 : Int64)))]))
      refine Done.step (fun t k => XS.lstoreN X0.here hx rfl (hb hby d6_25) rfl (l' := #[.val (.int p1), .val (.long ((1 : Int64) * (100 : Int64))), .second]) rfl k) ?_
      show Done p e below s _ _ _ (s₁.setTop (mkF m 26 #[.val (.int p1), .val (.long ((1 : Int64) * (100 : Int64))), .second] []))
      refine Done.step (fun t k => XS.iloadN X0.here hx rfl (hb hby d6_26) rfl k) ?_
      show Done p e below s _ _ _ (s₁.setTop (mkF m 27 #[.val (.int p1), .val (.long ((1 : Int64) * (100 : Int64))), .second] [(.int p1)]))
      refine Done.step (fun t k => XS.iconst X0.here hx rfl (hb hby d6_27) k) ?_
      show Done p e below s _ _ _ (s₁.setTop (mkF m 28 #[.val (.int p1), .val (.long ((1 : Int64) * (100 : Int64))), .second] [(.int (4 : Int32)), (.int p1)]))
      refine Done.step (fun t k => XS.iand X0.here hx rfl (hb hby d6_28) rfl k) ?_
      show Done p e below s _ _ _ (s₁.setTop (mkF m 29 #[.val (.int p1), .val (.long ((1 : Int64) * (100 : Int64))), .second] [(.int (p1 &&& (4 : Int32)))]))
      by_cases c10 : (p1 &&& (4 : Int32)) = (0 : Int32)
      · refine Done.step (fun t k => XS.ifYes X0.here hx rfl (pc0 := 29) (pc' := 38) rfl (hb hby d6_29) rfl ((if0 _ _).trans (teq c10).1) (by decide) (by decide) k) ?_
        show Done p e below s _ _ _ (s₁.setTop (mkF m 38 #[.val (.int p1), .val (.long ((1 : Int64) * (100 : Int64))), .second] []))
        refine Done.step (fun t k => XS.iloadN X0.here hx rfl (hb hby d6_38) rfl k) ?_
        show Done p e below s _ _ _ (s₁.setTop (mkF m 39 #[.val (.int p1), .val (.long ((1 : Int64) * (100 : Int64))), .second] [(.int p1)]))
        refine Done.step (fun t k => XS.bipush X0.here hx rfl (hb hby d6_39) k) ?_
        show Done p e below s _ _ _ (s₁.setTop (mkF m 41 #[.val (.int p1), .val (.long ((1 : Int64) * (100 : Int64))), .second] [(.int (8 : Int32)), (.int p1)]))
        refine Done.step (fun t k => XS.iand X0.here hx rfl (hb hby d6_41) rfl k) ?_
        show Done p e below s _ _ _ (s₁.setTop (mkF m 42 #[.val (.int p1), .val (.long ((1 : Int64) * (100 : Int64))), .second] [(.int (p1 &&& (8 : Int32)))]))
        by_cases c11 : (p1 &&& (8 : Int32)) = (0 : Int32)
        · refine Done.step (fun t k => XS.ifYes X0.here hx rfl (pc0 := 42) (pc' := 51) rfl (hb hby d6_42) rfl ((if0 _ _).trans (teq c11).1) (by decide) (by decide) k) ?_
          show Done p e below s _ _ _ (s₁.setTop (mkF m 51 #[.val (.int p1), .val (.long ((1 : Int64) * (100 : Int64))), .second] []))
          refine Done.step (fun t k => XS.iloadN X0.here hx rfl (hb hby d6_51) rfl k) ?_
          show Done p e below s _ _ _ (s₁.setTop (mkF m 52 #[.val (.int p1), .val (.long ((1 : Int64) * (100 : Int64))), .second] [(.int p1)]))
          refine Done.step (fun t k => XS.bipush X0.here hx rfl (hb hby d6_52) k) ?_
          show Done p e below s _ _ _ (s₁.setTop (mkF m 54 #[.val (.int p1), .val (.long ((1 : Int64) * (100 : Int64))), .second] [(.int (16 : Int32)), (.int p1)]))
          refine Done.step (fun t k => XS.iand X0.here hx rfl (hb hby d6_54) rfl k) ?_
          show Done p e below s _ _ _ (s₁.setTop (mkF m 55 #[.val (.int p1), .val (.long ((1 : Int64) * (100 : Int64))), .second] [(.int (p1 &&& (16 : Int32)))]))
          by_cases c12 : (p1 &&& (16 : Int32)) = (0 : Int32)
          · refine Done.step (fun t k => XS.ifYes X0.here hx rfl (pc0 := 55) (pc' := 70) rfl (hb hby d6_55) rfl ((if0 _ _).trans (teq c12).1) (by decide) (by decide) k) ?_
            show Done p e below s _ _ _ (s₁.setTop (mkF m 70 #[.val (.int p1), .val (.long ((1 : Int64) * (100 : Int64))), .second] []))
            refine Done.step (fun t k => XS.lloadN X0.here hx rfl (hb hby d6_70) rfl k) ?_
            show Done p e below s _ _ _ (s₁.setTop (mkF m 71 #[.val (.int p1), .val (.long ((1 : Int64) * (100 : Int64))), .second] [(.long ((1 : Int64) * (100 : Int64)))]))
            exact Done.long X0 hx hlk hret (hb hby d6_71) (by decide) (by decide) ⟨by rw [show F6 p1 = ((1 : Int64) * (100 : Int64)) from by unfold F6; rw [if_pos c1, if_neg c2, if_pos c10, if_pos c11, if_pos c12]] <;> rfl, N0, e0⟩
          · refine Done.step (fun t k => XS.ifNo X0.here hx rfl (hb hby d6_55) rfl ((if0 _ _).trans (feq c12).1) k) ?_
            show Done p e below s _ _ _ (s₁.setTop (mkF m 58 #[.val (.int p1), .val (.long ((1 : Int64) * (100 : Int64))), .second] []))
            refine Done.step (fun t k => XS.lloadN X0.here hx rfl (hb hby d6_58) rfl k) ?_
            show Done p e below s _ _ _ (s₁.setTop (mkF m 59 #[.val (.int p1), .val (.long ((1 : Int64) * (100 : Int64))), .second] [(.long ((1 : Int64) * (100 : Int64)))]))
            refine Done.step (X0.ldc2Long hx hown (mvT hZ (hw _ (List.mem_of_getElem? (i := 29) rfl))) (g := (mkF m 59 #[.val (.int p1), .val (.long ((1 : Int64) * (100 : Int64))), .second] [(.long ((1 : Int64) * (100 : Int64)))])) rfl (hb hby d6_59)) ?_
            show Done p e below s _ _ _ (s₁.setTop (mkF m 62 #[.val (.int p1), .val (.long ((1 : Int64) * (100 : Int64))), .second] [(.long (100000000 : Int64)), (.long ((1 : Int64) * (100 : Int64)))]))
            refine Done.step (fun t k => XS.lmul X0.here hx rfl (hb hby d6_62) rfl k) ?_
            show Done p e below s _ _ _ (s₁.setTop (mkF m 63 #[.val (.int p1), .val (.long ((1 : Int64) * (100 : Int64))), .second] [(.long (((1 : Int64) * (100 : Int64)) * (100000000 : Int64)))]))
            refine Done.step (fun t k => XS.lstoreN X0.here hx rfl (hb hby d6_63) rfl (l' := #[.val (.int p1), .val (.long (((1 : Int64) * (100 : Int64)) * (100000000 : Int64))), .second]) rfl k) ?_
            show Done p e below s _ _ _ (s₁.setTop (mkF m 64 #[.val (.int p1), .val (.long (((1 : Int64) * (100 : Int64)) * (100000000 : Int64))), .second] []))
            refine Done.step (fun t k => XS.lloadN X0.here hx rfl (hb hby d6_64) rfl k) ?_
            show Done p e below s _ _ _ (s₁.setTop (mkF m 65 #[.val (.int p1), .val (.long (((1 : Int64) * (100 : Int64)) * (100000000 : Int64))), .second] [(.long (((1 : Int64) * (100 : Int64)) * (100000000 : Int64)))]))
            refine Done.step (X0.ldc2Long hx hown (mvT hZ (hw _ (List.mem_of_getElem? (i := 29) rfl))) (g := (mkF m 65 #[.val (.int p1), .val (.long (((1 : Int64) * (100 : Int64)) * (100000000 : Int64))), .second] [(.long (((1 : Int64) * (100 : Int64)) * (100000000 : Int64)))])) rfl (hb hby d6_65)) ?_
            show Done p e below s _ _ _ (s₁.setTop (mkF m 68 #[.val (.int p1), .val (.long (((1 : Int64) * (100 : Int64)) * (100000000 : Int64))), .second] [(.long (100000000 : Int64)), (.long (((1 : Int64) * (100 : Int64)) * (100000000 : Int64)))]))
            refine Done.step (fun t k => XS.lmul X0.here hx rfl (hb hby d6_68) rfl k) ?_
            show Done p e below s _ _ _ (s₁.setTop (mkF m 69 #[.val (.int p1), .val (.long (((1 : Int64) * (100 : Int64)) * (100000000 : Int64))), .second] [(.long ((((1 : Int64) * (100 : Int64)) * (100000000 : Int64)) * (100000000 : Int64)))]))
            refine Done.step (fun t k => XS.lstoreN X0.here hx rfl (hb hby d6_69) rfl (l' := #[.val (.int p1), .val (.long ((((1 : Int64) * (100 : Int64)) * (100000000 : Int64)) * (100000000 : Int64))), .second]) rfl k) ?_
            show Done p e below s _ _ _ (s₁.setTop (mkF m 70 #[.val (.int p1), .val (.long ((((1 : Int64) * (100 : Int64)) * (100000000 : Int64)) * (100000000 : Int64))), .second] []))
            refine Done.step (fun t k => XS.lloadN X0.here hx rfl (hb hby d6_70) rfl k) ?_
            show Done p e below s _ _ _ (s₁.setTop (mkF m 71 #[.val (.int p1), .val (.long ((((1 : Int64) * (100 : Int64)) * (100000000 : Int64)) * (100000000 : Int64))), .second] [(.long ((((1 : Int64) * (100 : Int64)) * (100000000 : Int64)) * (100000000 : Int64)))]))
            exact Done.long X0 hx hlk hret (hb hby d6_71) (by decide) (by decide) ⟨by rw [show F6 p1 = ((((1 : Int64) * (100 : Int64)) * (100000000 : Int64)) * (100000000 : Int64)) from by unfold F6; rw [if_pos c1, if_neg c2, if_pos c10, if_pos c11, if_neg c12]] <;> rfl, N0, e0⟩
        · refine Done.step (fun t k => XS.ifNo X0.here hx rfl (hb hby d6_42) rfl ((if0 _ _).trans (feq c11).1) k) ?_
          show Done p e below s _ _ _ (s₁.setTop (mkF m 45 #[.val (.int p1), .val (.long ((1 : Int64) * (100 : Int64))), .second] []))
          refine Done.step (fun t k => XS.lloadN X0.here hx rfl (hb hby d6_45) rfl k) ?_
          show Done p e below s _ _ _ (s₁.setTop (mkF m 46 #[.val (.int p1), .val (.long ((1 : Int64) * (100 : Int64))), .second] [(.long ((1 : Int64) * (100 : Int64)))]))
          refine Done.step (X0.ldc2Long hx hown (mvT hZ (hw _ (List.mem_of_getElem? (i := 29) rfl))) (g := (mkF m 46 #[.val (.int p1), .val (.long ((1 : Int64) * (100 : Int64))), .second] [(.long ((1 : Int64) * (100 : Int64)))])) rfl (hb hby d6_46)) ?_
          show Done p e below s _ _ _ (s₁.setTop (mkF m 49 #[.val (.int p1), .val (.long ((1 : Int64) * (100 : Int64))), .second] [(.long (100000000 : Int64)), (.long ((1 : Int64) * (100 : Int64)))]))
          refine Done.step (fun t k => XS.lmul X0.here hx rfl (hb hby d6_49) rfl k) ?_
          show Done p e below s _ _ _ (s₁.setTop (mkF m 50 #[.val (.int p1), .val (.long ((1 : Int64) * (100 : Int64))), .second] [(.long (((1 : Int64) * (100 : Int64)) * (100000000 : Int64)))]))
          refine Done.step (fun t k => XS.lstoreN X0.here hx rfl (hb hby d6_50) rfl (l' := #[.val (.int p1), .val (.long (((1 : Int64) * (100 : Int64)) * (100000000 : Int64))), .second]) rfl k) ?_
          show Done p e below s _ _ _ (s₁.setTop (mkF m 51 #[.val (.int p1), .val (.long (((1 : Int64) * (100 : Int64)) * (100000000 : Int64))), .second] []))
          refine Done.step (fun t k => XS.iloadN X0.here hx rfl (hb hby d6_51) rfl k) ?_
          show Done p e below s _ _ _ (s₁.setTop (mkF m 52 #[.val (.int p1), .val (.long (((1 : Int64) * (100 : Int64)) * (100000000 : Int64))), .second] [(.int p1)]))
          refine Done.step (fun t k => XS.bipush X0.here hx rfl (hb hby d6_52) k) ?_
          show Done p e below s _ _ _ (s₁.setTop (mkF m 54 #[.val (.int p1), .val (.long (((1 : Int64) * (100 : Int64)) * (100000000 : Int64))), .second] [(.int (16 : Int32)), (.int p1)]))
          refine Done.step (fun t k => XS.iand X0.here hx rfl (hb hby d6_54) rfl k) ?_
          show Done p e below s _ _ _ (s₁.setTop (mkF m 55 #[.val (.int p1), .val (.long (((1 : Int64) * (100 : Int64)) * (100000000 : Int64))), .second] [(.int (p1 &&& (16 : Int32)))]))
          by_cases c13 : (p1 &&& (16 : Int32)) = (0 : Int32)
          · refine Done.step (fun t k => XS.ifYes X0.here hx rfl (pc0 := 55) (pc' := 70) rfl (hb hby d6_55) rfl ((if0 _ _).trans (teq c13).1) (by decide) (by decide) k) ?_
            show Done p e below s _ _ _ (s₁.setTop (mkF m 70 #[.val (.int p1), .val (.long (((1 : Int64) * (100 : Int64)) * (100000000 : Int64))), .second] []))
            refine Done.step (fun t k => XS.lloadN X0.here hx rfl (hb hby d6_70) rfl k) ?_
            show Done p e below s _ _ _ (s₁.setTop (mkF m 71 #[.val (.int p1), .val (.long (((1 : Int64) * (100 : Int64)) * (100000000 : Int64))), .second] [(.long (((1 : Int64) * (100 : Int64)) * (100000000 : Int64)))]))
            exact Done.long X0 hx hlk hret (hb hby d6_71) (by decide) (by decide) ⟨by rw [show F6 p1 = (((1 : Int64) * (100 : Int64)) * (100000000 : Int64)) from by unfold F6; rw [if_pos c1, if_neg c2, if_pos c10, if_neg c11, if_pos c13]] <;> rfl, N0, e0⟩
          · refine Done.step (fun t k => XS.ifNo X0.here hx rfl (hb hby d6_55) rfl ((if0 _ _).trans (feq c13).1) k) ?_
            show Done p e below s _ _ _ (s₁.setTop (mkF m 58 #[.val (.int p1), .val (.long (((1 : Int64) * (100 : Int64)) * (100000000 : Int64))), .second] []))
            refine Done.step (fun t k => XS.lloadN X0.here hx rfl (hb hby d6_58) rfl k) ?_
            show Done p e below s _ _ _ (s₁.setTop (mkF m 59 #[.val (.int p1), .val (.long (((1 : Int64) * (100 : Int64)) * (100000000 : Int64))), .second] [(.long (((1 : Int64) * (100 : Int64)) * (100000000 : Int64)))]))
            refine Done.step (X0.ldc2Long hx hown (mvT hZ (hw _ (List.mem_of_getElem? (i := 29) rfl))) (g := (mkF m 59 #[.val (.int p1), .val (.long (((1 : Int64) * (100 : Int64)) * (100000000 : Int64))), .second] [(.long (((1 : Int64) * (100 : Int64)) * (100000000 : Int64)))])) rfl (hb hby d6_59)) ?_
            show Done p e below s _ _ _ (s₁.setTop (mkF m 62 #[.val (.int p1), .val (.long (((1 : Int64) * (100 : Int64)) * (100000000 : Int64))), .second] [(.long (100000000 : Int64)), (.long (((1 : Int64) * (100 : Int64)) * (100000000 : Int64)))]))
            refine Done.step (fun t k => XS.lmul X0.here hx rfl (hb hby d6_62) rfl k) ?_
            show Done p e below s _ _ _ (s₁.setTop (mkF m 63 #[.val (.int p1), .val (.long (((1 : Int64) * (100 : Int64)) * (100000000 : Int64))), .second] [(.long ((((1 : Int64) * (100 : Int64)) * (100000000 : Int64)) * (100000000 : Int64)))]))
            refine Done.step (fun t k => XS.lstoreN X0.here hx rfl (hb hby d6_63) rfl (l' := #[.val (.int p1), .val (.long ((((1 : Int64) * (100 : Int64)) * (100000000 : Int64)) * (100000000 : Int64))), .second]) rfl k) ?_
            show Done p e below s _ _ _ (s₁.setTop (mkF m 64 #[.val (.int p1), .val (.long ((((1 : Int64) * (100 : Int64)) * (100000000 : Int64)) * (100000000 : Int64))), .second] []))
            refine Done.step (fun t k => XS.lloadN X0.here hx rfl (hb hby d6_64) rfl k) ?_
            show Done p e below s _ _ _ (s₁.setTop (mkF m 65 #[.val (.int p1), .val (.long ((((1 : Int64) * (100 : Int64)) * (100000000 : Int64)) * (100000000 : Int64))), .second] [(.long ((((1 : Int64) * (100 : Int64)) * (100000000 : Int64)) * (100000000 : Int64)))]))
            refine Done.step (X0.ldc2Long hx hown (mvT hZ (hw _ (List.mem_of_getElem? (i := 29) rfl))) (g := (mkF m 65 #[.val (.int p1), .val (.long ((((1 : Int64) * (100 : Int64)) * (100000000 : Int64)) * (100000000 : Int64))), .second] [(.long ((((1 : Int64) * (100 : Int64)) * (100000000 : Int64)) * (100000000 : Int64)))])) rfl (hb hby d6_65)) ?_
            show Done p e below s _ _ _ (s₁.setTop (mkF m 68 #[.val (.int p1), .val (.long ((((1 : Int64) * (100 : Int64)) * (100000000 : Int64)) * (100000000 : Int64))), .second] [(.long (100000000 : Int64)), (.long ((((1 : Int64) * (100 : Int64)) * (100000000 : Int64)) * (100000000 : Int64)))]))
            refine Done.step (fun t k => XS.lmul X0.here hx rfl (hb hby d6_68) rfl k) ?_
            show Done p e below s _ _ _ (s₁.setTop (mkF m 69 #[.val (.int p1), .val (.long ((((1 : Int64) * (100 : Int64)) * (100000000 : Int64)) * (100000000 : Int64))), .second] [(.long (((((1 : Int64) * (100 : Int64)) * (100000000 : Int64)) * (100000000 : Int64)) * (100000000 : Int64)))]))
            refine Done.step (fun t k => XS.lstoreN X0.here hx rfl (hb hby d6_69) rfl (l' := #[.val (.int p1), .val (.long (((((1 : Int64) * (100 : Int64)) * (100000000 : Int64)) * (100000000 : Int64)) * (100000000 : Int64))), .second]) rfl k) ?_
            show Done p e below s _ _ _ (s₁.setTop (mkF m 70 #[.val (.int p1), .val (.long (((((1 : Int64) * (100 : Int64)) * (100000000 : Int64)) * (100000000 : Int64)) * (100000000 : Int64))), .second] []))
            refine Done.step (fun t k => XS.lloadN X0.here hx rfl (hb hby d6_70) rfl k) ?_
            show Done p e below s _ _ _ (s₁.setTop (mkF m 71 #[.val (.int p1), .val (.long (((((1 : Int64) * (100 : Int64)) * (100000000 : Int64)) * (100000000 : Int64)) * (100000000 : Int64))), .second] [(.long (((((1 : Int64) * (100 : Int64)) * (100000000 : Int64)) * (100000000 : Int64)) * (100000000 : Int64)))]))
            exact Done.long X0 hx hlk hret (hb hby d6_71) (by decide) (by decide) ⟨by rw [show F6 p1 = (((((1 : Int64) * (100 : Int64)) * (100000000 : Int64)) * (100000000 : Int64)) * (100000000 : Int64)) from by unfold F6; rw [if_pos c1, if_neg c2, if_pos c10, if_neg c11, if_neg c13]] <;> rfl, N0, e0⟩
      · refine Done.step (fun t k => XS.ifNo X0.here hx rfl (hb hby d6_29) rfl ((if0 _ _).trans (feq c10).1) k) ?_
        show Done p e below s _ _ _ (s₁.setTop (mkF m 32 #[.val (.int p1), .val (.long ((1 : Int64) * (100 : Int64))), .second] []))
        refine Done.step (fun t k => XS.lloadN X0.here hx rfl (hb hby d6_32) rfl k) ?_
        show Done p e below s _ _ _ (s₁.setTop (mkF m 33 #[.val (.int p1), .val (.long ((1 : Int64) * (100 : Int64))), .second] [(.long ((1 : Int64) * (100 : Int64)))]))
        refine Done.step (X0.ldc2Long hx hown (mvT hZ (hw _ (List.mem_of_getElem? (i := 30) rfl))) (g := (mkF m 33 #[.val (.int p1), .val (.long ((1 : Int64) * (100 : Int64))), .second] [(.long ((1 : Int64) * (100 : Int64)))])) rfl (hb hby d6_33)) ?_
        show Done p e below s _ _ _ (s₁.setTop (mkF m 36 #[.val (.int p1), .val (.long ((1 : Int64) * (100 : Int64))), .second] [(.long (10000 : Int64)), (.long ((1 : Int64) * (100 : Int64)))]))
        refine Done.step (fun t k => XS.lmul X0.here hx rfl (hb hby d6_36) rfl k) ?_
        show Done p e below s _ _ _ (s₁.setTop (mkF m 37 #[.val (.int p1), .val (.long ((1 : Int64) * (100 : Int64))), .second] [(.long (((1 : Int64) * (100 : Int64)) * (10000 : Int64)))]))
        refine Done.step (fun t k => XS.lstoreN X0.here hx rfl (hb hby d6_37) rfl (l' := #[.val (.int p1), .val (.long (((1 : Int64) * (100 : Int64)) * (10000 : Int64))), .second]) rfl k) ?_
        show Done p e below s _ _ _ (s₁.setTop (mkF m 38 #[.val (.int p1), .val (.long (((1 : Int64) * (100 : Int64)) * (10000 : Int64))), .second] []))
        refine Done.step (fun t k => XS.iloadN X0.here hx rfl (hb hby d6_38) rfl k) ?_
        show Done p e below s _ _ _ (s₁.setTop (mkF m 39 #[.val (.int p1), .val (.long (((1 : Int64) * (100 : Int64)) * (10000 : Int64))), .second] [(.int p1)]))
        refine Done.step (fun t k => XS.bipush X0.here hx rfl (hb hby d6_39) k) ?_
        show Done p e below s _ _ _ (s₁.setTop (mkF m 41 #[.val (.int p1), .val (.long (((1 : Int64) * (100 : Int64)) * (10000 : Int64))), .second] [(.int (8 : Int32)), (.int p1)]))
        refine Done.step (fun t k => XS.iand X0.here hx rfl (hb hby d6_41) rfl k) ?_
        show Done p e below s _ _ _ (s₁.setTop (mkF m 42 #[.val (.int p1), .val (.long (((1 : Int64) * (100 : Int64)) * (10000 : Int64))), .second] [(.int (p1 &&& (8 : Int32)))]))
        by_cases c14 : (p1 &&& (8 : Int32)) = (0 : Int32)
        · refine Done.step (fun t k => XS.ifYes X0.here hx rfl (pc0 := 42) (pc' := 51) rfl (hb hby d6_42) rfl ((if0 _ _).trans (teq c14).1) (by decide) (by decide) k) ?_
          show Done p e below s _ _ _ (s₁.setTop (mkF m 51 #[.val (.int p1), .val (.long (((1 : Int64) * (100 : Int64)) * (10000 : Int64))), .second] []))
          refine Done.step (fun t k => XS.iloadN X0.here hx rfl (hb hby d6_51) rfl k) ?_
          show Done p e below s _ _ _ (s₁.setTop (mkF m 52 #[.val (.int p1), .val (.long (((1 : Int64) * (100 : Int64)) * (10000 : Int64))), .second] [(.int p1)]))
          refine Done.step (fun t k => XS.bipush X0.here hx rfl (hb hby d6_52) k) ?_
          show Done p e below s _ _ _ (s₁.setTop (mkF m 54 #[.val (.int p1), .val (.long (((1 : Int64) * (100 : Int64)) * (10000 : Int64))), .second] [(.int (16 : Int32)), (.int p1)]))
          refine Done.step (fun t k => XS.iand X0.here hx rfl (hb hby d6_54) rfl k) ?_
          show Done p e below s _ _ _ (s₁.setTop (mkF m 55 #[.val (.int p1), .val (.long (((1 : Int64) * (100 : Int64)) * (10000 : Int64))), .second] [(.int (p1 &&& (16 : Int32)))]))
          by_cases c15 : (p1 &&& (16 : Int32)) = (0 : Int32)
          · refine Done.step (fun t k => XS.ifYes X0.here hx rfl (pc0 := 55) (pc' := 70) rfl (hb hby d6_55) rfl ((if0 _ _).trans (teq c15).1) (by decide) (by decide) k) ?_
            show Done p e below s _ _ _ (s₁.setTop (mkF m 70 #[.val (.int p1), .val (.long (((1 : Int64) * (100 : Int64)) * (10000 : Int64))), .second] []))
            refine Done.step (fun t k => XS.lloadN X0.here hx rfl (hb hby d6_70) rfl k) ?_
            show Done p e below s _ _ _ (s₁.setTop (mkF m 71 #[.val (.int p1), .val (.long (((1 : Int64) * (100 : Int64)) * (10000 : Int64))), .second] [(.long (((1 : Int64) * (100 : Int64)) * (10000 : Int64)))]))
            exact Done.long X0 hx hlk hret (hb hby d6_71) (by decide) (by decide) ⟨by rw [show F6 p1 = (((1 : Int64) * (100 : Int64)) * (10000 : Int64)) from by unfold F6; rw [if_pos c1, if_neg c2, if_neg c10, if_pos c14, if_pos c15]] <;> rfl, N0, e0⟩
          · refine Done.step (fun t k => XS.ifNo X0.here hx rfl (hb hby d6_55) rfl ((if0 _ _).trans (feq c15).1) k) ?_
            show Done p e below s _ _ _ (s₁.setTop (mkF m 58 #[.val (.int p1), .val (.long (((1 : Int64) * (100 : Int64)) * (10000 : Int64))), .second] []))
            refine Done.step (fun t k => XS.lloadN X0.here hx rfl (hb hby d6_58) rfl k) ?_
            show Done p e below s _ _ _ (s₁.setTop (mkF m 59 #[.val (.int p1), .val (.long (((1 : Int64) * (100 : Int64)) * (10000 : Int64))), .second] [(.long (((1 : Int64) * (100 : Int64)) * (10000 : Int64)))]))
            refine Done.step (X0.ldc2Long hx hown (mvT hZ (hw _ (List.mem_of_getElem? (i := 29) rfl))) (g := (mkF m 59 #[.val (.int p1), .val (.long (((1 : Int64) * (100 : Int64)) * (10000 : Int64))), .second] [(.long (((1 : Int64) * (100 : Int64)) * (10000 : Int64)))])) rfl (hb hby d6_59)) ?_
            show Done p e below s _ _ _ (s₁.setTop (mkF m 62 #[.val (.int p1), .val (.long (((1 : Int64) * (100 : Int64)) * (10000 : Int64))), .second] [(.long (100000000 : Int64)), (.long (((1 : Int64) * (100 : Int64)) * (10000 : Int64)))]))
            refine Done.step (fun t k => XS.lmul X0.here hx rfl (hb hby d6_62) rfl k) ?_
            show Done p e below s _ _ _ (s₁.setTop (mkF m 63 #[.val (.int p1), .val (.long (((1 : Int64) * (100 : Int64)) * (10000 : Int64))), .second] [(.long ((((1 : Int64) * (100 : Int64)) * (10000 : Int64)) * (100000000 : Int64)))]))
            refine Done.step (fun t k => XS.lstoreN X0.here hx rfl (hb hby d6_63) rfl (l' := #[.val (.int p1), .val (.long ((((1 : Int64) * (100 : Int64)) * (10000 : Int64)) * (100000000 : Int64))), .second]) rfl k) ?_
            show Done p e below s _ _ _ (s₁.setTop (mkF m 64 #[.val (.int p1), .val (.long ((((1 : Int64) * (100 : Int64)) * (10000 : Int64)) * (100000000 : Int64))), .second] []))
            refine Done.step (fun t k => XS.lloadN X0.here hx rfl (hb hby d6_64) rfl k) ?_
            show Done p e below s _ _ _ (s₁.setTop (mkF m 65 #[.val (.int p1), .val (.long ((((1 : Int64) * (100 : Int64)) * (10000 : Int64)) * (100000000 : Int64))), .second] [(.long ((((1 : Int64) * (100 : Int64)) * (10000 : Int64)) * (100000000 : Int64)))]))
            refine Done.step (X0.ldc2Long hx hown (mvT hZ (hw _ (List.mem_of_getElem? (i := 29) rfl))) (g := (mkF m 65 #[.val (.int p1), .val (.long ((((1 : Int64) * (100 : Int64)) * (10000 : Int64)) * (100000000 : Int64))), .second] [(.long ((((1 : Int64) * (100 : Int64)) * (10000 : Int64)) * (100000000 : Int64)))])) rfl (hb hby d6_65)) ?_
            show Done p e below s _ _ _ (s₁.setTop (mkF m 68 #[.val (.int p1), .val (.long ((((1 : Int64) * (100 : Int64)) * (10000 : Int64)) * (100000000 : Int64))), .second] [(.long (100000000 : Int64)), (.long ((((1 : Int64) * (100 : Int64)) * (10000 : Int64)) * (100000000 : Int64)))]))
            refine Done.step (fun t k => XS.lmul X0.here hx rfl (hb hby d6_68) rfl k) ?_
            show Done p e below s _ _ _ (s₁.setTop (mkF m 69 #[.val (.int p1), .val (.long ((((1 : Int64) * (100 : Int64)) * (10000 : Int64)) * (100000000 : Int64))), .second] [(.long (((((1 : Int64) * (100 : Int64)) * (10000 : Int64)) * (100000000 : Int64)) * (100000000 : Int64)))]))
            refine Done.step (fun t k => XS.lstoreN X0.here hx rfl (hb hby d6_69) rfl (l' := #[.val (.int p1), .val (.long (((((1 : Int64) * (100 : Int64)) * (10000 : Int64)) * (100000000 : Int64)) * (100000000 : Int64))), .second]) rfl k) ?_
            show Done p e below s _ _ _ (s₁.setTop (mkF m 70 #[.val (.int p1), .val (.long (((((1 : Int64) * (100 : Int64)) * (10000 : Int64)) * (100000000 : Int64)) * (100000000 : Int64))), .second] []))
            refine Done.step (fun t k => XS.lloadN X0.here hx rfl (hb hby d6_70) rfl k) ?_
            show Done p e below s _ _ _ (s₁.setTop (mkF m 71 #[.val (.int p1), .val (.long (((((1 : Int64) * (100 : Int64)) * (10000 : Int64)) * (100000000 : Int64)) * (100000000 : Int64))), .second] [(.long (((((1 : Int64) * (100 : Int64)) * (10000 : Int64)) * (100000000 : Int64)) * (100000000 : Int64)))]))
            exact Done.long X0 hx hlk hret (hb hby d6_71) (by decide) (by decide) ⟨by rw [show F6 p1 = (((((1 : Int64) * (100 : Int64)) * (10000 : Int64)) * (100000000 : Int64)) * (100000000 : Int64)) from by unfold F6; rw [if_pos c1, if_neg c2, if_neg c10, if_pos c14, if_neg c15]] <;> rfl, N0, e0⟩
        · refine Done.step (fun t k => XS.ifNo X0.here hx rfl (hb hby d6_42) rfl ((if0 _ _).trans (feq c14).1) k) ?_
          show Done p e below s _ _ _ (s₁.setTop (mkF m 45 #[.val (.int p1), .val (.long (((1 : Int64) * (100 : Int64)) * (10000 : Int64))), .second] []))
          refine Done.step (fun t k => XS.lloadN X0.here hx rfl (hb hby d6_45) rfl k) ?_
          show Done p e below s _ _ _ (s₁.setTop (mkF m 46 #[.val (.int p1), .val (.long (((1 : Int64) * (100 : Int64)) * (10000 : Int64))), .second] [(.long (((1 : Int64) * (100 : Int64)) * (10000 : Int64)))]))
          refine Done.step (X0.ldc2Long hx hown (mvT hZ (hw _ (List.mem_of_getElem? (i := 29) rfl))) (g := (mkF m 46 #[.val (.int p1), .val (.long (((1 : Int64) * (100 : Int64)) * (10000 : Int64))), .second] [(.long (((1 : Int64) * (100 : Int64)) * (10000 : Int64)))])) rfl (hb hby d6_46)) ?_
          show Done p e below s _ _ _ (s₁.setTop (mkF m 49 #[.val (.int p1), .val (.long (((1 : Int64) * (100 : Int64)) * (10000 : Int64))), .second] [(.long (100000000 : Int64)), (.long (((1 : Int64) * (100 : Int64)) * (10000 : Int64)))]))
          refine Done.step (fun t k => XS.lmul X0.here hx rfl (hb hby d6_49) rfl k) ?_
          show Done p e below s _ _ _ (s₁.setTop (mkF m 50 #[.val (.int p1), .val (.long (((1 : Int64) * (100 : Int64)) * (10000 : Int64))), .second] [(.long ((((1 : Int64) * (100 : Int64)) * (10000 : Int64)) * (100000000 : Int64)))]))
          refine Done.step (fun t k => XS.lstoreN X0.here hx rfl (hb hby d6_50) rfl (l' := #[.val (.int p1), .val (.long ((((1 : Int64) * (100 : Int64)) * (10000 : Int64)) * (100000000 : Int64))), .second]) rfl k) ?_
          show Done p e below s _ _ _ (s₁.setTop (mkF m 51 #[.val (.int p1), .val (.long ((((1 : Int64) * (100 : Int64)) * (10000 : Int64)) * (100000000 : Int64))), .second] []))
          refine Done.step (fun t k => XS.iloadN X0.here hx rfl (hb hby d6_51) rfl k) ?_
          show Done p e below s _ _ _ (s₁.setTop (mkF m 52 #[.val (.int p1), .val (.long ((((1 : Int64) * (100 : Int64)) * (10000 : Int64)) * (100000000 : Int64))), .second] [(.int p1)]))
          refine Done.step (fun t k => XS.bipush X0.here hx rfl (hb hby d6_52) k) ?_
          show Done p e below s _ _ _ (s₁.setTop (mkF m 54 #[.val (.int p1), .val (.long ((((1 : Int64) * (100 : Int64)) * (10000 : Int64)) * (100000000 : Int64))), .second] [(.int (16 : Int32)), (.int p1)]))
          refine Done.step (fun t k => XS.iand X0.here hx rfl (hb hby d6_54) rfl k) ?_
          show Done p e below s _ _ _ (s₁.setTop (mkF m 55 #[.val (.int p1), .val (.long ((((1 : Int64) * (100 : Int64)) * (10000 : Int64)) * (100000000 : Int64))), .second] [(.int (p1 &&& (16 : Int32)))]))
          by_cases c16 : (p1 &&& (16 : Int32)) = (0 : Int32)
          · refine Done.step (fun t k => XS.ifYes X0.here hx rfl (pc0 := 55) (pc' := 70) rfl (hb hby d6_55) rfl ((if0 _ _).trans (teq c16).1) (by decide) (by decide) k) ?_
            show Done p e below s _ _ _ (s₁.setTop (mkF m 70 #[.val (.int p1), .val (.long ((((1 : Int64) * (100 : Int64)) * (10000 : Int64)) * (100000000 : Int64))), .second] []))
            refine Done.step (fun t k => XS.lloadN X0.here hx rfl (hb hby d6_70) rfl k) ?_
            show Done p e below s _ _ _ (s₁.setTop (mkF m 71 #[.val (.int p1), .val (.long ((((1 : Int64) * (100 : Int64)) * (10000 : Int64)) * (100000000 : Int64))), .second] [(.long ((((1 : Int64) * (100 : Int64)) * (10000 : Int64)) * (100000000 : Int64)))]))
            exact Done.long X0 hx hlk hret (hb hby d6_71) (by decide) (by decide) ⟨by rw [show F6 p1 = ((((1 : Int64) * (100 : Int64)) * (10000 : Int64)) * (100000000 : Int64)) from by unfold F6; rw [if_pos c1, if_neg c2, if_neg c10, if_neg c14, if_pos c16]] <;> rfl, N0, e0⟩
          · refine Done.step (fun t k => XS.ifNo X0.here hx rfl (hb hby d6_55) rfl ((if0 _ _).trans (feq c16).1) k) ?_
            show Done p e below s _ _ _ (s₁.setTop (mkF m 58 #[.val (.int p1), .val (.long ((((1 : Int64) * (100 : Int64)) * (10000 : Int64)) * (100000000 : Int64))), .second] []))
            refine Done.step (fun t k => XS.lloadN X0.here hx rfl (hb hby d6_58) rfl k) ?_
            show Done p e below s _ _ _ (s₁.setTop (mkF m 59 #[.val (.int p1), .val (.long ((((1 : Int64) * (100 : Int64)) * (10000 : Int64)) * (100000000 : Int64))), .second] [(.long ((((1 : Int64) * (100 : Int64)) * (10000 : Int64)) * (100000000 : Int64)))]))
            refine Done.step (X0.ldc2Long hx hown (mvT hZ (hw _ (List.mem_of_getElem? (i := 29) rfl))) (g := (mkF m 59 #[.val (.int p1), .val (.long ((((1 : Int64) * (100 : Int64)) * (10000 : Int64)) * (100000000 : Int64))), .second] [(.long ((((1 : Int64) * (100 : Int64)) * (10000 : Int64)) * (100000000 : Int64)))])) rfl (hb hby d6_59)) ?_
            show Done p e below s _ _ _ (s₁.setTop (mkF m 62 #[.val (.int p1), .val (.long ((((1 : Int64) * (100 : Int64)) * (10000 : Int64)) * (100000000 : Int64))), .second] [(.long (100000000 : Int64)), (.long ((((1 : Int64) * (100 : Int64)) * (10000 : Int64)) * (100000000 : Int64)))]))
            refine Done.step (fun t k => XS.lmul X0.here hx rfl (hb hby d6_62) rfl k) ?_
            show Done p e below s _ _ _ (s₁.setTop (mkF m 63 #[.val (.int p1), .val (.long ((((1 : Int64) * (100 : Int64)) * (10000 : Int64)) * (100000000 : Int64))), .second] [(.long (((((1 : Int64) * (100 : Int64)) * (10000 : Int64)) * (100000000 : Int64)) * (100000000 : Int64)))]))
            refine Done.step (fun t k => XS.lstoreN X0.here hx rfl (hb hby d6_63) rfl (l' := #[.val (.int p1), .val (.long (((((1 : Int64) * (100 : Int64)) * (10000 : Int64)) * (100000000 : Int64)) * (100000000 : Int64))), .second]) rfl k) ?_
            show Done p e below s _ _ _ (s₁.setTop (mkF m 64 #[.val (.int p1), .val (.long (((((1 : Int64) * (100 : Int64)) * (10000 : Int64)) * (100000000 : Int64)) * (100000000 : Int64))), .second] []))
            refine Done.step (fun t k => XS.lloadN X0.here hx rfl (hb hby d6_64) rfl k) ?_
            show Done p e below s _ _ _ (s₁.setTop (mkF m 65 #[.val (.int p1), .val (.long (((((1 : Int64) * (100 : Int64)) * (10000 : Int64)) * (100000000 : Int64)) * (100000000 : Int64))), .second] [(.long (((((1 : Int64) * (100 : Int64)) * (10000 : Int64)) * (100000000 : Int64)) * (100000000 : Int64)))]))
            refine Done.step (X0.ldc2Long hx hown (mvT hZ (hw _ (List.mem_of_getElem? (i := 29) rfl))) (g := (mkF m 65 #[.val (.int p1), .val (.long (((((1 : Int64) * (100 : Int64)) * (10000 : Int64)) * (100000000 : Int64)) * (100000000 : Int64))), .second] [(.long (((((1 : Int64) * (100 : Int64)) * (10000 : Int64)) * (100000000 : Int64)) * (100000000 : Int64)))])) rfl (hb hby d6_65)) ?_
            show Done p e below s _ _ _ (s₁.setTop (mkF m 68 #[.val (.int p1), .val (.long (((((1 : Int64) * (100 : Int64)) * (10000 : Int64)) * (100000000 : Int64)) * (100000000 : Int64))), .second] [(.long (100000000 : Int64)), (.long (((((1 : Int64) * (100 : Int64)) * (10000 : Int64)) * (100000000 : Int64)) * (100000000 : Int64)))]))
            refine Done.step (fun t k => XS.lmul X0.here hx rfl (hb hby d6_68) rfl k) ?_
            show Done p e below s _ _ _ (s₁.setTop (mkF m 69 #[.val (.int p1), .val (.long (((((1 : Int64) * (100 : Int64)) * (10000 : Int64)) * (100000000 : Int64)) * (100000000 : Int64))), .second] [(.long ((((((1 : Int64) * (100 : Int64)) * (10000 : Int64)) * (100000000 : Int64)) * (100000000 : Int64)) * (100000000 : Int64)))]))
            refine Done.step (fun t k => XS.lstoreN X0.here hx rfl (hb hby d6_69) rfl (l' := #[.val (.int p1), .val (.long ((((((1 : Int64) * (100 : Int64)) * (10000 : Int64)) * (100000000 : Int64)) * (100000000 : Int64)) * (100000000 : Int64))), .second]) rfl k) ?_
            show Done p e below s _ _ _ (s₁.setTop (mkF m 70 #[.val (.int p1), .val (.long ((((((1 : Int64) * (100 : Int64)) * (10000 : Int64)) * (100000000 : Int64)) * (100000000 : Int64)) * (100000000 : Int64))), .second] []))
            refine Done.step (fun t k => XS.lloadN X0.here hx rfl (hb hby d6_70) rfl k) ?_
            show Done p e below s _ _ _ (s₁.setTop (mkF m 71 #[.val (.int p1), .val (.long ((((((1 : Int64) * (100 : Int64)) * (10000 : Int64)) * (100000000 : Int64)) * (100000000 : Int64)) * (100000000 : Int64))), .second] [(.long ((((((1 : Int64) * (100 : Int64)) * (10000 : Int64)) * (100000000 : Int64)) * (100000000 : Int64)) * (100000000 : Int64)))]))
            exact Done.long X0 hx hlk hret (hb hby d6_71) (by decide) (by decide) ⟨by rw [show F6 p1 = ((((((1 : Int64) * (100 : Int64)) * (10000 : Int64)) * (100000000 : Int64)) * (100000000 : Int64)) * (100000000 : Int64)) from by unfold F6; rw [if_pos c1, if_neg c2, if_neg c10, if_neg c14, if_neg c16]] <;> rfl, N0, e0⟩
  · refine Done.step (fun t k => XS.ifNo X0.here hx rfl (hb hby d6_5) rfl ((if0 _ _).trans (feq c1).1) k) ?_
    show Done p e below s _ _ _ (s₁.setTop (mkF m 8 #[.val (.int p1), .val (.long (1 : Int64)), .second] []))
    refine Done.step (fun t k => XS.lloadN X0.here hx rfl (hb hby d6_8) rfl k) ?_
    show Done p e below s _ _ _ (s₁.setTop (mkF m 9 #[.val (.int p1), .val (.long (1 : Int64)), .second] [(.long (1 : Int64))]))
    refine Done.step (X0.ldc2Long hx hown (mvT hZ (hw _ (List.mem_of_getElem? (i := 23) rfl))) (g := (mkF m 9 #[.val (.int p1), .val (.long (1 : Int64)), .second] [(.long (1 : Int64))])) rfl (hb hby d6_9)) ?_
    show Done p e below s _ _ _ (s₁.setTop (mkF m 12 #[.val (.int p1), .val (.long (1 : Int64)), .second] [(.long (10 : Int64)), (.long (1 : Int64))]))
    refine Done.step (fun t k => XS.lmul X0.here hx rfl (hb hby d6_12) rfl k) ?_
    show Done p e below s _ _ _ (s₁.setTop (mkF m 13 #[.val (.int p1), .val (.long (1 : Int64)), .second] [(.long ((1 : Int64) * (10 : Int64)))]))
    refine Done.step (fun t k => XS.lstoreN X0.here hx rfl (hb hby d6_13) rfl (l' := #[.val (.int p1), .val (.long ((1 : Int64) * (10 : Int64))), .second]) rfl k) ?_
    show Done p e below s _ _ _ (s₁.setTop (mkF m 14 #[.val (.int p1), .val (.long ((1 : Int64) * (10 : Int64))), .second] []))
    refine Done.step (fun t k => XS.iloadN X0.here hx rfl (hb hby d6_14) rfl k) ?_
    show Done p e below s _ _ _ (s₁.setTop (mkF m 15 #[.val (.int p1), .val (.long ((1 : Int64) * (10 : Int64))), .second] [(.int p1)]))
    refine Done.step (fun t k => XS.iconst X0.here hx rfl (hb hby d6_15) k) ?_
    show Done p e below s _ _ _ (s₁.setTop (mkF m 16 #[.val (.int p1), .val (.long ((1 : Int64) * (10 : Int64))), .second] [(.int (2 : Int32)), (.int p1)]))
    refine Done.step (fun t k => XS.iand X0.here hx rfl (hb hby d6_16) rfl k) ?_
    show Done p e below s _ _ _ (s₁.setTop (mkF m 17 #[.val (.int p1), .val (.long ((1 : Int64) * (10 : Int64))), .second] [(.int (p1 &&& (2 : Int32)))]))
    by_cases c17 : (p1 &&& (2 : Int32)) = (0 : Int32)
    · refine Done.step (fun t k => XS.ifYes X0.here hx rfl (pc0 := 17) (pc' := 26) rfl (hb hby d6_17) rfl ((if0 _ _).trans (teq c17).1) (by decide) (by decide) k) ?_
      show Done p e below s _ _ _ (s₁.setTop (mkF m 26 #[.val (.int p1), .val (.long ((1 : Int64) * (10 : Int64))), .second] []))
      refine Done.step (fun t k => XS.iloadN X0.here hx rfl (hb hby d6_26) rfl k) ?_
      show Done p e below s _ _ _ (s₁.setTop (mkF m 27 #[.val (.int p1), .val (.long ((1 : Int64) * (10 : Int64))), .second] [(.int p1)]))
      refine Done.step (fun t k => XS.iconst X0.here hx rfl (hb hby d6_27) k) ?_
      show Done p e below s _ _ _ (s₁.setTop (mkF m 28 #[.val (.int p1), .val (.long ((1 : Int64) * (10 : Int64))), .second] [(.int (4 : Int32)), (.int p1)]))
      refine Done.step (fun t k => XS.iand X0.here hx rfl (hb hby d6_28) rfl k) ?_
      show Done p e below s _ _ _ (s₁.setTop (mkF m 29 #[.val (.int p1), .val (.long ((1 : Int64) * (10 : Int64))), .second] [(.int (p1 &&& (4 : Int32)))]))
      by_cases c18 : (p1 &&& (4 : Int32)) = (0 : Int32)
      · refine Done.step (fun t k => XS.ifYes X0.here hx rfl (pc0 := 29) (pc' := 38) rfl (hb hby d6_29) rfl ((if0 _ _).trans (teq c18).1) (by decide) (by decide) k) ?_
        show Done p e below s _ _ _ (s₁.setTop (mkF m 38 #[.val (.int p1), .val (.long ((1 : Int64) * (10 : Int64))), .second] []))
        refine Done.step (fun t k => XS.iloadN X0.here hx rfl (hb hby d6_38) rfl k) ?_
        show Done p e below s _ _ _ (s₁.setTop (mkF m 39 #[.val (.int p1), .val (.long ((1 : Int64) * (10 : Int64))), .second] [(.int p1)]))
        refine Done.step (fun t k => XS.bipush X0.here hx rfl (hb hby d6_39) k) ?_
        show Done p e below s _ _ _ (s₁.setTop (mkF m 41 #[.val (.int p1), .val (.long ((1 : Int64) * (10 : Int64))), .second] [(.int (8 : Int32)), (.int p1)]))
        refine Done.step (fun t k => XS.iand X0.here hx rfl (hb hby d6_41) rfl k) ?_
        show Done p e below s _ _ _ (s₁.setTop (mkF m 42 #[.val (.int p1), .val (.long ((1 : Int64) * (10 : Int64))), .second] [(.int (p1 &&& (8 : Int32)))]))
        by_cases c19 : (p1 &&& (8 : Int32)) = (0 : Int32)
        · refine Done.step (fun t k => XS.ifYes X0.here hx rfl (pc0 := 42) (pc' := 51) rfl (hb hby d6_42) rfl ((if0 _ _).trans (teq c19).1) (by decide) (by decide) k) ?_
          show Done p e below s _ _ _ (s₁.setTop (mkF m 51 #[.val (.int p1), .val (.long ((1 : Int64) * (10 : Int64))), .second] []))
          refine Done.step (fun t k => XS.iloadN X0.here hx rfl (hb hby d6_51) rfl k) ?_
          show Done p e below s _ _ _ (s₁.setTop (mkF m 52 #[.val (.int p1), .val (.long ((1 : Int64) * (10 : Int64))), .second] [(.int p1)]))
          refine Done.step (fun t k => XS.bipush X0.here hx rfl (hb hby d6_52) k) ?_
          show Done p e below s _ _ _ (s₁.setTop (mkF m 54 #[.val (.int p1), .val (.long ((1 : Int64) * (10 : Int64))), .second] [(.int (16 : Int32)), (.int p1)]))
          refine Done.step (fun t k => XS.iand X0.here hx rfl (hb hby d6_54) rfl k) ?_
          show Done p e below s _ _ _ (s₁.setTop (mkF m 55 #[.val (.int p1), .val (.long ((1 : Int64) * (10 : Int64))), .second] [(.int (p1 &&& (16 : Int32)))]))
          by_cases c20 : (p1 &&& (16 : Int32)) = (0 : Int32)
          · refine Done.step (fun t k => XS.ifYes X0.here hx rfl (pc0 := 55) (pc' := 70) rfl (hb hby d6_55) rfl ((if0 _ _).trans (teq c20).1) (by decide) (by decide) k) ?_
            show Done p e below s _ _ _ (s₁.setTop (mkF m 70 #[.val (.int p1), .val (.long ((1 : Int64) * (10 : Int64))), .second] []))
            refine Done.step (fun t k => XS.lloadN X0.here hx rfl (hb hby d6_70) rfl k) ?_
            show Done p e below s _ _ _ (s₁.setTop (mkF m 71 #[.val (.int p1), .val (.long ((1 : Int64) * (10 : Int64))), .second] [(.long ((1 : Int64) * (10 : Int64)))]))
            exact Done.long X0 hx hlk hret (hb hby d6_71) (by decide) (by decide) ⟨by rw [show F6 p1 = ((1 : Int64) * (10 : Int64)) from by unfold F6; rw [if_neg c1, if_pos c17, if_pos c18, if_pos c19, if_pos c20]] <;> rfl, N0, e0⟩
          · refine Done.step (fun t k => XS.ifNo X0.here hx rfl (hb hby d6_55) rfl ((if0 _ _).trans (feq c20).1) k) ?_
            show Done p e below s _ _ _ (s₁.setTop (mkF m 58 #[.val (.int p1), .val (.long ((1 : Int64) * (10 : Int64))), .second] []))
            refine Done.step (fun t k => XS.lloadN X0.here hx rfl (hb hby d6_58) rfl k) ?_
            show Done p e below s _ _ _ (s₁.setTop (mkF m 59 #[.val (.int p1), .val (.long ((1 : Int64) * (10 : Int64))), .second] [(.long ((1 : Int64) * (10 : Int64)))]))
            refine Done.step (X0.ldc2Long hx hown (mvT hZ (hw _ (List.mem_of_getElem? (i := 29) rfl))) (g := (mkF m 59 #[.val (.int p1), .val (.long ((1 : Int64) * (10 : Int64))), .second] [(.long ((1 : Int64) * (10 : Int64)))])) rfl (hb hby d6_59)) ?_
            show Done p e below s _ _ _ (s₁.setTop (mkF m 62 #[.val (.int p1), .val (.long ((1 : Int64) * (10 : Int64))), .second] [(.long (100000000 : Int64)), (.long ((1 : Int64) * (10 : Int64)))]))
            refine Done.step (fun t k => XS.lmul X0.here hx rfl (hb hby d6_62) rfl k) ?_
            show Done p e below s _ _ _ (s₁.setTop (mkF m 63 #[.val (.int p1), .val (.long ((1 : Int64) * (10 : Int64))), .second] [(.long (((1 : Int64) * (10 : Int64)) * (100000000 : Int64)))]))
            refine Done.step (fun t k => XS.lstoreN X0.here hx rfl (hb hby d6_63) rfl (l' := #[.val (.int p1), .val (.long (((1 : Int64) * (10 : Int64)) * (100000000 : Int64))), .second]) rfl k) ?_
            show Done p e below s _ _ _ (s₁.setTop (mkF m 64 #[.val (.int p1), .val (.long (((1 : Int64) * (10 : Int64)) * (100000000 : Int64))), .second] []))
            refine Done.step (fun t k => XS.lloadN X0.here hx rfl (hb hby d6_64) rfl k) ?_
            show Done p e below s _ _ _ (s₁.setTop (mkF m 65 #[.val (.int p1), .val (.long (((1 : Int64) * (10 : Int64)) * (100000000 : Int64))), .second] [(.long (((1 : Int64) * (10 : Int64)) * (100000000 : Int64)))]))
            refine Done.step (X0.ldc2Long hx hown (mvT hZ (hw _ (List.mem_of_getElem? (i := 29) rfl))) (g := (mkF m 65 #[.val (.int p1), .val (.long (((1 : Int64) * (10 : Int64)) * (100000000 : Int64))), .second] [(.long (((1 : Int64) * (10 : Int64)) * (100000000 : Int64)))])) rfl (hb hby d6_65)) ?_
            show Done p e below s _ _ _ (s₁.setTop (mkF m 68 #[.val (.int p1), .val (.long (((1 : Int64) * (10 : Int64)) * (100000000 : Int64))), .second] [(.long (100000000 : Int64)), (.long (((1 : Int64) * (10 : Int64)) * (100000000 : Int64)))]))
            refine Done.step (fun t k => XS.lmul X0.here hx rfl (hb hby d6_68) rfl k) ?_
            show Done p e below s _ _ _ (s₁.setTop (mkF m 69 #[.val (.int p1), .val (.long (((1 : Int64) * (10 : Int64)) * (100000000 : Int64))), .second] [(.long ((((1 : Int64) * (10 : Int64)) * (100000000 : Int64)) * (100000000 : Int64)))]))
            refine Done.step (fun t k => XS.lstoreN X0.here hx rfl (hb hby d6_69) rfl (l' := #[.val (.int p1), .val (.long ((((1 : Int64) * (10 : Int64)) * (100000000 : Int64)) * (100000000 : Int64))), .second]) rfl k) ?_
            show Done p e below s _ _ _ (s₁.setTop (mkF m 70 #[.val (.int p1), .val (.long ((((1 : Int64) * (10 : Int64)) * (100000000 : Int64)) * (100000000 : Int64))), .second] []))
            refine Done.step (fun t k => XS.lloadN X0.here hx rfl (hb hby d6_70) rfl k) ?_
            show Done p e below s _ _ _ (s₁.setTop (mkF m 71 #[.val (.int p1), .val (.long ((((1 : Int64) * (10 : Int64)) * (100000000 : Int64)) * (100000000 : Int64))), .second] [(.long ((((1 : Int64) * (10 : Int64)) * (100000000 : Int64)) * (100000000 : Int64)))]))
            exact Done.long X0 hx hlk hret (hb hby d6_71) (by decide) (by decide) ⟨by rw [show F6 p1 = ((((1 : Int64) * (10 : Int64)) * (100000000 : Int64)) * (100000000 : Int64)) from by unfold F6; rw [if_neg c1, if_pos c17, if_pos c18, if_pos c19, if_neg c20]] <;> rfl, N0, e0⟩
        · refine Done.step (fun t k => XS.ifNo X0.here hx rfl (hb hby d6_42) rfl ((if0 _ _).trans (feq c19).1) k) ?_
          show Done p e below s _ _ _ (s₁.setTop (mkF m 45 #[.val (.int p1), .val (.long ((1 : Int64) * (10 : Int64))), .second] []))
          refine Done.step (fun t k => XS.lloadN X0.here hx rfl (hb hby d6_45) rfl k) ?_
          show Done p e below s _ _ _ (s₁.setTop (mkF m 46 #[.val (.int p1), .val (.long ((1 : Int64) * (10 : Int64))), .second] [(.long ((1 : Int64) * (10 : Int64)))]))
          refine Done.step (X0.ldc2Long hx hown (mvT hZ (hw _ (List.mem_of_getElem? (i := 29) rfl))) (g := (mkF m 46 #[.val (.int p1), .val (.long ((1 : Int64) * (10 : Int64))), .second] [(.long ((1 : Int64) * (10 : Int64)))])) rfl (hb hby d6_46)) ?_
          show Done p e below s _ _ _ (s₁.setTop (mkF m 49 #[.val (.int p1), .val (.long ((1 : Int64) * (10 : Int64))), .second] [(.long (100000000 : Int64)), (.long ((1 : Int64) * (10 : Int64)))]))
          refine Done.step (fun t k => XS.lmul X0.here hx rfl (hb hby d6_49) rfl k) ?_
          show Done p e below s _ _ _ (s₁.setTop (mkF m 50 #[.val (.int p1), .val (.long ((1 : Int64) * (10 : Int64))), .second] [(.long (((1 : Int64) * (10 : Int64)) * (100000000 : Int64)))]))
          refine Done.step (fun t k => XS.lstoreN X0.here hx rfl (hb hby d6_50) rfl (l' := #[.val (.int p1), .val (.long (((1 : Int64) * (10 : Int64)) * (100000000 : Int64))), .second]) rfl k) ?_
          show Done p e below s _ _ _ (s₁.setTop (mkF m 51 #[.val (.int p1), .val (.long (((1 : Int64) * (10 : Int64)) * (100000000 : Int64))), .second] []))
          refine Done.step (fun t k => XS.iloadN X0.here hx rfl (hb hby d6_51) rfl k) ?_
          show Done p e below s _ _ _ (s₁.setTop (mkF m 52 #[.val (.int p1), .val (.long (((1 : Int64) * (10 : Int64)) * (100000000 : Int64))), .second] [(.int p1)]))
          refine Done.step (fun t k => XS.bipush X0.here hx rfl (hb hby d6_52) k) ?_
          show Done p e below s _ _ _ (s₁.setTop (mkF m 54 #[.val (.int p1), .val (.long (((1 : Int64) * (10 : Int64)) * (100000000 : Int64))), .second] [(.int (16 : Int32)), (.int p1)]))
          refine Done.step (fun t k => XS.iand X0.here hx rfl (hb hby d6_54) rfl k) ?_
          show Done p e below s _ _ _ (s₁.setTop (mkF m 55 #[.val (.int p1), .val (.long (((1 : Int64) * (10 : Int64)) * (100000000 : Int64))), .second] [(.int (p1 &&& (16 : Int32)))]))
          by_cases c21 : (p1 &&& (16 : Int32)) = (0 : Int32)
          · refine Done.step (fun t k => XS.ifYes X0.here hx rfl (pc0 := 55) (pc' := 70) rfl (hb hby d6_55) rfl ((if0 _ _).trans (teq c21).1) (by decide) (by decide) k) ?_
            show Done p e below s _ _ _ (s₁.setTop (mkF m 70 #[.val (.int p1), .val (.long (((1 : Int64) * (10 : Int64)) * (100000000 : Int64))), .second] []))
            refine Done.step (fun t k => XS.lloadN X0.here hx rfl (hb hby d6_70) rfl k) ?_
            show Done p e below s _ _ _ (s₁.setTop (mkF m 71 #[.val (.int p1), .val (.long (((1 : Int64) * (10 : Int64)) * (100000000 : Int64))), .second] [(.long (((1 : Int64) * (10 : Int64)) * (100000000 : Int64)))]))
            exact Done.long X0 hx hlk hret (hb hby d6_71) (by decide) (by decide) ⟨by rw [show F6 p1 = (((1 : Int64) * (10 : Int64)) * (100000000 : Int64)) from by unfold F6; rw [if_neg c1, if_pos c17, if_pos c18, if_neg c19, if_pos c21]] <;> rfl, N0, e0⟩
          · refine Done.step (fun t k => XS.ifNo X0.here hx rfl (hb hby d6_55) rfl ((if0 _ _).trans (feq c21).1) k) ?_
            show Done p e below s _ _ _ (s₁.setTop (mkF m 58 #[.val (.int p1), .val (.long (((1 : Int64) * (10 : Int64)) * (100000000 : Int64))), .second] []))
            refine Done.step (fun t k => XS.lloadN X0.here hx rfl (hb hby d6_58) rfl k) ?_
            show Done p e below s _ _ _ (s₁.setTop (mkF m 59 #[.val (.int p1), .val (.long (((1 : Int64) * (10 : Int64)) * (100000000 : Int64))), .second] [(.long (((1 : Int64) * (10 : Int64)) * (100000000 : Int64)))]))
            refine Done.step (X0.ldc2Long hx hown (mvT hZ (hw _ (List.mem_of_getElem? (i := 29) rfl))) (g := (mkF m 59 #[.val (.int p1), .val (.long (((1 : Int64) * (10 : Int64)) * (100000000 : Int64))), .second] [(.long (((1 : Int64) * (10 : Int64)) * (100000000 : Int64)))])) rfl (hb hby d6_59)) ?_
            show Done p e below s _ _ _ (s₁.setTop (mkF m 62 #[.val (.int p1), .val (.long (((1 : Int64) * (10 : Int64)) * (100000000 : Int64))), .second] [(.long (100000000 : Int64)), (.long (((1 : Int64) * (10 : Int64)) * (100000000 : Int64)))]))
            refine Done.step (fun t k => XS.lmul X0.here hx rfl (hb hby d6_62) rfl k) ?_
            show Done p e below s _ _ _ (s₁.setTop (mkF m 63 #[.val (.int p1), .val (.long (((1 : Int64) * (10 : Int64)) * (100000000 : Int64))), .second] [(.long ((((1 : Int64) * (10 : Int64)) * (100000000 : Int64)) * (100000000 : Int64)))]))
            refine Done.step (fun t k => XS.lstoreN X0.here hx rfl (hb hby d6_63) rfl (l' := #[.val (.int p1), .val (.long ((((1 : Int64) * (10 : Int64)) * (100000000 : Int64)) * (100000000 : Int64))), .second]) rfl k) ?_
            show Done p e below s _ _ _ (s₁.setTop (mkF m 64 #[.val (.int p1), .val (.long ((((1 : Int64) * (10 : Int64)) * (100000000 : Int64)) * (100000000 : Int64))), .second] []))
            refine Done.step (fun t k => XS.lloadN X0.here hx rfl (hb hby d6_64) rfl k) ?_
            show Done p e below s _ _ _ (s₁.setTop (mkF m 65 #[.val (.int p1), .val (.long ((((1 : Int64) * (10 : Int64)) * (100000000 : Int64)) * (100000000 : Int64))), .second] [(.long ((((1 : Int64) * (10 : Int64)) * (100000000 : Int64)) * (100000000 : Int64)))]))
            refine Done.step (X0.ldc2Long hx hown (mvT hZ (hw _ (List.mem_of_getElem? (i := 29) rfl))) (g := (mkF m 65 #[.val (.int p1), .val (.long ((((1 : Int64) * (10 : Int64)) * (100000000 : Int64)) * (100000000 : Int64))), .second] [(.long ((((1 : Int64) * (10 : Int64)) * (100000000 : Int64)) * (100000000 : Int64)))])) rfl (hb hby d6_65)) ?_
            show Done p e below s _ _ _ (s₁.setTop (mkF m 68 #[.val (.int p1), .val (.long ((((1 : Int64) * (10 : Int64)) * (100000000 : Int64)) * (100000000 : Int64))), .second] [(.long (100000000 : Int64)), (.long ((((1 : Int64) * (10 : Int64)) * (100000000 : Int64)) * (100000000 : Int64)))]))
            refine Done.step (fun t k => XS.lmul X0.here hx rfl (hb hby d6_68) rfl k) ?_
            show Done p e below s _ _ _ (s₁.setTop (mkF m 69 #[.val (.int p1), .val (.long ((((1 : Int64) * (10 : Int64)) * (100000000 : Int64)) * (100000000 : Int64))), .second] [(.long (((((1 : Int64) * (10 : Int64)) * (100000000 : Int64)) * (100000000 : Int64)) * (100000000 : Int64)))]))
            refine Done.step (fun t k => XS.lstoreN X0.here hx rfl (hb hby d6_69) rfl (l' := #[.val (.int p1), .val (.long (((((1 : Int64) * (10 : Int64)) * (100000000 : Int64)) * (100000000 : Int64)) * (100000000 : Int64))), .second]) rfl k) ?_
            show Done p e below s _ _ _ (s₁.setTop (mkF m 70 #[.val (.int p1), .val (.long (((((1 : Int64) * (10 : Int64)) * (100000000 : Int64)) * (100000000 : Int64)) * (100000000 : Int64))), .second] []))
            refine Done.step (fun t k => XS.lloadN X0.here hx rfl (hb hby d6_70) rfl k) ?_
            show Done p e below s _ _ _ (s₁.setTop (mkF m 71 #[.val (.int p1), .val (.long (((((1 : Int64) * (10 : Int64)) * (100000000 : Int64)) * (100000000 : Int64)) * (100000000 : Int64))), .second] [(.long (((((1 : Int64) * (10 : Int64)) * (100000000 : Int64)) * (100000000 : Int64)) * (100000000 : Int64)))]))
            exact Done.long X0 hx hlk hret (hb hby d6_71) (by decide) (by decide) ⟨by rw [show F6 p1 = (((((1 : Int64) * (10 : Int64)) * (100000000 : Int64)) * (100000000 : Int64)) * (100000000 : Int64)) from by unfold F6; rw [if_neg c1, if_pos c17, if_pos c18, if_neg c19, if_neg c21]] <;> rfl, N0, e0⟩
      · refine Done.step (fun t k => XS.ifNo X0.here hx rfl (hb hby d6_29) rfl ((if0 _ _).trans (feq c18).1) k) ?_
        show Done p e below s _ _ _ (s₁.setTop (mkF m 32 #[.val (.int p1), .val (.long ((1 : Int64) * (10 : Int64))), .second] []))
        refine Done.step (fun t k => XS.lloadN X0.here hx rfl (hb hby d6_32) rfl k) ?_
        show Done p e below s _ _ _ (s₁.setTop (mkF m 33 #[.val (.int p1), .val (.long ((1 : Int64) * (10 : Int64))), .second] [(.long ((1 : Int64) * (10 : Int64)))]))
        refine Done.step (X0.ldc2Long hx hown (mvT hZ (hw _ (List.mem_of_getElem? (i := 30) rfl))) (g := (mkF m 33 #[.val (.int p1), .val (.long ((1 : Int64) * (10 : Int64))), .second] [(.long ((1 : Int64) * (10 : Int64)))])) rfl (hb hby d6_33)) ?_
        show Done p e below s _ _ _ (s₁.setTop (mkF m 36 #[.val (.int p1), .val (.long ((1 : Int64) * (10 : Int64))), .second] [(.long (10000 : Int64)), (.long ((1 : Int64) * (10 : Int64)))]))
        refine Done.step (fun t k => XS.lmul X0.here hx rfl (hb hby d6_36) rfl k) ?_
        show Done p e below s _ _ _ (s₁.setTop (mkF m 37 #[.val (.int p1), .val (.long ((1 : Int64) * (10 : Int64))), .second] [(.long (((1 : Int64) * (10 : Int64)) * (10000 : Int64)))]))
        refine Done.step (fun t k => XS.lstoreN X0.here hx rfl (hb hby d6_37) rfl (l' := #[.val (.int p1), .val (.long (((1 : Int64) * (10 : Int64)) * (10000 : Int64))), .second]) rfl k) ?_
        show Done p e below s _ _ _ (s₁.setTop (mkF m 38 #[.val (.int p1), .val (.long (((1 : Int64) * (10 : Int64)) * (10000 : Int64))), .second] []))
        refine Done.step (fun t k => XS.iloadN X0.here hx rfl (hb hby d6_38) rfl k) ?_
        show Done p e below s _ _ _ (s₁.setTop (mkF m 39 #[.val (.int p1), .val (.long (((1 : Int64) * (10 : Int64)) * (10000 : Int64))), .second] [(.int p1)]))
        refine Done.step (fun t k => XS.bipush X0.here hx rfl (hb hby d6_39) k) ?_
        show Done p e below s _ _ _ (s₁.setTop (mkF m 41 #[.val (.int p1), .val (.long (((1 : Int64) * (10 : Int64)) * (10000 : Int64))), .second] [(.int (8 : Int32)), (.int p1)]))
        refine Done.step (fun t k => XS.iand X0.here hx rfl (hb hby d6_41) rfl k) ?_
        show Done p e below s _ _ _ (s₁.setTop (mkF m 42 #[.val (.int p1), .val (.long (((1 : Int64) * (10 : Int64)) * (10000 : Int64))), .second] [(.int (p1 &&& (8 : Int32)))]))
        by_cases c22 : (p1 &&& (8 : Int32)) = (0 : Int32)
        · refine Done.step (fun t k => XS.ifYes X0.here hx rfl (pc0 := 42) (pc' := 51) rfl (hb hby d6_42) rfl ((if0 _ _).trans (teq c22).1) (by decide) (by decide) k) ?_
          show Done p e below s _ _ _ (s₁.setTop (mkF m 51 #[.val (.int p1), .val (.long (((1 : Int64) * (10 : Int64)) * (10000 : Int64))), .second] []))
          refine Done.step (fun t k => XS.iloadN X0.here hx rfl (hb hby d6_51) rfl k) ?_
          show Done p e below s _ _ _ (s₁.setTop (mkF m 52 #[.val (.int p1), .val (.long (((1 : Int64) * (10 : Int64)) * (10000 : Int64))), .second] [(.int p1)]))
          refine Done.step (fun t k => XS.bipush X0.here hx rfl (hb hby d6_52) k) ?_
          show Done p e below s _ _ _ (s₁.setTop (mkF m 54 #[.val (.int p1), .val (.long (((1 : Int64) * (10 : Int64)) * (10000 : Int64))), .second] [(.int (16 : Int32)), (.int p1)]))
          refine Done.step (fun t k => XS.iand X0.here hx rfl (hb hby d6_54) rfl k) ?_
          show Done p e below s _ _ _ (s₁.setTop (mkF m 55 #[.val (.int p1), .val (.long (((1 : Int64) * (10 : Int64)) * (10000 : Int64))), .second] [(.int (p1 &&& (16 : Int32)))]))
          by_cases c23 : (p1 &&& (16 : Int32)) = (0 : Int32)
          · refine Done.step (fun t k => XS.ifYes X0.here hx rfl (pc0 := 55) (pc' := 70) rfl (hb hby d6_55) rfl ((if0 _ _).trans (teq c23).1) (by decide) (by decide) k) ?_
            show Done p e below s _ _ _ (s₁.setTop (mkF m 70 #[.val (.int p1), .val (.long (((1 : Int64) * (10 : Int64)) * (10000 : Int64))), .second] []))
            refine Done.step (fun t k => XS.lloadN X0.here hx rfl (hb hby d6_70) rfl k) ?_
            show Done p e below s _ _ _ (s₁.setTop (mkF m 71 #[.val (.int p1), .val (.long (((1 : Int64) * (10 : Int64)) * (10000 : Int64))), .second] [(.long (((1 : Int64) * (10 : Int64)) * (10000 : Int64)))]))
            exact Done.long X0 hx hlk hret (hb hby d6_71) (by decide) (by decide) ⟨by rw [show F6 p1 = (((1 : Int64) * (10 : Int64)) * (10000 : Int64)) from by unfold F6; rw [if_neg c1, if_pos c17, if_neg c18, if_pos c22, if_pos c23]] <;> rfl, N0, e0⟩
          · refine Done.step (fun t k => XS.ifNo X0.here hx rfl (hb hby d6_55) rfl ((if0 _ _).trans (feq c23).1) k) ?_
            show Done p e below s _ _ _ (s₁.setTop (mkF m 58 #[.val (.int p1), .val (.long (((1 : Int64) * (10 : Int64)) * (10000 : Int64))), .second] []))
            refine Done.step (fun t k => XS.lloadN X0.here hx rfl (hb hby d6_58) rfl k) ?_
            show Done p e below s _ _ _ (s₁.setTop (mkF m 59 #[.val (.int p1), .val (.long (((1 : Int64) * (10 : Int64)) * (10000 : Int64))), .second] [(.long (((1 : Int64) * (10 : Int64)) * (10000 : Int64)))]))
            refine Done.step (X0.ldc2Long hx hown (mvT hZ (hw _ (List.mem_of_getElem? (i := 29) rfl))) (g := (mkF m 59 #[.val (.int p1), .val (.long (((1 : Int64) * (10 : Int64)) * (10000 : Int64))), .second] [(.long (((1 : Int64) * (10 : Int64)) * (10000 : Int64)))])) rfl (hb hby d6_59)) ?_
            show Done p e below s _ _ _ (s₁.setTop (mkF m 62 #[.val (.int p1), .val (.long (((1 : Int64) * (10 : Int64)) * (10000 : Int64))), .second] [(.long (100000000 : Int64)), (.long (((1 : Int64) * (10 : Int64)) * (10000 : Int64)))]))
            refine Done.step (fun t k => XS.lmul X0.here hx rfl (hb hby d6_62) rfl k) ?_
            show Done p e below s _ _ _ (s₁.setTop (mkF m 63 #[.val (.int p1), .val (.long (((1 : Int64) * (10 : Int64)) * (10000 : Int64))), .second] [(.long ((((1 : Int64) * (10 : Int64)) * (10000 : Int64)) * (100000000 : Int64)))]))
            refine Done.step (fun t k => XS.lstoreN X0.here hx rfl (hb hby d6_63) rfl (l' := #[.val (.int p1), .val (.long ((((1 : Int64) * (10 : Int64)) * (10000 : Int64)) * (100000000 : Int64))), .second]) rfl k) ?_
            show Done p e below s _ _ _ (s₁.setTop (mkF m 64 #[.val (.int p1), .val (.long ((((1 : Int64) * (10 : Int64)) * (10000 : Int64)) * (100000000 : Int64))), .second] []))
            refine Done.step (fun t k => XS.lloadN X0.here hx rfl (hb hby d6_64) rfl k) ?_
            show Done p e below s _ _ _ (s₁.setTop (mkF m 65 #[.val (.int p1), .val (.long ((((1 : Int64) * (10 : Int64)) * (10000 : Int64)) * (100000000 : Int64))), .second] [(.long ((((1 : Int64) * (10 : Int64)) * (10000 : Int64)) * (100000000 : Int64)))]))
            refine Done.step (X0.ldc2Long hx hown (mvT hZ (hw _ (List.mem_of_getElem? (i := 29) rfl))) (g := (mkF m 65 #[.val (.int p1), .val (.long ((((1 : Int64) * (10 : Int64)) * (10000 : Int64)) * (100000000 : Int64))), .second] [(.long ((((1 : Int64) * (10 : Int64)) * (10000 : Int64)) * (100000000 : Int64)))])) rfl (hb hby d6_65)) ?_
            show Done p e below s _ _ _ (s₁.setTop (mkF m 68 #[.val (.int p1), .val (.long ((((1 : Int64) * (10 : Int64)) * (10000 : Int64)) * (100000000 : Int64))), .second] [(.long (100000000 : Int64)), (.long ((((1 : Int64) * (10 : Int64)) * (10000 : Int64)) * (100000000 : Int64)))]))
            refine Done.step (fun t k => XS.lmul X0.here hx rfl (hb hby d6_68) rfl k) ?_
            show Done p e below s _ _ _ (s₁.setTop (mkF m 69 #[.val (.int p1), .val (.long ((((1 : Int64) * (10 : Int64)) * (10000 : Int64)) * (100000000 : Int64))), .second] [(.long (((((1 : Int64) * (10 : Int64)) * (10000 : Int64)) * (100000000 : Int64)) * (100000000 : Int64)))]))
            refine Done.step (fun t k => XS.lstoreN X0.here hx rfl (hb hby d6_69) rfl (l' := #[.val (.int p1), .val (.long (((((1 : Int64) * (10 : Int64)) * (10000 : Int64)) * (100000000 : Int64)) * (100000000 : Int64))), .second]) rfl k) ?_
            show Done p e below s _ _ _ (s₁.setTop (mkF m 70 #[.val (.int p1), .val (.long (((((1 : Int64) * (10 : Int64)) * (10000 : Int64)) * (100000000 : Int64)) * (100000000 : Int64))), .second] []))
            refine Done.step (fun t k => XS.lloadN X0.here hx rfl (hb hby d6_70) rfl k) ?_
            show Done p e below s _ _ _ (s₁.setTop (mkF m 71 #[.val (.int p1), .val (.long (((((1 : Int64) * (10 : Int64)) * (10000 : Int64)) * (100000000 : Int64)) * (100000000 : Int64))), .second] [(.long (((((1 : Int64) * (10 : Int64)) * (10000 : Int64)) * (100000000 : Int64)) * (100000000 : Int64)))]))
            exact Done.long X0 hx hlk hret (hb hby d6_71) (by decide) (by decide) ⟨by rw [show F6 p1 = (((((1 : Int64) * (10 : Int64)) * (10000 : Int64)) * (100000000 : Int64)) * (100000000 : Int64)) from by unfold F6; rw [if_neg c1, if_pos c17, if_neg c18, if_pos c22, if_neg c23]] <;> rfl, N0, e0⟩
        · refine Done.step (fun t k => XS.ifNo X0.here hx rfl (hb hby d6_42) rfl ((if0 _ _).trans (feq c22).1) k) ?_
          show Done p e below s _ _ _ (s₁.setTop (mkF m 45 #[.val (.int p1), .val (.long (((1 : Int64) * (10 : Int64)) * (10000 : Int64))), .second] []))
          refine Done.step (fun t k => XS.lloadN X0.here hx rfl (hb hby d6_45) rfl k) ?_
          show Done p e below s _ _ _ (s₁.setTop (mkF m 46 #[.val (.int p1), .val (.long (((1 : Int64) * (10 : Int64)) * (10000 : Int64))), .second] [(.long (((1 : Int64) * (10 : Int64)) * (10000 : Int64)))]))
          refine Done.step (X0.ldc2Long hx hown (mvT hZ (hw _ (List.mem_of_getElem? (i := 29) rfl))) (g := (mkF m 46 #[.val (.int p1), .val (.long (((1 : Int64) * (10 : Int64)) * (10000 : Int64))), .second] [(.long (((1 : Int64) * (10 : Int64)) * (10000 : Int64)))])) rfl (hb hby d6_46)) ?_
          show Done p e below s _ _ _ (s₁.setTop (mkF m 49 #[.val (.int p1), .val (.long (((1 : Int64) * (10 : Int64)) * (10000 : Int64))), .second] [(.long (100000000 : Int64)), (.long (((1 : Int64) * (10 : Int64)) * (10000 : Int64)))]))
          refine Done.step (fun t k => XS.lmul X0.here hx rfl (hb hby d6_49) rfl k) ?_
          show Done p e below s _ _ _ (s₁.setTop (mkF m 50 #[.val (.int p1), .val (.long (((1 : Int64) * (10 : Int64)) * (10000 : Int64))), .second] [(.long ((((1 : Int64) * (10 : Int64)) * (10000 : Int64)) * (100000000 : Int64)))]))
          refine Done.step (fun t k => XS.lstoreN X0.here hx rfl (hb hby d6_50) rfl (l' := #[.val (.int p1), .val (.long ((((1 : Int64) * (10 : Int64)) * (10000 : Int64)) * (100000000 : Int64))), .second]) rfl k) ?_
          show Done p e below s _ _ _ (s₁.setTop (mkF m 51 #[.val (.int p1), .val (.long ((((1 : Int64) * (10 : Int64)) * (10000 : Int64)) * (100000000 : Int64))), .second] []))
          refine Done.step (fun t k => XS.iloadN X0.here hx rfl (hb hby d6_51) rfl k) ?_
          show Done p e below s _ _ _ (s₁.setTop (mkF m 52 #[.val (.int p1), .val (.long ((((1 : Int64) * (10 : Int64)) * (10000 : Int64)) * (100000000 : Int64))), .second] [(.int p1)]))
          refine Done.step (fun t k => XS.bipush X0.here hx rfl (hb hby d6_52) k) ?_
          show Done p e below s _ _ _ (s₁.setTop (mkF m 54 #[.val (.int p1), .val (.long ((((1 : Int64) * (10 : Int64)) * (10000 : Int64)) * (100000000 : Int64))), .second] [(.int (16 : Int32)), (.int p1)]))
          refine Done.step (fun t k => XS.iand X0.here hx rfl (hb hby d6_54) rfl k) ?_
          show Done p e below s _ _ _ (s₁.setTop (mkF m 55 #[.val (.int p1), .val (.long ((((1 : Int64) * (10 : Int64)) * (10000 : Int64)) * (100000000 : Int64))), .second] [(.int (p1 &&& (16 : Int32)))]))
          by_cases c24 : (p1 &&& (16 : Int32)) = (0 : Int32)
          · refine Done.step (fun t k => XS.ifYes X0.here hx rfl (pc0 := 55) (pc' := 70) rfl (hb hby d6_55) rfl ((if0 _ _).trans (teq c24).1) (by decide) (by decide) k) ?_
            show Done p e below s _ _ _ (s₁.setTop (mkF m 70 #[.val (.int p1), .val (.long ((((1 : Int64) * (10 : Int64)) * (10000 : Int64)) * (100000000 : Int64))), .second] []))
            refine Done.step (fun t k => XS.lloadN X0.here hx rfl (hb hby d6_70) rfl k) ?_
            show Done p e below s _ _ _ (s₁.setTop (mkF m 71 #[.val (.int p1), .val (.long ((((1 : Int64) * (10 : Int64)) * (10000 : Int64)) * (100000000 : Int64))), .second] [(.long ((((1 : Int64) * (10 : Int64)) * (10000 : Int64)) * (100000000 : Int64)))]))
            exact Done.long X0 hx hlk hret (hb hby d6_71) (by decide) (by decide) ⟨by rw [show F6 p1 = ((((1 : Int64) * (10 : Int64)) * (10000 : Int64)) * (100000000 : Int64)) from by unfold F6; rw [if_neg c1, if_pos c17, if_neg c18, if_neg c22, if_pos c24]] <;> rfl, N0, e0⟩
          · refine Done.step (fun t k => XS.ifNo X0.here hx rfl (hb hby d6_55) rfl ((if0 _ _).trans (feq c24).1) k) ?_
            show Done p e below s _ _ _ (s₁.setTop (mkF m 58 #[.val (.int p1), .val (.long ((((1 : Int64) * (10 : Int64)) * (10000 : Int64)) * (100000000 : Int64))), .second] []))
            refine Done.step (fun t k => XS.lloadN X0.here hx rfl (hb hby d6_58) rfl k) ?_
            show Done p e below s _ _ _ (s₁.setTop (mkF m 59 #[.val (.int p1), .val (.long ((((1 : Int64) * (10 : Int64)) * (10000 : Int64)) * (100000000 : Int64))), .second] [(.long ((((1 : Int64) * (10 : Int64)) * (10000 : Int64)) * (100000000 : Int64)))]))
            refine Done.step (X0.ldc2Long hx hown (mvT hZ (hw _ (List.mem_of_getElem? (i := 29) rfl))) (g := (mkF m 59 #[.val (.int p1), .val (.long ((((1 : Int64) * (10 : Int64)) * (10000 : Int64)) * (100000000 : Int64))), .second] [(.long ((((1 : Int64) * (10 : Int64)) * (10000 : Int64)) * (100000000 : Int64)))])) rfl (hb hby d6_59)) ?_
            show Done p e below s _ _ _ (s₁.setTop (mkF m 62 #[.val (.int p1), .val (.long ((((1 : Int64) * (10 : Int64)) * (10000 : Int64)) * (100000000 : Int64))), .second] [(.long (100000000 : Int64)), (.long ((((1 : Int64) * (10 : Int64)) * (10000 : Int64)) * (100000000 : Int64)))]))
            refine Done.step (fun t k => XS.lmul X0.here hx rfl (hb hby d6_62) rfl k) ?_
            show Done p e below s _ _ _ (s₁.setTop (mkF m 63 #[.val (.int p1), .val (.long ((((1 : Int64) * (10 : Int64)) * (10000 : Int64)) * (100000000 : Int64))), .second] [(.long (((((1 : Int64) * (10 : Int64)) * (10000 : Int64)) * (100000000 : Int64)) * (100000000 : Int64)))]))
            refine Done.step (fun t k => XS.lstoreN X0.here hx rfl (hb hby d6_63) rfl (l' := #[.val (.int p1), .val (.long (((((1 : Int64) * (10 : Int64)) * (10000 : Int64)) * (100000000 : Int64)) * (100000000 : Int64))), .second]) rfl k) ?_
            show Done p e below s _ _ _ (s₁.setTop (mkF m 64 #[.val (.int p1), .val (.long (((((1 : Int64) * (10 : Int64)) * (10000 : Int64)) * (100000000 : Int64)) * (100000000 : Int64))), .second] []))
            refine Done.step (fun t k => XS.lloadN X0.here hx rfl (hb hby d6_64) rfl k) ?_
            show Done p e below s _ _ _ (s₁.setTop (mkF m 65 #[.val (.int p1), .val (.long (((((1 : Int64) * (10 : Int64)) * (10000 : Int64)) * (100000000 : Int64)) * (100000000 : Int64))), .second] [(.long (((((1 : Int64) * (10 : Int64)) * (10000 : Int64)) * (100000000 : Int64)) * (100000000 : Int64)))]))
            refine Done.step (X0.ldc2Long hx hown (mvT hZ (hw _ (List.mem_of_getElem? (i := 29) rfl))) (g := (mkF m 65 #[.val (.int p1), .val (.long (((((1 : Int64) * (10 : Int64)) * (10000 : Int64)) * (100000000 : Int64)) * (100000000 : Int64))), .second] [(.long (((((1 : Int64) * (10 : Int64)) * (10000 : Int64)) * (100000000 : Int64)) * (100000000 : Int64)))])) rfl (hb hby d6_65)) ?_
            show Done p e below s _ _ _ (s₁.setTop (mkF m 68 #[.val (.int p1), .val (.long (((((1 : Int64) * (10 : Int64)) * (10000 : Int64)) * (100000000 : Int64)) * (100000000 : Int64))), .second] [(.long (100000000 : Int64)), (.long (((((1 : Int64) * (10 : Int64)) * (10000 : Int64)) * (100000000 : Int64)) * (100000000 : Int64)))]))
            refine Done.step (fun t k => XS.lmul X0.here hx rfl (hb hby d6_68) rfl k) ?_
            show Done p e below s _ _ _ (s₁.setTop (mkF m 69 #[.val (.int p1), .val (.long (((((1 : Int64) * (10 : Int64)) * (10000 : Int64)) * (100000000 : Int64)) * (100000000 : Int64))), .second] [(.long ((((((1 : Int64) * (10 : Int64)) * (10000 : Int64)) * (100000000 : Int64)) * (100000000 : Int64)) * (100000000 : Int64)))]))
            refine Done.step (fun t k => XS.lstoreN X0.here hx rfl (hb hby d6_69) rfl (l' := #[.val (.int p1), .val (.long ((((((1 : Int64) * (10 : Int64)) * (10000 : Int64)) * (100000000 : Int64)) * (100000000 : Int64)) * (100000000 : Int64))), .second]) rfl k) ?_
            show Done p e below s _ _ _ (s₁.setTop (mkF m 70 #[.val (.int p1), .val (.long ((((((1 : Int64) * (10 : Int64)) * (10000 : Int64)) * (100000000 : Int64)) * (100000000 : Int64)) * (100000000 : Int64))), .second] []))
            refine Done.step (fun t k => XS.lloadN X0.here hx rfl (hb hby d6_70) rfl k) ?_
            show Done p e below s _ _ _ (s₁.setTop (mkF m 71 #[.val (.int p1), .val (.long ((((((1 : Int64) * (10 : Int64)) * (10000 : Int64)) * (100000000 : Int64)) * (100000000 : Int64)) * (100000000 : Int64))), .second] [(.long ((((((1 : Int64) * (10 : Int64)) * (10000 : Int64)) * (100000000 : Int64)) * (100000000 : Int64)) * (100000000 : Int64)))]))
            exact Done.long X0 hx hlk hret (hb hby d6_71) (by decide) (by decide) ⟨by rw [show F6 p1 = ((((((1 : Int64) * (10 : Int64)) * (10000 : Int64)) * (100000000 : Int64)) * (100000000 : Int64)) * (100000000 : Int64)) from by unfold F6; rw [if_neg c1, if_pos c17, if_neg c18, if_neg c22, if_neg c24]] <;> rfl, N0, e0⟩
    · refine Done.step (fun t k => XS.ifNo X0.here hx rfl (hb hby d6_17) rfl ((if0 _ _).trans (feq c17).1) k) ?_
      show Done p e below s _ _ _ (s₁.setTop (mkF m 20 #[.val (.int p1), .val (.long ((1 : Int64) * (10 : Int64))), .second] []))
      refine Done.step (fun t k => XS.lloadN X0.here hx rfl (hb hby d6_20) rfl k) ?_
      show Done p e below s _ _ _ (s₁.setTop (mkF m 21 #[.val (.int p1), .val (.long ((1 : Int64) * (10 : Int64))), .second] [(.long ((1 : Int64) * (10 : Int64)))]))
      refine Done.step (X0.ldc2Long hx hown (mvT hZ (hw _ (List.mem_of_getElem? (i := 27) rfl))) (g := (mkF m 21 #[.val (.int p1), .val (.long ((1 : Int64) * (10 : Int64))), .second] [(.long ((1 : Int64) * (10 : Int64)))])) rfl (hb hby d6_21)) ?_
      show Done p e below s _ _ _ (s₁.setTop (mkF m 24 #[.val (.int p1), .val (.long ((1 : Int64) * (10 : Int64))), .second] [(.long (100 : Int64)), (.long ((1 : Int64) * (10 : Int64)))]))
      refine Done.step (fun t k => XS.lmul X0.here hx rfl (hb hby d6_24) rfl k) ?_
      show Done p e below s _ _ _ (s₁.setTop (mkF m 25 #[.val (.int p1), .val (.long ((1 : Int64) * (10 : Int64))), .second] [(.long (((1 : Int64) * (10 : Int64)) * (100 : Int64)))]))
      refine Done.step (fun t k => XS.lstoreN X0.here hx rfl (hb hby d6_25) rfl (l' := #[.val (.int p1), .val (.long (((1 : Int64) * (10 : Int64)) * (100 : Int64))), .second]) rfl k) ?_
      show Done p e below s _ _ _ (s₁.setTop (mkF m 26 #[.val (.int p1), .val (.long (((1 : Int64) * (10 : Int64)) * (100 : Int64))), .second] []))
      refine Done.step (fun t k => XS.iloadN X0.here hx rfl (hb hby d6_26) rfl k) ?_
      show Done p e below s _ _ _ (s₁.setTop (mkF m 27 #[.val (.int p1), .val (.long (((1 : Int64) * (10 : Int64)) * (100 : Int64))), .second] [(.int p1)]))
      refine Done.step (fun t k => XS.iconst X0.here hx rfl (hb hby d6_27) k) ?_
      show Done p e below s _ _ _ (s₁.setTop (mkF m 28 #[.val (.int p1), .val (.long (((1 : Int64) * (10 : Int64)) * (100 : Int64))), .second] [(.int (4 : Int32)), (.int p1)]))
      refine Done.step (fun t k => XS.iand X0.here hx rfl (hb hby d6_28) rfl k) ?_
      show Done p e below s _ _ _ (s₁.setTop (mkF m 29 #[.val (.int p1), .val (.long (((1 : Int64) * (10 : Int64)) * (100 : Int64))), .second] [(.int (p1 &&& (4 : Int32)))]))
      by_cases c25 : (p1 &&& (4 : Int32)) = (0 : Int32)
      · refine Done.step (fun t k => XS.ifYes X0.here hx rfl (pc0 := 29) (pc' := 38) rfl (hb hby d6_29) rfl ((if0 _ _).trans (teq c25).1) (by decide) (by decide) k) ?_
        show Done p e below s _ _ _ (s₁.setTop (mkF m 38 #[.val (.int p1), .val (.long (((1 : Int64) * (10 : Int64)) * (100 : Int64))), .second] []))
        refine Done.step (fun t k => XS.iloadN X0.here hx rfl (hb hby d6_38) rfl k) ?_
        show Done p e below s _ _ _ (s₁.setTop (mkF m 39 #[.val (.int p1), .val (.long (((1 : Int64) * (10 : Int64)) * (100 : Int64))), .second] [(.int p1)]))
        refine Done.step (fun t k => XS.bipush X0.here hx rfl (hb hby d6_39) k) ?_
        show Done p e below s _ _ _ (s₁.setTop (mkF m 41 #[.val (.int p1), .val (.long (((1 : Int64) * (10 : Int64)) * (100 : Int64))), .second] [(.int (8 : Int32)), (.int p1)]))
        refine Done.step (fun t k => XS.iand X0.here hx rfl (hb hby d6_41) rfl k) ?_
        show Done p e below s _ _ _ (s₁.setTop (mkF m 42 #[.val (.int p1), .val (.long (((1 : Int64) * (10 : Int64)) * (100 : Int64))), .second] [(.int (p1 &&& (8 : Int32)))]))
        by_cases c26 : (p1 &&& (8 : Int32)) = (0 : Int32)
        · refine Done.step (fun t k => XS.ifYes X0.here hx rfl (pc0 := 42) (pc' := 51) rfl (hb hby d6_42) rfl ((if0 _ _).trans (teq c26).1) (by decide) (by decide) k) ?_
          show Done p e below s _ _ _ (s₁.setTop (mkF m 51 #[.val (.int p1), .val (.long (((1 : Int64) * (10 : Int64)) * (100 : Int64))), .second] []))
          refine Done.step (fun t k => XS.iloadN X0.here hx rfl (hb hby d6_51) rfl k) ?_
          show Done p e below s _ _ _ (s₁.setTop (mkF m 52 #[.val (.int p1), .val (.long (((1 : Int64) * (10 : Int64)) * (100 : Int64))), .second] [(.int p1)]))
          refine Done.step (fun t k => XS.bipush X0.here hx rfl (hb hby d6_52) k) ?_
          show Done p e below s _ _ _ (s₁.setTop (mkF m 54 #[.val (.int p1), .val (.long (((1 : Int64) * (10 : Int64)) * (100 : Int64))), .second] [(.int (16 : Int32)), (.int p1)]))
          refine Done.step (fun t k => XS.iand X0.here hx rfl (hb hby d6_54) rfl k) ?_
          show Done p e below s _ _ _ (s₁.setTop (mkF m 55 #[.val (.int p1), .val (.long (((1 : Int64) * (10 : Int64)) * (100 : Int64))), .second] [(.int (p1 &&& (16 : Int32)))]))
          by_cases c27 : (p1 &&& (16 : Int32)) = (0 : Int32)
          · refine Done.step (fun t k => XS.ifYes X0.here hx rfl (pc0 := 55) (pc' := 70) rfl (hb hby d6_55) rfl ((if0 _ _).trans (teq c27).1) (by decide) (by decide) k) ?_
            show Done p e below s _ _ _ (s₁.setTop (mkF m 70 #[.val (.int p1), .val (.long (((1 : Int64) * (10 : Int64)) * (100 : Int64))), .second] []))
            refine Done.step (fun t k => XS.lloadN X0.here hx rfl (hb hby d6_70) rfl k) ?_
            show Done p e below s _ _ _ (s₁.setTop (mkF m 71 #[.val (.int p1), .val (.long (((1 : Int64) * (10 : Int64)) * (100 : Int64))), .second] [(.long (((1 : Int64) * (10 : Int64)) * (100 : Int64)))]))
            exact Done.long X0 hx hlk hret (hb hby d6_71) (by decide) (by decide) ⟨by rw [show F6 p1 = (((1 : Int64) * (10 : Int64)) * (100 : Int64)) from by unfold F6; rw [if_neg c1, if_neg c17, if_pos c25, if_pos c26, if_pos c27]] <;> rfl, N0, e0⟩
          · refine Done.step (fun t k => XS.ifNo X0.here hx rfl (hb hby d6_55) rfl ((if0 _ _).trans (feq c27).1) k) ?_
            show Done p e below s _ _ _ (s₁.setTop (mkF m 58 #[.val (.int p1), .val (.long (((1 : Int64) * (10 : Int64)) * (100 : Int64))), .second] []))
            refine Done.step (fun t k => XS.lloadN X0.here hx rfl (hb hby d6_58) rfl k) ?_
            show Done p e below s _ _ _ (s₁.setTop (mkF m 59 #[.val (.int p1), .val (.long (((1 : Int64) * (10 : Int64)) * (100 : Int64))), .second] [(.long (((1 : Int64) * (10 : Int64)) * (100 : Int64)))]))
            refine Done.step (X0.ldc2Long hx hown (mvT hZ (hw _ (List.mem_of_getElem? (i := 29) rfl))) (g := (mkF m 59 #[.val (.int p1), .val (.long (((1 : Int64) * (10 : Int64)) * (100 : Int64))), .second] [(.long (((1 : Int64) * (10 : Int64)) * (100 : Int64)))])) rfl (hb hby d6_59)) ?_
            show Done p e below s _ _ _ (s₁.setTop (mkF m 62 #[.val (.int p1), .val (.long (((1 : Int64) * (10 : Int64)) * (100 : Int64))), .second] [(.long (100000000 : Int64)), (.long (((1 : Int64) * (10 : Int64)) * (100 : Int64)))]))
            refine Done.step (fun t k => XS.lmul X0.here hx rfl (hb hby d6_62) rfl k) ?_
            show Done p e below s _ _ _ (s₁.setTop (mkF m 63 #[.val (.int p1), .val (.long (((1 : Int64) * (10 : Int64)) * (100 : Int64))), .second] [(.long ((((1 : Int64) * (10 : Int64)) * (100 : Int64)) * (100000000 : Int64)))]))
            refine Done.step (fun t k => XS.lstoreN X0.here hx rfl (hb hby d6_63) rfl (l' := #[.val (.int p1), .val (.long ((((1 : Int64) * (10 : Int64)) * (100 : Int64)) * (100000000 : Int64))), .second]) rfl k) ?_
            show Done p e below s _ _ _ (s₁.setTop (mkF m 64 #[.val (.int p1), .val (.long ((((1 : Int64) * (10 : Int64)) * (100 : Int64)) * (100000000 : Int64))), .second] []))
            refine Done.step (fun t k => XS.lloadN X0.here hx rfl (hb hby d6_64) rfl k) ?_
            show Done p e below s _ _ _ (s₁.setTop (mkF m 65 #[.val (.int p1), .val (.long ((((1 : Int64) * (10 : Int64)) * (100 : Int64)) * (100000000 : Int64))), .second] [(.long ((((1 : Int64) * (10 : Int64)) * (100 : Int64)) * (100000000 : Int64)))]))
            refine Done.step (X0.ldc2Long hx hown (mvT hZ (hw _ (List.mem_of_getElem? (i := 29) rfl))) (g := (mkF m 65 #[.val (.int p1), .val (.long ((((1 : Int64) * (10 : Int64)) * (100 : Int64)) * (100000000 : Int64))), .second] [(.long ((((1 : Int64) * (10 : Int64)) * (100 : Int64)) * (100000000 : Int64)))])) rfl (hb hby d6_65)) ?_
            show Done p e below s _ _ _ (s₁.setTop (mkF m 68 #[.val (.int p1), .val (.long ((((1 : Int64) * (10 : Int64)) * (100 : Int64)) * (100000000 : Int64))), .second] [(.long (100000000 : Int64)), (.long ((((1 : Int64) * (10 : Int64)) * (100 : Int64)) * (100000000 : Int64)))]))
            refine Done.step (fun t k => XS.lmul X0.here hx rfl (hb hby d6_68) rfl k) ?_
            show Done p e below s _ _ _ (s₁.setTop (mkF m 69 #[.val (.int p1), .val (.long ((((1 : Int64) * (10 : Int64)) * (100 : Int64)) * (100000000 : Int64))), .second] [(.long (((((1 : Int64) * (10 : Int64)) * (100 : Int64)) * (100000000 : Int64)) * (100000000 : Int64)))]))
            refine Done.step (fun t k => XS.lstoreN X0.here hx rfl (hb hby d6_69) rfl (l' := #[.val (.int p1), .val (.long (((((1 : Int64) * (10 : Int64)) * (100 : Int64)) * (100000000 : Int64)) * (100000000 : Int64))), .second]) rfl k) ?_
            show Done p e below s _ _ _ (s₁.setTop (mkF m 70 #[.val (.int p1), .val (.long (((((1 : Int64) * (10 : Int64)) * (100 : Int64)) * (100000000 : Int64)) * (100000000 : Int64))), .second] []))
            refine Done.step (fun t k => XS.lloadN X0.here hx rfl (hb hby d6_70) rfl k) ?_
            show Done p e below s _ _ _ (s₁.setTop (mkF m 71 #[.val (.int p1), .val (.long (((((1 : Int64) * (10 : Int64)) * (100 : Int64)) * (100000000 : Int64)) * (100000000 : Int64))), .second] [(.long (((((1 : Int64) * (10 : Int64)) * (100 : Int64)) * (100000000 : Int64)) * (100000000 : Int64)))]))
            exact Done.long X0 hx hlk hret (hb hby d6_71) (by decide) (by decide) ⟨by rw [show F6 p1 = (((((1 : Int64) * (10 : Int64)) * (100 : Int64)) * (100000000 : Int64)) * (100000000 : Int64)) from by unfold F6; rw [if_neg c1, if_neg c17, if_pos c25, if_pos c26, if_neg c27]] <;> rfl, N0, e0⟩
        · refine Done.step (fun t k => XS.ifNo X0.here hx rfl (hb hby d6_42) rfl ((if0 _ _).trans (feq c26).1) k) ?_
          show Done p e below s _ _ _ (s₁.setTop (mkF m 45 #[.val (.int p1), .val (.long (((1 : Int64) * (10 : Int64)) * (100 : Int64))), .second] []))
          refine Done.step (fun t k => XS.lloadN X0.here hx rfl (hb hby d6_45) rfl k) ?_
          show Done p e below s _ _ _ (s₁.setTop (mkF m 46 #[.val (.int p1), .val (.long (((1 : Int64) * (10 : Int64)) * (100 : Int64))), .second] [(.long (((1 : Int64) * (10 : Int64)) * (100 : Int64)))]))
          refine Done.step (X0.ldc2Long hx hown (mvT hZ (hw _ (List.mem_of_getElem? (i := 29) rfl))) (g := (mkF m 46 #[.val (.int p1), .val (.long (((1 : Int64) * (10 : Int64)) * (100 : Int64))), .second] [(.long (((1 : Int64) * (10 : Int64)) * (100 : Int64)))])) rfl (hb hby d6_46)) ?_
          show Done p e below s _ _ _ (s₁.setTop (mkF m 49 #[.val (.int p1), .val (.long (((1 : Int64) * (10 : Int64)) * (100 : Int64))), .second] [(.long (100000000 : Int64)), (.long (((1 : Int64) * (10 : Int64)) * (100 : Int64)))]))
          refine Done.step (fun t k => XS.lmul X0.here hx rfl (hb hby d6_49) rfl k) ?_
          show Done p e below s _ _ _ (s₁.setTop (mkF m 50 #[.val (.int p1), .val (.long (((1 : Int64) * (10 : Int64)) * (100 : Int64))), .second] [(.long ((((1 : Int64) * (10 : Int64)) * (100 : Int64)) * (100000000 : Int64)))]))
          refine Done.step (fun t k => XS.lstoreN X0.here hx rfl (hb hby d6_50) rfl (l' := #[.val (.int p1), .val (.long ((((1 : Int64) * (10 : Int64)) * (100 : Int64)) * (100000000 : Int64))), .second]) rfl k) ?_
          show Done p e below s _ _ _ (s₁.setTop (mkF m 51 #[.val (.int p1), .val (.long ((((1 : Int64) * (10 : Int64)) * (100 : Int64)) * (100000000 : Int64))), .second] []))
          refine Done.step (fun t k => XS.iloadN X0.here hx rfl (hb hby d6_51) rfl k) ?_
          show Done p e below s _ _ _ (s₁.setTop (mkF m 52 #[.val (.int p1), .val (.long ((((1 : Int64) * (10 : Int64)) * (100 : Int64)) * (100000000 : Int64))), .second] [(.int p1)]))
          refine Done.step (fun t k => XS.bipush X0.here hx rfl (hb hby d6_52) k) ?_
          show Done p e below s _ _ _ (s₁.setTop (mkF m 54 #[.val (.int p1), .val (.long ((((1 : Int64) * (10 : Int64)) * (100 : Int64)) * (100000000 : Int64))), .second] [(.int (16 : Int32)), (.int p1)]))
          refine Done.step (fun t k => XS.iand X0.here hx rfl (hb hby d6_54) rfl k) ?_
          show Done p e below s _ _ _ (s₁.setTop (mkF m 55 #[.val (.int p1), .val (.long ((((1 : Int64) * (10 : Int64)) * (100 : Int64)) * (100000000 : Int64))), .second] [(.int (p1 &&& (16 : Int32)))]))
          by_cases c28 : (p1 &&& (16 : Int32)) = (0 : Int32)
          · refine Done.step (fun t k => XS.ifYes X0.here hx rfl (pc0 := 55) (pc' := 70) rfl (hb hby d6_55) rfl ((if0 _ _).trans (teq c28).1) (by decide) (by decide) k) ?_
            show Done p e below s _ _ _ (s₁.setTop (mkF m 70 #[.val (.int p1), .val (.long ((((1 : Int64) * (10 : Int64)) * (100 : Int64)) * (100000000 : Int64))), .second] []))
            refine Done.step (fun t k => XS.lloadN X0.here hx rfl (hb hby d6_70) rfl k) ?_
            show Done p e below s _ _ _ (s₁.setTop (mkF m 71 #[.val (.int p1), .val (.long ((((1 : Int64) * (10 : Int64)) * (100 : Int64)) * (100000000 : Int64))), .second] [(.long ((((1 : Int64) * (10 : Int64)) * (100 : Int64)) * (100000000 : Int64)))]))
            exact Done.long X0 hx hlk hret (hb hby d6_71) (by decide) (by decide) ⟨by rw [show F6 p1 = ((((1 : Int64) * (10 : Int64)) * (100 : Int64)) * (100000000 : Int64)) from by unfold F6; rw [if_neg c1, if_neg c17, if_pos c25, if_neg c26, if_pos c28]] <;> rfl, N0, e0⟩
          · refine Done.step (fun t k => XS.ifNo X0.here hx rfl (hb hby d6_55) rfl ((if0 _ _).trans (feq c28).1) k) ?_
            show Done p e below s _ _ _ (s₁.setTop (mkF m 58 #[.val (.int p1), .val (.long ((((1 : Int64) * (10 : Int64)) * (100 : Int64)) * (100000000 : Int64))), .second] []))
            refine Done.step (fun t k => XS.lloadN X0.here hx rfl (hb hby d6_58) rfl k) ?_
            show Done p e below s _ _ _ (s₁.setTop (mkF m 59 #[.val (.int p1), .val (.long ((((1 : Int64) * (10 : Int64)) * (100 : Int64)) * (100000000 : Int64))), .second] [(.long ((((1 : Int64) * (10 : Int64)) * (100 : Int64)) * (100000000 : Int64)))]))
            refine Done.step (X0.ldc2Long hx hown (mvT hZ (hw _ (List.mem_of_getElem? (i := 29) rfl))) (g := (mkF m 59 #[.val (.int p1), .val (.long ((((1 : Int64) * (10 : Int64)) * (100 : Int64)) * (100000000 : Int64))), .second] [(.long ((((1 : Int64) * (10 : Int64)) * (100 : Int64)) * (100000000 : Int64)))])) rfl (hb hby d6_59)) ?_
            show Done p e below s _ _ _ (s₁.setTop (mkF m 62 #[.val (.int p1), .val (.long ((((1 : Int64) * (10 : Int64)) * (100 : Int64)) * (100000000 : Int64))), .second] [(.long (100000000 : Int64)), (.long ((((1 : Int64) * (10 : Int64)) * (100 : Int64)) * (100000000 : Int64)))]))
            refine Done.step (fun t k => XS.lmul X0.here hx rfl (hb hby d6_62) rfl k) ?_
            show Done p e below s _ _ _ (s₁.setTop (mkF m 63 #[.val (.int p1), .val (.long ((((1 : Int64) * (10 : Int64)) * (100 : Int64)) * (100000000 : Int64))), .second] [(.long (((((1 : Int64) * (10 : Int64)) * (100 : Int64)) * (100000000 : Int64)) * (100000000 : Int64)))]))
            refine Done.step (fun t k => XS.lstoreN X0.here hx rfl (hb hby d6_63) rfl (l' := #[.val (.int p1), .val (.long (((((1 : Int64) * (10 : Int64)) * (100 : Int64)) * (100000000 : Int64)) * (100000000 : Int64))), .second]) rfl k) ?_
            show Done p e below s _ _ _ (s₁.setTop (mkF m 64 #[.val (.int p1), .val (.long (((((1 : Int64) * (10 : Int64)) * (100 : Int64)) * (100000000 : Int64)) * (100000000 : Int64))), .second] []))
            refine Done.step (fun t k => XS.lloadN X0.here hx rfl (hb hby d6_64) rfl k) ?_
            show Done p e below s _ _ _ (s₁.setTop (mkF m 65 #[.val (.int p1), .val (.long (((((1 : Int64) * (10 : Int64)) * (100 : Int64)) * (100000000 : Int64)) * (100000000 : Int64))), .second] [(.long (((((1 : Int64) * (10 : Int64)) * (100 : Int64)) * (100000000 : Int64)) * (100000000 : Int64)))]))
            refine Done.step (X0.ldc2Long hx hown (mvT hZ (hw _ (List.mem_of_getElem? (i := 29) rfl))) (g := (mkF m 65 #[.val (.int p1), .val (.long (((((1 : Int64) * (10 : Int64)) * (100 : Int64)) * (100000000 : Int64)) * (100000000 : Int64))), .second] [(.long (((((1 : Int64) * (10 : Int64)) * (100 : Int64)) * (100000000 : Int64)) * (100000000 : Int64)))])) rfl (hb hby d6_65)) ?_
            show Done p e below s _ _ _ (s₁.setTop (mkF m 68 #[.val (.int p1), .val (.long (((((1 : Int64) * (10 : Int64)) * (100 : Int64)) * (100000000 : Int64)) * (100000000 : Int64))), .second] [(.long (100000000 : Int64)), (.long (((((1 : Int64) * (10 : Int64)) * (100 : Int64)) * (100000000 : Int64)) * (100000000 : Int64)))]))
            refine Done.step (fun t k => XS.lmul X0.here hx rfl (hb hby d6_68) rfl k) ?_
            show Done p e below s _ _ _ (s₁.setTop (mkF m 69 #[.val (.int p1), .val (.long (((((1 : Int64) * (10 : Int64)) * (100 : Int64)) * (100000000 : Int64)) * (100000000 : Int64))), .second] [(.long ((((((1 : Int64) * (10 : Int64)) * (100 : Int64)) * (100000000 : Int64)) * (100000000 : Int64)) * (100000000 : Int64)))]))
            refine Done.step (fun t k => XS.lstoreN X0.here hx rfl (hb hby d6_69) rfl (l' := #[.val (.int p1), .val (.long ((((((1 : Int64) * (10 : Int64)) * (100 : Int64)) * (100000000 : Int64)) * (100000000 : Int64)) * (100000000 : Int64))), .second]) rfl k) ?_
            show Done p e below s _ _ _ (s₁.setTop (mkF m 70 #[.val (.int p1), .val (.long ((((((1 : Int64) * (10 : Int64)) * (100 : Int64)) * (100000000 : Int64)) * (100000000 : Int64)) * (100000000 : Int64))), .second] []))
            refine Done.step (fun t k => XS.lloadN X0.here hx rfl (hb hby d6_70) rfl k) ?_
            show Done p e below s _ _ _ (s₁.setTop (mkF m 71 #[.val (.int p1), .val (.long ((((((1 : Int64) * (10 : Int64)) * (100 : Int64)) * (100000000 : Int64)) * (100000000 : Int64)) * (100000000 : Int64))), .second] [(.long ((((((1 : Int64) * (10 : Int64)) * (100 : Int64)) * (100000000 : Int64)) * (100000000 : Int64)) * (100000000 : Int64)))]))
            exact Done.long X0 hx hlk hret (hb hby d6_71) (by decide) (by decide) ⟨by rw [show F6 p1 = ((((((1 : Int64) * (10 : Int64)) * (100 : Int64)) * (100000000 : Int64)) * (100000000 : Int64)) * (100000000 : Int64)) from by unfold F6; rw [if_neg c1, if_neg c17, if_pos c25, if_neg c26, if_neg c28]] <;> rfl, N0, e0⟩
      · refine Done.step (fun t k => XS.ifNo X0.here hx rfl (hb hby d6_29) rfl ((if0 _ _).trans (feq c25).1) k) ?_
        show Done p e below s _ _ _ (s₁.setTop (mkF m 32 #[.val (.int p1), .val (.long (((1 : Int64) * (10 : Int64)) * (100 : Int64))), .second] []))
        refine Done.step (fun t k => XS.lloadN X0.here hx rfl (hb hby d6_32) rfl k) ?_
        show Done p e below s _ _ _ (s₁.setTop (mkF m 33 #[.val (.int p1), .val (.long (((1 : Int64) * (10 : Int64)) * (100 : Int64))), .second] [(.long (((1 : Int64) * (10 : Int64)) * (100 : Int64)))]))
        refine Done.step (X0.ldc2Long hx hown (mvT hZ (hw _ (List.mem_of_getElem? (i := 30) rfl))) (g := (mkF m 33 #[.val (.int p1), .val (.long (((1 : Int64) * (10 : Int64)) * (100 : Int64))), .second] [(.long (((1 : Int64) * (10 : Int64)) * (100 : Int64)))])) rfl (hb hby d6_33)) ?_
        show Done p e below s _ _ _ (s₁.setTop (mkF m 36 #[.val (.int p1), .val (.long (((1 : Int64) * (10 : Int64)) * (100 : Int64))), .second] [(.long (10000 : Int64)), (.long (((1 : Int64) * (10 : Int64)) * (100 : Int64)))]))
        refine Done.step (fun t k => XS.lmul X0.here hx rfl (hb hby d6_36) rfl k) ?_
        show Done p e below s _ _ _ (s₁.setTop (mkF m 37 #[.val (.int p1), .val (.long (((1 : Int64) * (10 : Int64)) * (100 : Int64))), .second] [(.long ((((1 : Int64) * (10 : Int64)) * (100 : Int64)) * (10000 : Int64)))]))
        refine Done.step (fun t k => XS.lstoreN X0.here hx rfl (hb hby d6_37) rfl (l' := #[.val (.int p1), .val (.long ((((1 : Int64) * (10 : Int64)) * (100 : Int64)) * (10000 : Int64))), .second]) rfl k) ?_
        show Done p e below s _ _ _ (s₁.setTop (mkF m 38 #[.val (.int p1), .val (.long ((((1 : Int64) * (10 : Int64)) * (100 : Int64)) * (10000 : Int64))), .second] []))
        refine Done.step (fun t k => XS.iloadN X0.here hx rfl (hb hby d6_38) rfl k) ?_
        show Done p e below s _ _ _ (s₁.setTop (mkF m 39 #[.val (.int p1), .val (.long ((((1 : Int64) * (10 : Int64)) * (100 : Int64)) * (10000 : Int64))), .second] [(.int p1)]))
        refine Done.step (fun t k => XS.bipush X0.here hx rfl (hb hby d6_39) k) ?_
        show Done p e below s _ _ _ (s₁.setTop (mkF m 41 #[.val (.int p1), .val (.long ((((1 : Int64) * (10 : Int64)) * (100 : Int64)) * (10000 : Int64))), .second] [(.int (8 : Int32)), (.int p1)]))
        refine Done.step (fun t k => XS.iand X0.here hx rfl (hb hby d6_41) rfl k) ?_
        show Done p e below s _ _ _ (s₁.setTop (mkF m 42 #[.val (.int p1), .val (.long ((((1 : Int64) * (10 : Int64)) * (100 : Int64)) * (10000 : Int64))), .second] [(.int (p1 &&& (8 : Int32)))]))
        by_cases c29 : (p1 &&& (8 : Int32)) = (0 : Int32)
        · refine Done.step (fun t k => XS.ifYes X0.here hx rfl (pc0 := 42) (pc' := 51) rfl (hb hby d6_42) rfl ((if0 _ _).trans (teq c29).1) (by decide) (by decide) k) ?_
          show Done p e below s _ _ _ (s₁.setTop (mkF m 51 #[.val (.int p1), .val (.long ((((1 : Int64) * (10 : Int64)) * (100 : Int64)) * (10000 : Int64))), .second] []))
          refine Done.step (fun t k => XS.iloadN X0.here hx rfl (hb hby d6_51) rfl k) ?_
          show Done p e below s _ _ _ (s₁.setTop (mkF m 52 #[.val (.int p1), .val (.long ((((1 : Int64) * (10 : Int64)) * (100 : Int64)) * (10000 : Int64))), .second] [(.int p1)]))
          refine Done.step (fun t k => XS.bipush X0.here hx rfl (hb hby d6_52) k) ?_
          show Done p e below s _ _ _ (s₁.setTop (mkF m 54 #[.val (.int p1), .val (.long ((((1 : Int64) * (10 : Int64)) * (100 : Int64)) * (10000 : Int64))), .second] [(.int (16 : Int32)), (.int p1)]))
          refine Done.step (fun t k => XS.iand X0.here hx rfl (hb hby d6_54) rfl k) ?_
          show Done p e below s _ _ _ (s₁.setTop (mkF m 55 #[.val (.int p1), .val (.long ((((1 : Int64) * (10 : Int64)) * (100 : Int64)) * (10000 : Int64))), .second] [(.int (p1 &&& (16 : Int32)))]))
          by_cases c30 : (p1 &&& (16 : Int32)) = (0 : Int32)
          · refine Done.step (fun t k => XS.ifYes X0.here hx rfl (pc0 := 55) (pc' := 70) rfl (hb hby d6_55) rfl ((if0 _ _).trans (teq c30).1) (by decide) (by decide) k) ?_
            show Done p e below s _ _ _ (s₁.setTop (mkF m 70 #[.val (.int p1), .val (.long ((((1 : Int64) * (10 : Int64)) * (100 : Int64)) * (10000 : Int64))), .second] []))
            refine Done.step (fun t k => XS.lloadN X0.here hx rfl (hb hby d6_70) rfl k) ?_
            show Done p e below s _ _ _ (s₁.setTop (mkF m 71 #[.val (.int p1), .val (.long ((((1 : Int64) * (10 : Int64)) * (100 : Int64)) * (10000 : Int64))), .second] [(.long ((((1 : Int64) * (10 : Int64)) * (100 : Int64)) * (10000 : Int64)))]))
            exact Done.long X0 hx hlk hret (hb hby d6_71) (by decide) (by decide) ⟨by rw [show F6 p1 = ((((1 : Int64) * (10 : Int64)) * (100 : Int64)) * (10000 : Int64)) from by unfold F6; rw [if_neg c1, if_neg c17, if_neg c25, if_pos c29, if_pos c30]] <;> rfl, N0, e0⟩
          · refine Done.step (fun t k => XS.ifNo X0.here hx rfl (hb hby d6_55) rfl ((if0 _ _).trans (feq c30).1) k) ?_
            show Done p e below s _ _ _ (s₁.setTop (mkF m 58 #[.val (.int p1), .val (.long ((((1 : Int64) * (10 : Int64)) * (100 : Int64)) * (10000 : Int64))), .second] []))
            refine Done.step (fun t k => XS.lloadN X0.here hx rfl (hb hby d6_58) rfl k) ?_
            show Done p e below s _ _ _ (s₁.setTop (mkF m 59 #[.val (.int p1), .val (.long ((((1 : Int64) * (10 : Int64)) * (100 : Int64)) * (10000 : Int64))), .second] [(.long ((((1 : Int64) * (10 : Int64)) * (100 : Int64)) * (10000 : Int64)))]))
            refine Done.step (X0.ldc2Long hx hown (mvT hZ (hw _ (List.mem_of_getElem? (i := 29) rfl))) (g := (mkF m 59 #[.val (.int p1), .val (.long ((((1 : Int64) * (10 : Int64)) * (100 : Int64)) * (10000 : Int64))), .second] [(.long ((((1 : Int64) * (10 : Int64)) * (100 : Int64)) * (10000 : Int64)))])) rfl (hb hby d6_59)) ?_
            show Done p e below s _ _ _ (s₁.setTop (mkF m 62 #[.val (.int p1), .val (.long ((((1 : Int64) * (10 : Int64)) * (100 : Int64)) * (10000 : Int64))), .second] [(.long (100000000 : Int64)), (.long ((((1 : Int64) * (10 : Int64)) * (100 : Int64)) * (10000 : Int64)))]))
            refine Done.step (fun t k => XS.lmul X0.here hx rfl (hb hby d6_62) rfl k) ?_
            show Done p e below s _ _ _ (s₁.setTop (mkF m 63 #[.val (.int p1), .val (.long ((((1 : Int64) * (10 : Int64)) * (100 : Int64)) * (10000 : Int64))), .second] [(.long (((((1 : Int64) * (10 : Int64)) * (100 : Int64)) * (10000 : Int64)) * (100000000 : Int64)))]))
            refine Done.step (fun t k => XS.lstoreN X0.here hx rfl (hb hby d6_63) rfl (l' := #[.val (.int p1), .val (.long (((((1 : Int64) * (10 : Int64)) * (100 : Int64)) * (10000 : Int64)) * (100000000 : Int64))), .second]) rfl k) ?_
            show Done p e below s _ _ _ (s₁.setTop (mkF m 64 #[.val (.int p1), .val (.long (((((1 : Int64) * (10 : Int64)) * (100 : Int64)) * (10000 : Int64)) * (100000000 : Int64))), .second] []))
            refine Done.step (fun t k => XS.lloadN X0.here hx rfl (hb hby d6_64) rfl k) ?_
            show Done p e below s _ _ _ (s₁.setTop (mkF m 65 #[.val (.int p1), .val (.long (((((1 : Int64) * (10 : Int64)) * (100 : Int64)) * (10000 : Int64)) * (100000000 : Int64))), .second] [(.long (((((1 : Int64) * (10 : Int64)) * (100 : Int64)) * (10000 : Int64)) * (100000000 : Int64)))]))
            refine Done.step (X0.ldc2Long hx hown (mvT hZ (hw _ (List.mem_of_getElem? (i := 29) rfl))) (g := (mkF m 65 #[.val (.int p1), .val (.long (((((1 : Int64) * (10 : Int64)) * (100 : Int64)) * (10000 : Int64)) * (100000000 : Int64))), .second] [(.long (((((1 : Int64) * (10 : Int64)) * (100 : Int64)) * (10000 : Int64)) * (100000000 : Int64)))])) rfl (hb hby d6_65)) ?_
            show Done p e below s _ _ _ (s₁.setTop (mkF m 68 #[.val (.int p1), .val (.long (((((1 : Int64) * (10 : Int64)) * (100 : Int64)) * (10000 : Int64)) * (100000000 : Int64))), .second] [(.long (100000000 : Int64)), (.long (((((1 : Int64) * (10 : Int64)) * (100 : Int64)) * (10000 : Int64)) * (100000000 : Int64)))]))
            refine Done.step (fun t k => XS.lmul X0.here hx rfl (hb hby d6_68) rfl k) ?_
            show Done p e below s _ _ _ (s₁.setTop (mkF m 69 #[.val (.int p1), .val (.long (((((1 : Int64) * (10 : Int64)) * (100 : Int64)) * (10000 : Int64)) * (100000000 : Int64))), .second] [(.long ((((((1 : Int64) * (10 : Int64)) * (100 : Int64)) * (10000 : Int64)) * (100000000 : Int64)) * (100000000 : Int64)))]))
            refine Done.step (fun t k => XS.lstoreN X0.here hx rfl (hb hby d6_69) rfl (l' := #[.val (.int p1), .val (.long ((((((1 : Int64) * (10 : Int64)) * (100 : Int64)) * (10000 : Int64)) * (100000000 : Int64)) * (100000000 : Int64))), .second]) rfl k) ?_
            show Done p e below s _ _ _ (s₁.setTop (mkF m 70 #[.val (.int p1), .val (.long ((((((1 : Int64) * (10 : Int64)) * (100 : Int64)) * (10000 : Int64)) * (100000000 : Int64)) * (100000000 : Int64))), .second] []))
            refine Done.step (fun t k => XS.lloadN X0.here hx rfl (hb hby d6_70) rfl k) ?_
            show Done p e below s _ _ _ (s₁.setTop (mkF m 71 #[.val (.int p1), .val (.long ((((((1 : Int64) * (10 : Int64)) * (100 : Int64)) * (10000 : Int64)) * (100000000 : Int64)) * (100000000 : Int64))), .second] [(.long ((((((1 : Int64) * (10 : Int64)) * (100 : Int64)) * (10000 : Int64)) * (100000000 : Int64)) * (100000000 : Int64)))]))
            exact Done.long X0 hx hlk hret (hb hby d6_71) (by decide) (by decide) ⟨by rw [show F6 p1 = ((((((1 : Int64) * (10 : Int64)) * (100 : Int64)) * (10000 : Int64)) * (100000000 : Int64)) * (100000000 : Int64)) from by unfold F6; rw [if_neg c1, if_neg c17, if_neg c25, if_pos c29, if_neg c30]] <;> rfl, N0, e0⟩
        · refine Done.step (fun t k => XS.ifNo X0.here hx rfl (hb hby d6_42) rfl ((if0 _ _).trans (feq c29).1) k) ?_
          show Done p e below s _ _ _ (s₁.setTop (mkF m 45 #[.val (.int p1), .val (.long ((((1 : Int64) * (10 : Int64)) * (100 : Int64)) * (10000 : Int64))), .second] []))
          refine Done.step (fun t k => XS.lloadN X0.here hx rfl (hb hby d6_45) rfl k) ?_
          show Done p e below s _ _ _ (s₁.setTop (mkF m 46 #[.val (.int p1), .val (.long ((((1 : Int64) * (10 : Int64)) * (100 : Int64)) * (10000 : Int64))), .second] [(.long ((((1 : Int64) * (10 : Int64)) * (100 : Int64)) * (10000 : Int64)))]))
          refine Done.step (X0.ldc2Long hx hown (mvT hZ (hw _ (List.mem_of_getElem? (i := 29) rfl))) (g := (mkF m 46 #[.val (.int p1), .val (.long ((((1 : Int64) * (10 : Int64)) * (100 : Int64)) * (10000 : Int64))), .second] [(.long ((((1 : Int64) * (10 : Int64)) * (100 : Int64)) * (10000 : Int64)))])) rfl (hb hby d6_46)) ?_
          show Done p e below s _ _ _ (s₁.setTop (mkF m 49 #[.val (.int p1), .val (.long ((((1 : Int64) * (10 : Int64)) * (100 : Int64)) * (10000 : Int64))), .second] [(.long (100000000 : Int64)), (.long ((((1 : Int64) * (10 : Int64)) * (100 : Int64)) * (10000 : Int64)))]))
          refine Done.step (fun t k => XS.lmul X0.here hx rfl (hb hby d6_49) rfl k) ?_
          show Done p e below s _ _ _ (s₁.setTop (mkF m 50 #[.val (.int p1), .val (.long ((((1 : Int64) * (10 : Int64)) * (100 : Int64)) * (10000 : Int64))), .second] [(.long (((((1 : Int64) * (10 : Int64)) * (100 : Int64)) * (10000 : Int64)) * (100000000 : Int64)))]))
          refine Done.step (fun t k => XS.lstoreN X0.here hx rfl (hb hby d6_50) rfl (l' := #[.val (.int p1), .val (.long (((((1 : Int64) * (10 : Int64)) * (100 : Int64)) * (10000 : Int64)) * (100000000 : Int64))), .second]) rfl k) ?_
          show Done p e below s _ _ _ (s₁.setTop (mkF m 51 #[.val (.int p1), .val (.long (((((1 : Int64) * (10 : Int64)) * (100 : Int64)) * (10000 : Int64)) * (100000000 : Int64))), .second] []))
          refine Done.step (fun t k => XS.iloadN X0.here hx rfl (hb hby d6_51) rfl k) ?_
          show Done p e below s _ _ _ (s₁.setTop (mkF m 52 #[.val (.int p1), .val (.long (((((1 : Int64) * (10 : Int64)) * (100 : Int64)) * (10000 : Int64)) * (100000000 : Int64))), .second] [(.int p1)]))
          refine Done.step (fun t k => XS.bipush X0.here hx rfl (hb hby d6_52) k) ?_
          show Done p e below s _ _ _ (s₁.setTop (mkF m 54 #[.val (.int p1), .val (.long (((((1 : Int64) * (10 : Int64)) * (100 : Int64)) * (10000 : Int64)) * (100000000 : Int64))), .second] [(.int (16 : Int32)), (.int p1)]))
          refine Done.step (fun t k => XS.iand X0.here hx rfl (hb hby d6_54) rfl k) ?_
          show Done p e below s _ _ _ (s₁.setTop (mkF m 55 #[.val (.int p1), .val (.long (((((1 : Int64) * (10 : Int64)) * (100 : Int64)) * (10000 : Int64)) * (100000000 : Int64))), .second] [(.int (p1 &&& (16 : Int32)))]))
          by_cases c31 : (p1 &&& (16 : Int32)) = (0 : Int32)
          · refine Done.step (fun t k => XS.ifYes X0.here hx rfl (pc0 := 55) (pc' := 70) rfl (hb hby d6_55) rfl ((if0 _ _).trans (teq c31).1) (by decide) (by decide) k) ?_
            show Done p e below s _ _ _ (s₁.setTop (mkF m 70 #[.val (.int p1), .val (.long (((((1 : Int64) * (10 : Int64)) * (100 : Int64)) * (10000 : Int64)) * (100000000 : Int64))), .second] []))
            refine Done.step (fun t k => XS.lloadN X0.here hx rfl (hb hby d6_70) rfl k) ?_
            show Done p e below s _ _ _ (s₁.setTop (mkF m 71 #[.val (.int p1), .val (.long (((((1 : Int64) * (10 : Int64)) * (100 : Int64)) * (10000 : Int64)) * (100000000 : Int64))), .second] [(.long (((((1 : Int64) * (10 : Int64)) * (100 : Int64)) * (10000 : Int64)) * (100000000 : Int64)))]))
            exact Done.long X0 hx hlk hret (hb hby d6_71) (by decide) (by decide) ⟨by rw [show F6 p1 = (((((1 : Int64) * (10 : Int64)) * (100 : Int64)) * (10000 : Int64)) * (100000000 : Int64)) from by unfold F6; rw [if_neg c1, if_neg c17, if_neg c25, if_neg c29, if_pos c31]] <;> rfl, N0, e0⟩
          · refine Done.step (fun t k => XS.ifNo X0.here hx rfl (hb hby d6_55) rfl ((if0 _ _).trans (feq c31).1) k) ?_
            show Done p e below s _ _ _ (s₁.setTop (mkF m 58 #[.val (.int p1), .val (.long (((((1 : Int64) * (10 : Int64)) * (100 : Int64)) * (10000 : Int64)) * (100000000 : Int64))), .second] []))
            refine Done.step (fun t k => XS.lloadN X0.here hx rfl (hb hby d6_58) rfl k) ?_
            show Done p e below s _ _ _ (s₁.setTop (mkF m 59 #[.val (.int p1), .val (.long (((((1 : Int64) * (10 : Int64)) * (100 : Int64)) * (10000 : Int64)) * (100000000 : Int64))), .second] [(.long (((((1 : Int64) * (10 : Int64)) * (100 : Int64)) * (10000 : Int64)) * (100000000 : Int64)))]))
            refine Done.step (X0.ldc2Long hx hown (mvT hZ (hw _ (List.mem_of_getElem? (i := 29) rfl))) (g := (mkF m 59 #[.val (.int p1), .val (.long (((((1 : Int64) * (10 : Int64)) * (100 : Int64)) * (10000 : Int64)) * (100000000 : Int64))), .second] [(.long (((((1 : Int64) * (10 : Int64)) * (100 : Int64)) * (10000 : Int64)) * (100000000 : Int64)))])) rfl (hb hby d6_59)) ?_
            show Done p e below s _ _ _ (s₁.setTop (mkF m 62 #[.val (.int p1), .val (.long (((((1 : Int64) * (10 : Int64)) * (100 : Int64)) * (10000 : Int64)) * (100000000 : Int64))), .second] [(.long (100000000 : Int64)), (.long (((((1 : Int64) * (10 : Int64)) * (100 : Int64)) * (10000 : Int64)) * (100000000 : Int64)))]))
            refine Done.step (fun t k => XS.lmul X0.here hx rfl (hb hby d6_62) rfl k) ?_
            show Done p e below s _ _ _ (s₁.setTop (mkF m 63 #[.val (.int p1), .val (.long (((((1 : Int64) * (10 : Int64)) * (100 : Int64)) * (10000 : Int64)) * (100000000 : Int64))), .second] [(.long ((((((1 : Int64) * (10 : Int64)) * (100 : Int64)) * (10000 : Int64)) * (100000000 : Int64)) * (100000000 : Int64)))]))
            refine Done.step (fun t k => XS.lstoreN X0.here hx rfl (hb hby d6_63) rfl (l' := #[.val (.int p1), .val (.long ((((((1 : Int64) * (10 : Int64)) * (100 : Int64)) * (10000 : Int64)) * (100000000 : Int64)) * (100000000 : Int64))), .second]) rfl k) ?_
            show Done p e below s _ _ _ (s₁.setTop (mkF m 64 #[.val (.int p1), .val (.long ((((((1 : Int64) * (10 : Int64)) * (100 : Int64)) * (10000 : Int64)) * (100000000 : Int64)) * (100000000 : Int64))), .second] []))
            refine Done.step (fun t k => XS.lloadN X0.here hx rfl (hb hby d6_64) rfl k) ?_
            show Done p e below s _ _ _ (s₁.setTop (mkF m 65 #[.val (.int p1), .val (.long ((((((1 : Int64) * (10 : Int64)) * (100 : Int64)) * (10000 : Int64)) * (100000000 : Int64)) * (100000000 : Int64))), .second] [(.long ((((((1 : Int64) * (10 : Int64)) * (100 : Int64)) * (10000 : Int64)) * (100000000 : Int64)) * (100000000 : Int64)))]))
            refine Done.step (X0.ldc2Long hx hown (mvT hZ (hw _ (List.mem_of_getElem? (i := 29) rfl))) (g := (mkF m 65 #[.val (.int p1), .val (.long ((((((1 : Int64) * (10 : Int64)) * (100 : Int64)) * (10000 : Int64)) * (100000000 : Int64)) * (100000000 : Int64))), .second] [(.long ((((((1 : Int64) * (10 : Int64)) * (100 : Int64)) * (10000 : Int64)) * (100000000 : Int64)) * (100000000 : Int64)))])) rfl (hb hby d6_65)) ?_
            show Done p e below s _ _ _ (s₁.setTop (mkF m 68 #[.val (.int p1), .val (.long ((((((1 : Int64) * (10 : Int64)) * (100 : Int64)) * (10000 : Int64)) * (100000000 : Int64)) * (100000000 : Int64))), .second] [(.long (100000000 : Int64)), (.long ((((((1 : Int64) * (10 : Int64)) * (100 : Int64)) * (10000 : Int64)) * (100000000 : Int64)) * (100000000 : Int64)))]))
            refine Done.step (fun t k => XS.lmul X0.here hx rfl (hb hby d6_68) rfl k) ?_
            show Done p e below s _ _ _ (s₁.setTop (mkF m 69 #[.val (.int p1), .val (.long ((((((1 : Int64) * (10 : Int64)) * (100 : Int64)) * (10000 : Int64)) * (100000000 : Int64)) * (100000000 : Int64))), .second] [(.long (((((((1 : Int64) * (10 : Int64)) * (100 : Int64)) * (10000 : Int64)) * (100000000 : Int64)) * (100000000 : Int64)) * (100000000 : Int64)))]))
            refine Done.step (fun t k => XS.lstoreN X0.here hx rfl (hb hby d6_69) rfl (l' := #[.val (.int p1), .val (.long (((((((1 : Int64) * (10 : Int64)) * (100 : Int64)) * (10000 : Int64)) * (100000000 : Int64)) * (100000000 : Int64)) * (100000000 : Int64))), .second]) rfl k) ?_
            show Done p e below s _ _ _ (s₁.setTop (mkF m 70 #[.val (.int p1), .val (.long (((((((1 : Int64) * (10 : Int64)) * (100 : Int64)) * (10000 : Int64)) * (100000000 : Int64)) * (100000000 : Int64)) * (100000000 : Int64))), .second] []))
            refine Done.step (fun t k => XS.lloadN X0.here hx rfl (hb hby d6_70) rfl k) ?_
            show Done p e below s _ _ _ (s₁.setTop (mkF m 71 #[.val (.int p1), .val (.long (((((((1 : Int64) * (10 : Int64)) * (100 : Int64)) * (10000 : Int64)) * (100000000 : Int64)) * (100000000 : Int64)) * (100000000 : Int64))), .second] [(.long (((((((1 : Int64) * (10 : Int64)) * (100 : Int64)) * (10000 : Int64)) * (100000000 : Int64)) * (100000000 : Int64)) * (100000000 : Int64)))]))
            exact Done.long X0 hx hlk hret (hb hby d6_71) (by decide) (by decide) ⟨by rw [show F6 p1 = (((((((1 : Int64) * (10 : Int64)) * (100 : Int64)) * (10000 : Int64)) * (100000000 : Int64)) * (100000000 : Int64)) * (100000000 : Int64)) from by unfold F6; rw [if_neg c1, if_neg c17, if_neg c25, if_neg c29, if_neg c31]] <;> rfl, N0, e0⟩
theorem d3_287 : decode method_6_code 287 = .ok (.iload 9, 2) := by decide +kernel
theorem d3_289 : decode method_6_code 289 = .ok (.ifCond .eq 9, 3) := by decide +kernel
theorem d3_292 : decode method_6_code 292 = .ok (.lload 11, 2) := by decide +kernel
theorem d3_294 : decode method_6_code 294 = .ok (.lneg, 1) := by decide +kernel
theorem d3_295 : decode method_6_code 295 = .ok (.goto 5, 3) := by decide +kernel
theorem d3_298 : decode method_6_code 298 = .ok (.lload 11, 2) := by decide +kernel
theorem d3_300 : decode method_6_code 300 = .ok (.lreturn, 1) := by decide +kernel
def X3_287 (p1 : Int32) (p2 : Int32) (p3 : Int32) (p4 : Int32) (p5 : Int32) (p6 : Int32) (i8 : Int32) (i9 : Int32) (i10 : Int32) (j11 : Int64) (i13 : Int32) (i14 : Int32) : Int64 := (if i9 = (0 : Int32) then j11
  else (-j11))
set_option maxRecDepth 65536 in
set_option maxHeartbeats 40000000 in
theorem blk3_287 {p : Program} {l : Launch} {e : Env} {s : State} {m : MethodId} {args : Array Value} {below : List Frame} {meth : Method} {c : Code} {T : State} {locs : List Loc} {Z : State} {a0 : Array Value} {h0 : Heap} {n0 : Nat} (p1 : Int32) (p2 : Int32) (p3 : Int32) (p4 : Int32) (p5 : Int32) (p6 : Int32) (i8 : Int32) (i9 : Int32) (i10 : Int32) (j11 : Int64) (i13 : Int32) (i14 : Int32) (s15 : Slot) (s16 : Slot) (s17 : Slot) (R : Int64)
    (X0 : Stand p l e ({ frames := 1, cells := 0, slots := 0, locals := 20 } : Room) s m args below meth c T locs 0 0) (hx : p.tables.exec = Jvm.exec) (hZ : Z.Warmed39 s.vm) (hw : ∀ d ∈ tables_1, d.before a0 Z = true) (hby : c.code = method_6_code) (hml : c.maxLocals = 18) (hown : s.vm.findClass "weirstream/engine/WrittenNumberShortWholePinLaw" = some m.cls) (hlk : meth.locks = false) (hret : meth.sig.returnType = (some .long : Option FieldType)) (hnm : meth.name = "expected") (N0 : Fr n0 locs) (Z0 : n0 ≤ h0.size) (e0 : T.heap = h0) (hR : X3_287 p1 p2 p3 p4 p5 p6 i8 i9 i10 j11 i13 i14 = R) :
    Done p e below s (fun v h L => v = some (.long R) ∧ Fr n0 L ∧ h = h0) ({ frames := 1, cells := 0, slots := 0, locals := 20 } : Room).cells ({ frames := 1, cells := 0, slots := 0, locals := 20 } : Room).slots (T.setTop (mkF m 287 #[.val (.int p1), .val (.int p2), .val (.int p3), .val (.int p4), .val (.int p5), .val (.int p6), .val (.long (-9223372036854775808 : Int64)), .second, .val (.int i8), .val (.int i9), .val (.int i10), .val (.long j11), .second, .val (.int i13), .val (.int i14), s15, s16, s17] [])) := by
  show Done p e below s _ _ _ (T.setTop (mkF m 287 #[.val (.int p1), .val (.int p2), .val (.int p3), .val (.int p4), .val (.int p5), .val (.int p6), .val (.long (-9223372036854775808 : Int64)), .second, .val (.int i8), .val (.int i9), .val (.int i10), .val (.long j11), .second, .val (.int i13), .val (.int i14), s15, s16, s17] []))
  refine Done.step (fun t k => XS.iload X0.here hx rfl (hb hby d3_287) rfl k) ?_
  show Done p e below s _ _ _ (T.setTop (mkF m 289 #[.val (.int p1), .val (.int p2), .val (.int p3), .val (.int p4), .val (.int p5), .val (.int p6), .val (.long (-9223372036854775808 : Int64)), .second, .val (.int i8), .val (.int i9), .val (.int i10), .val (.long j11), .second, .val (.int i13), .val (.int i14), s15, s16, s17] [(.int i9)]))
  by_cases c1 : i9 = (0 : Int32)
  · refine Done.step (fun t k => XS.ifYes X0.here hx rfl (pc0 := 289) (pc' := 298) rfl (hb hby d3_289) rfl ((if0 _ _).trans (teq c1).1) (by decide) (by decide) k) ?_
    show Done p e below s _ _ _ (T.setTop (mkF m 298 #[.val (.int p1), .val (.int p2), .val (.int p3), .val (.int p4), .val (.int p5), .val (.int p6), .val (.long (-9223372036854775808 : Int64)), .second, .val (.int i8), .val (.int i9), .val (.int i10), .val (.long j11), .second, .val (.int i13), .val (.int i14), s15, s16, s17] []))
    refine Done.step (fun t k => XS.lload X0.here hx rfl (hb hby d3_298) rfl k) ?_
    show Done p e below s _ _ _ (T.setTop (mkF m 300 #[.val (.int p1), .val (.int p2), .val (.int p3), .val (.int p4), .val (.int p5), .val (.int p6), .val (.long (-9223372036854775808 : Int64)), .second, .val (.int i8), .val (.int i9), .val (.int i10), .val (.long j11), .second, .val (.int i13), .val (.int i14), s15, s16, s17] [(.long j11)]))
    exact Done.long X0 hx hlk hret (hb hby d3_300) (by decide) (by decide) ⟨by rw [← hR, show X3_287 p1 p2 p3 p4 p5 p6 i8 i9 i10 j11 i13 i14 = j11 from by unfold X3_287; rw [if_pos c1]], N0, e0⟩
  · refine Done.step (fun t k => XS.ifNo X0.here hx rfl (hb hby d3_289) rfl ((if0 _ _).trans (feq c1).1) k) ?_
    show Done p e below s _ _ _ (T.setTop (mkF m 292 #[.val (.int p1), .val (.int p2), .val (.int p3), .val (.int p4), .val (.int p5), .val (.int p6), .val (.long (-9223372036854775808 : Int64)), .second, .val (.int i8), .val (.int i9), .val (.int i10), .val (.long j11), .second, .val (.int i13), .val (.int i14), s15, s16, s17] []))
    refine Done.step (fun t k => XS.lload X0.here hx rfl (hb hby d3_292) rfl k) ?_
    show Done p e below s _ _ _ (T.setTop (mkF m 294 #[.val (.int p1), .val (.int p2), .val (.int p3), .val (.int p4), .val (.int p5), .val (.int p6), .val (.long (-9223372036854775808 : Int64)), .second, .val (.int i8), .val (.int i9), .val (.int i10), .val (.long j11), .second, .val (.int i13), .val (.int i14), s15, s16, s17] [(.long j11)]))
    refine Done.step (fun t k => XS.lneg X0.here hx rfl (hb hby d3_294) rfl k) ?_
    show Done p e below s _ _ _ (T.setTop (mkF m 295 #[.val (.int p1), .val (.int p2), .val (.int p3), .val (.int p4), .val (.int p5), .val (.int p6), .val (.long (-9223372036854775808 : Int64)), .second, .val (.int i8), .val (.int i9), .val (.int i10), .val (.long j11), .second, .val (.int i13), .val (.int i14), s15, s16, s17] [(.long (-j11))]))
    refine Done.step (fun t k => XS.goto X0.here hx rfl (pc0 := 295) (pc' := 300) rfl (hb hby d3_295) (by decide) (by decide) k) ?_
    show Done p e below s _ _ _ (T.setTop (mkF m 300 #[.val (.int p1), .val (.int p2), .val (.int p3), .val (.int p4), .val (.int p5), .val (.int p6), .val (.long (-9223372036854775808 : Int64)), .second, .val (.int i8), .val (.int i9), .val (.int i10), .val (.long j11), .second, .val (.int i13), .val (.int i14), s15, s16, s17] [(.long (-j11))]))
    exact Done.long X0 hx hlk hret (hb hby d3_300) (by decide) (by decide) ⟨by rw [← hR, show X3_287 p1 p2 p3 p4 p5 p6 i8 i9 i10 j11 i13 i14 = (-j11) from by unfold X3_287; rw [if_neg c1]], N0, e0⟩
theorem d3_239 : decode method_6_code 239 = .ok (.istore 14, 2) := by decide +kernel
theorem d3_241 : decode method_6_code 241 = .ok (.iload 14, 2) := by decide +kernel
theorem d3_243 : decode method_6_code 243 = .ok (.ifCond .le 44, 3) := by decide +kernel
theorem d3_246 : decode method_6_code 246 = .ok (.iload_n 3, 1) := by decide +kernel
theorem d3_247 : decode method_6_code 247 = .ok (.invokestatic 36, 3) := by decide +kernel
theorem d3_250 : decode method_6_code 250 = .ok (.istore 15, 2) := by decide +kernel
theorem d3_252 : decode method_6_code 252 = .ok (.iload 15, 2) := by decide +kernel
theorem d3_254 : decode method_6_code 254 = .ok (.ifCond .ge 6, 3) := by decide +kernel
theorem d3_257 : decode method_6_code 257 = .ok (.lload 6, 2) := by decide +kernel
theorem d3_259 : decode method_6_code 259 = .ok (.lreturn, 1) := by decide +kernel
theorem d3_260 : decode method_6_code 260 = .ok (.iload 14, 2) := by decide +kernel
theorem d3_262 : decode method_6_code 262 = .ok (.invokestatic 46, 3) := by decide +kernel
theorem d3_265 : decode method_6_code 265 = .ok (.lstore 16, 2) := by decide +kernel
theorem d3_267 : decode method_6_code 267 = .ok (.lload 11, 2) := by decide +kernel
theorem d3_269 : decode method_6_code 269 = .ok (.lload 16, 2) := by decide +kernel
theorem d3_271 : decode method_6_code 271 = .ok (.lmul, 1) := by decide +kernel
theorem d3_272 : decode method_6_code 272 = .ok (.iload 15, 2) := by decide +kernel
theorem d3_274 : decode method_6_code 274 = .ok (.i2l, 1) := by decide +kernel
theorem d3_275 : decode method_6_code 275 = .ok (.lload 16, 2) := by decide +kernel
theorem d3_277 : decode method_6_code 277 = .ok (.lconst 1, 1) := by decide +kernel
theorem d3_278 : decode method_6_code 278 = .ok (.lsub, 1) := by decide +kernel
theorem d3_279 : decode method_6_code 279 = .ok (.ldc2_w 50, 3) := by decide +kernel
theorem d3_282 : decode method_6_code 282 = .ok (.ldiv, 1) := by decide +kernel
theorem d3_283 : decode method_6_code 283 = .ok (.lmul, 1) := by decide +kernel
theorem d3_284 : decode method_6_code 284 = .ok (.ladd, 1) := by decide +kernel
theorem d3_285 : decode method_6_code 285 = .ok (.lstore 11, 2) := by decide +kernel
def X3_239 (p1 : Int32) (p2 : Int32) (p3 : Int32) (p4 : Int32) (p5 : Int32) (p6 : Int32) (i8 : Int32) (i9 : Int32) (i10 : Int32) (j11 : Int64) (i13 : Int32) (t0 : Int32) : Int64 := (if (0 : Int32) < t0 then (if (F4 p4) < (0 : Int32) then (-9223372036854775808 : Int64)
    else (X3_287 p1 p2 p3 p4 p5 p6 i8 i9 i10 ((j11 * (F6 t0)) + (((F4 p4)).toInt64 * (((F6 t0) - (1 : Int64)) / (9 : Int64)))) i13 t0))
  else (X3_287 p1 p2 p3 p4 p5 p6 i8 i9 i10 j11 i13 t0))
set_option maxRecDepth 65536 in
set_option maxHeartbeats 40000000 in
theorem blk3_239 {p : Program} {l : Launch} {e : Env} {s : State} {m : MethodId} {args : Array Value} {below : List Frame} {meth : Method} {c : Code} {T : State} {locs : List Loc} {Z : State} {a0 : Array Value} {h0 : Heap} {n0 : Nat} (p1 : Int32) (p2 : Int32) (p3 : Int32) (p4 : Int32) (p5 : Int32) (p6 : Int32) (i8 : Int32) (i9 : Int32) (i10 : Int32) (j11 : Int64) (i13 : Int32) (t0 : Int32) (R : Int64)
    (X0 : Stand p l e ({ frames := 1, cells := 0, slots := 0, locals := 20 } : Room) s m args below meth c T locs 0 0) (hx : p.tables.exec = Jvm.exec) (hZ : Z.Warmed39 s.vm) (hw : ∀ d ∈ tables_1, d.before a0 Z = true) (hby : c.code = method_6_code) (hml : c.maxLocals = 18) (hown : s.vm.findClass "weirstream/engine/WrittenNumberShortWholePinLaw" = some m.cls) (hlk : meth.locks = false) (hret : meth.sig.returnType = (some .long : Option FieldType)) (hnm : meth.name = "expected") (N0 : Fr n0 locs) (Z0 : n0 ≤ h0.size) (e0 : T.heap = h0) (hR : X3_239 p1 p2 p3 p4 p5 p6 i8 i9 i10 j11 i13 t0 = R) :
    Done p e below s (fun v h L => v = some (.long R) ∧ Fr n0 L ∧ h = h0) ({ frames := 1, cells := 0, slots := 0, locals := 20 } : Room).cells ({ frames := 1, cells := 0, slots := 0, locals := 20 } : Room).slots (T.setTop (mkF m 239 #[.val (.int p1), .val (.int p2), .val (.int p3), .val (.int p4), .val (.int p5), .val (.int p6), .val (.long (-9223372036854775808 : Int64)), .second, .val (.int i8), .val (.int i9), .val (.int i10), .val (.long j11), .second, .val (.int i13), .unset, .unset, .unset, .unset] [(.int t0)])) := by
  show Done p e below s _ _ _ (T.setTop (mkF m 239 #[.val (.int p1), .val (.int p2), .val (.int p3), .val (.int p4), .val (.int p5), .val (.int p6), .val (.long (-9223372036854775808 : Int64)), .second, .val (.int i8), .val (.int i9), .val (.int i10), .val (.long j11), .second, .val (.int i13), .unset, .unset, .unset, .unset] [(.int t0)]))
  refine Done.step (fun t k => XS.istore X0.here hx rfl (hb hby d3_239) rfl (l' := #[.val (.int p1), .val (.int p2), .val (.int p3), .val (.int p4), .val (.int p5), .val (.int p6), .val (.long (-9223372036854775808 : Int64)), .second, .val (.int i8), .val (.int i9), .val (.int i10), .val (.long j11), .second, .val (.int i13), .val (.int t0), .unset, .unset, .unset]) rfl k) ?_
  show Done p e below s _ _ _ (T.setTop (mkF m 241 #[.val (.int p1), .val (.int p2), .val (.int p3), .val (.int p4), .val (.int p5), .val (.int p6), .val (.long (-9223372036854775808 : Int64)), .second, .val (.int i8), .val (.int i9), .val (.int i10), .val (.long j11), .second, .val (.int i13), .val (.int t0), .unset, .unset, .unset] []))
  refine Done.step (fun t k => XS.iload X0.here hx rfl (hb hby d3_241) rfl k) ?_
  show Done p e below s _ _ _ (T.setTop (mkF m 243 #[.val (.int p1), .val (.int p2), .val (.int p3), .val (.int p4), .val (.int p5), .val (.int p6), .val (.long (-9223372036854775808 : Int64)), .second, .val (.int i8), .val (.int i9), .val (.int i10), .val (.long j11), .second, .val (.int i13), .val (.int t0), .unset, .unset, .unset] [(.int t0)]))
  by_cases c1 : (0 : Int32) < t0
  · refine Done.step (fun t k => XS.ifNo X0.here hx rfl (hb hby d3_243) rfl ((if0 _ _).trans (tlt c1).2.2.2) k) ?_
    show Done p e below s _ _ _ (T.setTop (mkF m 246 #[.val (.int p1), .val (.int p2), .val (.int p3), .val (.int p4), .val (.int p5), .val (.int p6), .val (.long (-9223372036854775808 : Int64)), .second, .val (.int i8), .val (.int i9), .val (.int i10), .val (.long j11), .second, .val (.int i13), .val (.int t0), .unset, .unset, .unset] []))
    refine Done.step (fun t k => XS.iloadN X0.here hx rfl (hb hby d3_246) rfl k) ?_
    show Done p e below s _ _ _ (T.setTop (mkF m 247 #[.val (.int p1), .val (.int p2), .val (.int p3), .val (.int p4), .val (.int p5), .val (.int p6), .val (.long (-9223372036854775808 : Int64)), .second, .val (.int i8), .val (.int i9), .val (.int i10), .val (.long j11), .second, .val (.int i13), .val (.int t0), .unset, .unset, .unset] [(.int p4)]))
    obtain ⟨v101, _, ⟨T101, L101, k101, n101⟩, -, X101, ⟨Lc101, hQ101, l101, y101, z101⟩, st101⟩ := Jvm.LawKit.callS X0 hx (y := (⟨"weirstream/engine/WrittenNumberShortWholePinLaw", "digitOf", "(B)I"⟩ : MethodName)) hown (mvT hZ (hw _ (List.mem_of_getElem? (i := 15) rfl))) (mvT hZ (hw _ (List.mem_of_getElem? (i := 16) rfl))) (mvT hZ (hw _ (List.mem_of_getElem? (i := 2) rfl))) (mvT hZ (hw _ (List.mem_of_getElem? (i := 17) rfl))) (by decide) (backOf (W := 0) (rm4 l Z a0 hw [] p4 h0 n0 Z0 ) hZ (hw _ (List.mem_of_getElem? (i := 17) rfl)) (hw _ (List.mem_of_getElem? (i := 2) rfl)) (by decide) (by decide)) (g := (mkF m 247 #[.val (.int p1), .val (.int p2), .val (.int p3), .val (.int p4), .val (.int p5), .val (.int p6), .val (.long (-9223372036854775808 : Int64)), .second, .val (.int i8), .val (.int i9), .val (.int i10), .val (.long j11), .second, .val (.int i13), .val (.int t0), .unset, .unset, .unset] [(.int p4)])) rfl (by rw [hml]; rfl) (argsL := [(.int p4)]) (rest := []) (lenOf pd_0 rfl) rfl (by show 2 * 0 + _ ≤ _; exact Nat.le_of_eq rfl) (hb hby d3_247) (fun _ _ => ⟨rfl, e0, (by decide : 0 + 0 ≤ _), (by decide : 0 + 0 ≤ _)⟩)
    dsimp only [Pt.U, Pt.locs, Pt.cells, Pt.slots] at X101 l101 y101 z101 st101 hQ101
    subst l101 y101 z101
    refine Done.step st101 ?_
    obtain ⟨rfl, N101q, e101⟩ := hQ101
    have N101 := Fr.app N0 N101q
    show Done p e below s _ _ _ (T101.setTop (mkF m 250 #[.val (.int p1), .val (.int p2), .val (.int p3), .val (.int p4), .val (.int p5), .val (.int p6), .val (.long (-9223372036854775808 : Int64)), .second, .val (.int i8), .val (.int i9), .val (.int i10), .val (.long j11), .second, .val (.int i13), .val (.int t0), .unset, .unset, .unset] [(.int (F4 p4))]))
    refine Done.step (fun t k => XS.istore X101.here hx rfl (hb hby d3_250) rfl (l' := #[.val (.int p1), .val (.int p2), .val (.int p3), .val (.int p4), .val (.int p5), .val (.int p6), .val (.long (-9223372036854775808 : Int64)), .second, .val (.int i8), .val (.int i9), .val (.int i10), .val (.long j11), .second, .val (.int i13), .val (.int t0), .val (.int (F4 p4)), .unset, .unset]) rfl k) ?_
    show Done p e below s _ _ _ (T101.setTop (mkF m 252 #[.val (.int p1), .val (.int p2), .val (.int p3), .val (.int p4), .val (.int p5), .val (.int p6), .val (.long (-9223372036854775808 : Int64)), .second, .val (.int i8), .val (.int i9), .val (.int i10), .val (.long j11), .second, .val (.int i13), .val (.int t0), .val (.int (F4 p4)), .unset, .unset] []))
    refine Done.step (fun t k => XS.iload X101.here hx rfl (hb hby d3_252) rfl k) ?_
    show Done p e below s _ _ _ (T101.setTop (mkF m 254 #[.val (.int p1), .val (.int p2), .val (.int p3), .val (.int p4), .val (.int p5), .val (.int p6), .val (.long (-9223372036854775808 : Int64)), .second, .val (.int i8), .val (.int i9), .val (.int i10), .val (.long j11), .second, .val (.int i13), .val (.int t0), .val (.int (F4 p4)), .unset, .unset] [(.int (F4 p4))]))
    by_cases c2 : (F4 p4) < (0 : Int32)
    · refine Done.step (fun t k => XS.ifNo X101.here hx rfl (hb hby d3_254) rfl ((if0 _ _).trans (tlt c2).2.1) k) ?_
      show Done p e below s _ _ _ (T101.setTop (mkF m 257 #[.val (.int p1), .val (.int p2), .val (.int p3), .val (.int p4), .val (.int p5), .val (.int p6), .val (.long (-9223372036854775808 : Int64)), .second, .val (.int i8), .val (.int i9), .val (.int i10), .val (.long j11), .second, .val (.int i13), .val (.int t0), .val (.int (F4 p4)), .unset, .unset] []))
      refine Done.step (fun t k => XS.lload X101.here hx rfl (hb hby d3_257) rfl k) ?_
      show Done p e below s _ _ _ (T101.setTop (mkF m 259 #[.val (.int p1), .val (.int p2), .val (.int p3), .val (.int p4), .val (.int p5), .val (.int p6), .val (.long (-9223372036854775808 : Int64)), .second, .val (.int i8), .val (.int i9), .val (.int i10), .val (.long j11), .second, .val (.int i13), .val (.int t0), .val (.int (F4 p4)), .unset, .unset] [(.long (-9223372036854775808 : Int64))]))
      exact Done.long X101 hx hlk hret (hb hby d3_259) (by decide) (by decide) ⟨by rw [← hR, show X3_239 p1 p2 p3 p4 p5 p6 i8 i9 i10 j11 i13 t0 = (-9223372036854775808 : Int64) from by unfold X3_239; rw [if_pos c1, if_pos c2]], N101, e101⟩
    · refine Done.step (fun t k => XS.ifYes X101.here hx rfl (pc0 := 254) (pc' := 260) rfl (hb hby d3_254) rfl ((if0 _ _).trans (flt c2).2.1) (by decide) (by decide) k) ?_
      show Done p e below s _ _ _ (T101.setTop (mkF m 260 #[.val (.int p1), .val (.int p2), .val (.int p3), .val (.int p4), .val (.int p5), .val (.int p6), .val (.long (-9223372036854775808 : Int64)), .second, .val (.int i8), .val (.int i9), .val (.int i10), .val (.long j11), .second, .val (.int i13), .val (.int t0), .val (.int (F4 p4)), .unset, .unset] []))
      refine Done.step (fun t k => XS.iload X101.here hx rfl (hb hby d3_260) rfl k) ?_
      show Done p e below s _ _ _ (T101.setTop (mkF m 262 #[.val (.int p1), .val (.int p2), .val (.int p3), .val (.int p4), .val (.int p5), .val (.int p6), .val (.long (-9223372036854775808 : Int64)), .second, .val (.int i8), .val (.int i9), .val (.int i10), .val (.long j11), .second, .val (.int i13), .val (.int t0), .val (.int (F4 p4)), .unset, .unset] [(.int t0)]))
      obtain ⟨v102, _, ⟨T102, L102, k102, n102⟩, -, X102, ⟨Lc102, hQ102, l102, y102, z102⟩, st102⟩ := Jvm.LawKit.callS X101 hx (y := (⟨"weirstream/engine/WrittenNumberShortWholePinLaw", "pow10", "(I)J"⟩ : MethodName)) hown (mvT hZ (hw _ (List.mem_of_getElem? (i := 24) rfl))) (mvT hZ (hw _ (List.mem_of_getElem? (i := 25) rfl))) (mvT hZ (hw _ (List.mem_of_getElem? (i := 2) rfl))) (mvT hZ (hw _ (List.mem_of_getElem? (i := 26) rfl))) (by decide) (backOf (W := 0) (rm6 l Z a0 hw [] t0 h0 n0 Z0 ) hZ (hw _ (List.mem_of_getElem? (i := 26) rfl)) (hw _ (List.mem_of_getElem? (i := 2) rfl)) (by decide) (by decide)) (g := (mkF m 262 #[.val (.int p1), .val (.int p2), .val (.int p3), .val (.int p4), .val (.int p5), .val (.int p6), .val (.long (-9223372036854775808 : Int64)), .second, .val (.int i8), .val (.int i9), .val (.int i10), .val (.long j11), .second, .val (.int i13), .val (.int t0), .val (.int (F4 p4)), .unset, .unset] [(.int t0)])) rfl (by rw [hml]; rfl) (argsL := [(.int t0)]) (rest := []) (lenOf pd_1 rfl) rfl (by show 2 * 0 + _ ≤ _; exact Nat.le_of_eq rfl) (hb hby d3_262) (fun _ _ => ⟨rfl, e101, (by decide : 0 + 0 ≤ _), (by decide : 0 + 0 ≤ _)⟩)
      dsimp only [Pt.U, Pt.locs, Pt.cells, Pt.slots] at X102 l102 y102 z102 st102 hQ102
      subst l102 y102 z102
      refine Done.step st102 ?_
      obtain ⟨rfl, N102q, e102⟩ := hQ102
      have N102 := Fr.app N101 N102q
      show Done p e below s _ _ _ (T102.setTop (mkF m 265 #[.val (.int p1), .val (.int p2), .val (.int p3), .val (.int p4), .val (.int p5), .val (.int p6), .val (.long (-9223372036854775808 : Int64)), .second, .val (.int i8), .val (.int i9), .val (.int i10), .val (.long j11), .second, .val (.int i13), .val (.int t0), .val (.int (F4 p4)), .unset, .unset] [(.long (F6 t0))]))
      refine Done.step (fun t k => XS.lstore X102.here hx rfl (hb hby d3_265) rfl (l' := #[.val (.int p1), .val (.int p2), .val (.int p3), .val (.int p4), .val (.int p5), .val (.int p6), .val (.long (-9223372036854775808 : Int64)), .second, .val (.int i8), .val (.int i9), .val (.int i10), .val (.long j11), .second, .val (.int i13), .val (.int t0), .val (.int (F4 p4)), .val (.long (F6 t0)), .second]) rfl k) ?_
      show Done p e below s _ _ _ (T102.setTop (mkF m 267 #[.val (.int p1), .val (.int p2), .val (.int p3), .val (.int p4), .val (.int p5), .val (.int p6), .val (.long (-9223372036854775808 : Int64)), .second, .val (.int i8), .val (.int i9), .val (.int i10), .val (.long j11), .second, .val (.int i13), .val (.int t0), .val (.int (F4 p4)), .val (.long (F6 t0)), .second] []))
      refine Done.step (fun t k => XS.lload X102.here hx rfl (hb hby d3_267) rfl k) ?_
      show Done p e below s _ _ _ (T102.setTop (mkF m 269 #[.val (.int p1), .val (.int p2), .val (.int p3), .val (.int p4), .val (.int p5), .val (.int p6), .val (.long (-9223372036854775808 : Int64)), .second, .val (.int i8), .val (.int i9), .val (.int i10), .val (.long j11), .second, .val (.int i13), .val (.int t0), .val (.int (F4 p4)), .val (.long (F6 t0)), .second] [(.long j11)]))
      refine Done.step (fun t k => XS.lload X102.here hx rfl (hb hby d3_269) rfl k) ?_
      show Done p e below s _ _ _ (T102.setTop (mkF m 271 #[.val (.int p1), .val (.int p2), .val (.int p3), .val (.int p4), .val (.int p5), .val (.int p6), .val (.long (-9223372036854775808 : Int64)), .second, .val (.int i8), .val (.int i9), .val (.int i10), .val (.long j11), .second, .val (.int i13), .val (.int t0), .val (.int (F4 p4)), .val (.long (F6 t0)), .second] [(.long (F6 t0)), (.long j11)]))
      refine Done.step (fun t k => XS.lmul X102.here hx rfl (hb hby d3_271) rfl k) ?_
      show Done p e below s _ _ _ (T102.setTop (mkF m 272 #[.val (.int p1), .val (.int p2), .val (.int p3), .val (.int p4), .val (.int p5), .val (.int p6), .val (.long (-9223372036854775808 : Int64)), .second, .val (.int i8), .val (.int i9), .val (.int i10), .val (.long j11), .second, .val (.int i13), .val (.int t0), .val (.int (F4 p4)), .val (.long (F6 t0)), .second] [(.long (j11 * (F6 t0)))]))
      refine Done.step (fun t k => XS.iload X102.here hx rfl (hb hby d3_272) rfl k) ?_
      show Done p e below s _ _ _ (T102.setTop (mkF m 274 #[.val (.int p1), .val (.int p2), .val (.int p3), .val (.int p4), .val (.int p5), .val (.int p6), .val (.long (-9223372036854775808 : Int64)), .second, .val (.int i8), .val (.int i9), .val (.int i10), .val (.long j11), .second, .val (.int i13), .val (.int t0), .val (.int (F4 p4)), .val (.long (F6 t0)), .second] [(.int (F4 p4)), (.long (j11 * (F6 t0)))]))
      refine Done.step (fun t k => XS.i2l X102.here hx rfl (hb hby d3_274) rfl k) ?_
      show Done p e below s _ _ _ (T102.setTop (mkF m 275 #[.val (.int p1), .val (.int p2), .val (.int p3), .val (.int p4), .val (.int p5), .val (.int p6), .val (.long (-9223372036854775808 : Int64)), .second, .val (.int i8), .val (.int i9), .val (.int i10), .val (.long j11), .second, .val (.int i13), .val (.int t0), .val (.int (F4 p4)), .val (.long (F6 t0)), .second] [(.long ((F4 p4)).toInt64), (.long (j11 * (F6 t0)))]))
      refine Done.step (fun t k => XS.lload X102.here hx rfl (hb hby d3_275) rfl k) ?_
      show Done p e below s _ _ _ (T102.setTop (mkF m 277 #[.val (.int p1), .val (.int p2), .val (.int p3), .val (.int p4), .val (.int p5), .val (.int p6), .val (.long (-9223372036854775808 : Int64)), .second, .val (.int i8), .val (.int i9), .val (.int i10), .val (.long j11), .second, .val (.int i13), .val (.int t0), .val (.int (F4 p4)), .val (.long (F6 t0)), .second] [(.long (F6 t0)), (.long ((F4 p4)).toInt64), (.long (j11 * (F6 t0)))]))
      refine Done.step (fun t k => XS.lconst X102.here hx rfl (hb hby d3_277) k) ?_
      show Done p e below s _ _ _ (T102.setTop (mkF m 278 #[.val (.int p1), .val (.int p2), .val (.int p3), .val (.int p4), .val (.int p5), .val (.int p6), .val (.long (-9223372036854775808 : Int64)), .second, .val (.int i8), .val (.int i9), .val (.int i10), .val (.long j11), .second, .val (.int i13), .val (.int t0), .val (.int (F4 p4)), .val (.long (F6 t0)), .second] [(.long (1 : Int64)), (.long (F6 t0)), (.long ((F4 p4)).toInt64), (.long (j11 * (F6 t0)))]))
      refine Done.step (fun t k => XS.lsub X102.here hx rfl (hb hby d3_278) rfl k) ?_
      show Done p e below s _ _ _ (T102.setTop (mkF m 279 #[.val (.int p1), .val (.int p2), .val (.int p3), .val (.int p4), .val (.int p5), .val (.int p6), .val (.long (-9223372036854775808 : Int64)), .second, .val (.int i8), .val (.int i9), .val (.int i10), .val (.long j11), .second, .val (.int i13), .val (.int t0), .val (.int (F4 p4)), .val (.long (F6 t0)), .second] [(.long ((F6 t0) - (1 : Int64))), (.long ((F4 p4)).toInt64), (.long (j11 * (F6 t0)))]))
      refine Done.step (X102.ldc2Long hx hown (mvT hZ (hw _ (List.mem_of_getElem? (i := 28) rfl))) (g := (mkF m 279 #[.val (.int p1), .val (.int p2), .val (.int p3), .val (.int p4), .val (.int p5), .val (.int p6), .val (.long (-9223372036854775808 : Int64)), .second, .val (.int i8), .val (.int i9), .val (.int i10), .val (.long j11), .second, .val (.int i13), .val (.int t0), .val (.int (F4 p4)), .val (.long (F6 t0)), .second] [(.long ((F6 t0) - (1 : Int64))), (.long ((F4 p4)).toInt64), (.long (j11 * (F6 t0)))])) rfl (hb hby d3_279)) ?_
      show Done p e below s _ _ _ (T102.setTop (mkF m 282 #[.val (.int p1), .val (.int p2), .val (.int p3), .val (.int p4), .val (.int p5), .val (.int p6), .val (.long (-9223372036854775808 : Int64)), .second, .val (.int i8), .val (.int i9), .val (.int i10), .val (.long j11), .second, .val (.int i13), .val (.int t0), .val (.int (F4 p4)), .val (.long (F6 t0)), .second] [(.long (9 : Int64)), (.long ((F6 t0) - (1 : Int64))), (.long ((F4 p4)).toInt64), (.long (j11 * (F6 t0)))]))
      refine Done.step (fun t k => XS.ldiv X102.here hx rfl (hb hby d3_282) rfl (by decide) k) ?_
      show Done p e below s _ _ _ (T102.setTop (mkF m 283 #[.val (.int p1), .val (.int p2), .val (.int p3), .val (.int p4), .val (.int p5), .val (.int p6), .val (.long (-9223372036854775808 : Int64)), .second, .val (.int i8), .val (.int i9), .val (.int i10), .val (.long j11), .second, .val (.int i13), .val (.int t0), .val (.int (F4 p4)), .val (.long (F6 t0)), .second] [(.long (((F6 t0) - (1 : Int64)) / (9 : Int64))), (.long ((F4 p4)).toInt64), (.long (j11 * (F6 t0)))]))
      refine Done.step (fun t k => XS.lmul X102.here hx rfl (hb hby d3_283) rfl k) ?_
      show Done p e below s _ _ _ (T102.setTop (mkF m 284 #[.val (.int p1), .val (.int p2), .val (.int p3), .val (.int p4), .val (.int p5), .val (.int p6), .val (.long (-9223372036854775808 : Int64)), .second, .val (.int i8), .val (.int i9), .val (.int i10), .val (.long j11), .second, .val (.int i13), .val (.int t0), .val (.int (F4 p4)), .val (.long (F6 t0)), .second] [(.long (((F4 p4)).toInt64 * (((F6 t0) - (1 : Int64)) / (9 : Int64)))), (.long (j11 * (F6 t0)))]))
      refine Done.step (fun t k => XS.ladd X102.here hx rfl (hb hby d3_284) rfl k) ?_
      show Done p e below s _ _ _ (T102.setTop (mkF m 285 #[.val (.int p1), .val (.int p2), .val (.int p3), .val (.int p4), .val (.int p5), .val (.int p6), .val (.long (-9223372036854775808 : Int64)), .second, .val (.int i8), .val (.int i9), .val (.int i10), .val (.long j11), .second, .val (.int i13), .val (.int t0), .val (.int (F4 p4)), .val (.long (F6 t0)), .second] [(.long ((j11 * (F6 t0)) + (((F4 p4)).toInt64 * (((F6 t0) - (1 : Int64)) / (9 : Int64)))))]))
      refine Done.step (fun t k => XS.lstore X102.here hx rfl (hb hby d3_285) rfl (l' := #[.val (.int p1), .val (.int p2), .val (.int p3), .val (.int p4), .val (.int p5), .val (.int p6), .val (.long (-9223372036854775808 : Int64)), .second, .val (.int i8), .val (.int i9), .val (.int i10), .val (.long ((j11 * (F6 t0)) + (((F4 p4)).toInt64 * (((F6 t0) - (1 : Int64)) / (9 : Int64))))), .second, .val (.int i13), .val (.int t0), .val (.int (F4 p4)), .val (.long (F6 t0)), .second]) rfl k) ?_
      show Done p e below s _ _ _ (T102.setTop (mkF m 287 #[.val (.int p1), .val (.int p2), .val (.int p3), .val (.int p4), .val (.int p5), .val (.int p6), .val (.long (-9223372036854775808 : Int64)), .second, .val (.int i8), .val (.int i9), .val (.int i10), .val (.long ((j11 * (F6 t0)) + (((F4 p4)).toInt64 * (((F6 t0) - (1 : Int64)) / (9 : Int64))))), .second, .val (.int i13), .val (.int t0), .val (.int (F4 p4)), .val (.long (F6 t0)), .second] []))
      exact blk3_287 p1 p2 p3 p4 p5 p6 i8 i9 i10 ((j11 * (F6 t0)) + (((F4 p4)).toInt64 * (((F6 t0) - (1 : Int64)) / (9 : Int64)))) i13 t0 (.val (.int (F4 p4))) (.val (.long (F6 t0))) (.second : Slot) R X102 hx hZ hw hby hml hown hlk hret hnm N102 Z0 e102  ((show X3_239 p1 p2 p3 p4 p5 p6 i8 i9 i10 j11 i13 t0 = (X3_287 p1 p2 p3 p4 p5 p6 i8 i9 i10 ((j11 * (F6 t0)) + (((F4 p4)).toInt64 * (((F6 t0) - (1 : Int64)) / (9 : Int64)))) i13 t0) from by unfold X3_239; rw [if_pos c1, if_neg c2]).symm.trans hR)
  · refine Done.step (fun t k => XS.ifYes X0.here hx rfl (pc0 := 243) (pc' := 287) rfl (hb hby d3_243) rfl ((if0 _ _).trans (flt c1).2.2.2) (by decide) (by decide) k) ?_
    show Done p e below s _ _ _ (T.setTop (mkF m 287 #[.val (.int p1), .val (.int p2), .val (.int p3), .val (.int p4), .val (.int p5), .val (.int p6), .val (.long (-9223372036854775808 : Int64)), .second, .val (.int i8), .val (.int i9), .val (.int i10), .val (.long j11), .second, .val (.int i13), .val (.int t0), .unset, .unset, .unset] []))
    exact blk3_287 p1 p2 p3 p4 p5 p6 i8 i9 i10 j11 i13 t0 (.unset : Slot) (.unset : Slot) (.unset : Slot) R X0 hx hZ hw hby hml hown hlk hret hnm N0 Z0 e0  ((show X3_239 p1 p2 p3 p4 p5 p6 i8 i9 i10 j11 i13 t0 = (X3_287 p1 p2 p3 p4 p5 p6 i8 i9 i10 j11 i13 t0) from by unfold X3_239; rw [if_neg c1]).symm.trans hR)
theorem d3_215 : decode method_6_code 215 = .ok (.iload 10, 2) := by decide +kernel
theorem d3_217 : decode method_6_code 217 = .ok (.iconst 3, 1) := by decide +kernel
theorem d3_218 : decode method_6_code 218 = .ok (.invokestatic 40, 3) := by decide +kernel
theorem d3_221 : decode method_6_code 221 = .ok (.istore 13, 2) := by decide +kernel
theorem d3_223 : decode method_6_code 223 = .ok (.iload 5, 2) := by decide +kernel
theorem d3_225 : decode method_6_code 225 = .ok (.iload 13, 2) := by decide +kernel
theorem d3_227 : decode method_6_code 227 = .ok (.if_icmp .le 11, 3) := by decide +kernel
theorem d3_230 : decode method_6_code 230 = .ok (.iload 5, 2) := by decide +kernel
theorem d3_232 : decode method_6_code 232 = .ok (.iload 13, 2) := by decide +kernel
theorem d3_234 : decode method_6_code 234 = .ok (.isub, 1) := by decide +kernel
theorem d3_235 : decode method_6_code 235 = .ok (.goto 4, 3) := by decide +kernel
theorem d3_238 : decode method_6_code 238 = .ok (.iconst 0, 1) := by decide +kernel
def X3_215 (p1 : Int32) (p2 : Int32) (p3 : Int32) (p4 : Int32) (p5 : Int32) (p6 : Int32) (i8 : Int32) (i9 : Int32) (i10 : Int32) (j11 : Int64) : Int64 := (if (F5 i10 (3 : Int32)) < p6 then (X3_239 p1 p2 p3 p4 p5 p6 i8 i9 i10 j11 (F5 i10 (3 : Int32)) (p6 - (F5 i10 (3 : Int32))))
  else (X3_239 p1 p2 p3 p4 p5 p6 i8 i9 i10 j11 (F5 i10 (3 : Int32)) (0 : Int32)))
set_option maxRecDepth 65536 in
set_option maxHeartbeats 40000000 in
theorem blk3_215 {p : Program} {l : Launch} {e : Env} {s : State} {m : MethodId} {args : Array Value} {below : List Frame} {meth : Method} {c : Code} {T : State} {locs : List Loc} {Z : State} {a0 : Array Value} {h0 : Heap} {n0 : Nat} (p1 : Int32) (p2 : Int32) (p3 : Int32) (p4 : Int32) (p5 : Int32) (p6 : Int32) (i8 : Int32) (i9 : Int32) (i10 : Int32) (j11 : Int64) (s13 : Slot) (R : Int64)
    (X0 : Stand p l e ({ frames := 1, cells := 0, slots := 0, locals := 20 } : Room) s m args below meth c T locs 0 0) (hx : p.tables.exec = Jvm.exec) (hZ : Z.Warmed39 s.vm) (hw : ∀ d ∈ tables_1, d.before a0 Z = true) (hby : c.code = method_6_code) (hml : c.maxLocals = 18) (hown : s.vm.findClass "weirstream/engine/WrittenNumberShortWholePinLaw" = some m.cls) (hlk : meth.locks = false) (hret : meth.sig.returnType = (some .long : Option FieldType)) (hnm : meth.name = "expected") (N0 : Fr n0 locs) (Z0 : n0 ≤ h0.size) (e0 : T.heap = h0) (hs13 : s13 = Slot.unset ∨ ∃ z : Int32, s13 = .val (.int z)) (hR : X3_215 p1 p2 p3 p4 p5 p6 i8 i9 i10 j11 = R) :
    Done p e below s (fun v h L => v = some (.long R) ∧ Fr n0 L ∧ h = h0) ({ frames := 1, cells := 0, slots := 0, locals := 20 } : Room).cells ({ frames := 1, cells := 0, slots := 0, locals := 20 } : Room).slots (T.setTop (mkF m 215 #[.val (.int p1), .val (.int p2), .val (.int p3), .val (.int p4), .val (.int p5), .val (.int p6), .val (.long (-9223372036854775808 : Int64)), .second, .val (.int i8), .val (.int i9), .val (.int i10), .val (.long j11), .second, s13, .unset, .unset, .unset, .unset] [])) := by
  show Done p e below s _ _ _ (T.setTop (mkF m 215 #[.val (.int p1), .val (.int p2), .val (.int p3), .val (.int p4), .val (.int p5), .val (.int p6), .val (.long (-9223372036854775808 : Int64)), .second, .val (.int i8), .val (.int i9), .val (.int i10), .val (.long j11), .second, s13, .unset, .unset, .unset, .unset] []))
  refine Done.step (fun t k => XS.iload X0.here hx rfl (hb hby d3_215) rfl k) ?_
  show Done p e below s _ _ _ (T.setTop (mkF m 217 #[.val (.int p1), .val (.int p2), .val (.int p3), .val (.int p4), .val (.int p5), .val (.int p6), .val (.long (-9223372036854775808 : Int64)), .second, .val (.int i8), .val (.int i9), .val (.int i10), .val (.long j11), .second, s13, .unset, .unset, .unset, .unset] [(.int i10)]))
  refine Done.step (fun t k => XS.iconst X0.here hx rfl (hb hby d3_217) k) ?_
  show Done p e below s _ _ _ (T.setTop (mkF m 218 #[.val (.int p1), .val (.int p2), .val (.int p3), .val (.int p4), .val (.int p5), .val (.int p6), .val (.long (-9223372036854775808 : Int64)), .second, .val (.int i8), .val (.int i9), .val (.int i10), .val (.long j11), .second, s13, .unset, .unset, .unset, .unset] [(.int (3 : Int32)), (.int i10)]))
  obtain ⟨v101, _, ⟨T101, L101, k101, n101⟩, -, X101, ⟨Lc101, hQ101, l101, y101, z101⟩, st101⟩ := Jvm.LawKit.callS X0 hx (y := (⟨"java/lang/Math", "max", "(II)I"⟩ : MethodName)) hown (mvT hZ (hw _ (List.mem_of_getElem? (i := 18) rfl))) (mvT hZ (hw _ (List.mem_of_getElem? (i := 19) rfl))) (mvT hZ (hw _ (List.mem_of_getElem? (i := 20) rfl))) (mvT hZ (hw _ (List.mem_of_getElem? (i := 21) rfl))) (by decide) (backOf (W := 0) (rm5 l Z a0 hw [] i10 (3 : Int32) h0 n0 Z0 ) hZ (hw _ (List.mem_of_getElem? (i := 21) rfl)) (hw _ (List.mem_of_getElem? (i := 20) rfl)) (by decide) (by decide)) (g := (mkF m 218 #[.val (.int p1), .val (.int p2), .val (.int p3), .val (.int p4), .val (.int p5), .val (.int p6), .val (.long (-9223372036854775808 : Int64)), .second, .val (.int i8), .val (.int i9), .val (.int i10), .val (.long j11), .second, s13, .unset, .unset, .unset, .unset] [(.int (3 : Int32)), (.int i10)])) rfl (by rw [hml]; rfl) (argsL := [(.int i10), (.int (3 : Int32))]) (rest := []) (lenOf pd_2 rfl) rfl (by show 2 * 0 + _ ≤ _; exact Nat.le_of_eq rfl) (hb hby d3_218) (fun _ _ => ⟨rfl, e0, (by decide : 0 + 0 ≤ _), (by decide : 0 + 0 ≤ _)⟩)
  dsimp only [Pt.U, Pt.locs, Pt.cells, Pt.slots] at X101 l101 y101 z101 st101 hQ101
  subst l101 y101 z101
  refine Done.step st101 ?_
  obtain ⟨rfl, N101q, e101⟩ := hQ101
  have N101 := Fr.app N0 N101q
  show Done p e below s _ _ _ (T101.setTop (mkF m 221 #[.val (.int p1), .val (.int p2), .val (.int p3), .val (.int p4), .val (.int p5), .val (.int p6), .val (.long (-9223372036854775808 : Int64)), .second, .val (.int i8), .val (.int i9), .val (.int i10), .val (.long j11), .second, s13, .unset, .unset, .unset, .unset] [(.int (F5 i10 (3 : Int32)))]))
  refine Done.step (fun t k => XS.istore X101.here hx rfl (hb hby d3_221) rfl (l' := #[.val (.int p1), .val (.int p2), .val (.int p3), .val (.int p4), .val (.int p5), .val (.int p6), .val (.long (-9223372036854775808 : Int64)), .second, .val (.int i8), .val (.int i9), .val (.int i10), .val (.long j11), .second, .val (.int (F5 i10 (3 : Int32))), .unset, .unset, .unset, .unset]) (by rcases hs13 with rfl | ⟨z, rfl⟩ <;> rfl) k) ?_
  show Done p e below s _ _ _ (T101.setTop (mkF m 223 #[.val (.int p1), .val (.int p2), .val (.int p3), .val (.int p4), .val (.int p5), .val (.int p6), .val (.long (-9223372036854775808 : Int64)), .second, .val (.int i8), .val (.int i9), .val (.int i10), .val (.long j11), .second, .val (.int (F5 i10 (3 : Int32))), .unset, .unset, .unset, .unset] []))
  refine Done.step (fun t k => XS.iload X101.here hx rfl (hb hby d3_223) rfl k) ?_
  show Done p e below s _ _ _ (T101.setTop (mkF m 225 #[.val (.int p1), .val (.int p2), .val (.int p3), .val (.int p4), .val (.int p5), .val (.int p6), .val (.long (-9223372036854775808 : Int64)), .second, .val (.int i8), .val (.int i9), .val (.int i10), .val (.long j11), .second, .val (.int (F5 i10 (3 : Int32))), .unset, .unset, .unset, .unset] [(.int p6)]))
  refine Done.step (fun t k => XS.iload X101.here hx rfl (hb hby d3_225) rfl k) ?_
  show Done p e below s _ _ _ (T101.setTop (mkF m 227 #[.val (.int p1), .val (.int p2), .val (.int p3), .val (.int p4), .val (.int p5), .val (.int p6), .val (.long (-9223372036854775808 : Int64)), .second, .val (.int i8), .val (.int i9), .val (.int i10), .val (.long j11), .second, .val (.int (F5 i10 (3 : Int32))), .unset, .unset, .unset, .unset] [(.int (F5 i10 (3 : Int32))), (.int p6)]))
  by_cases c1 : (F5 i10 (3 : Int32)) < p6
  · refine Done.step (fun t k => XS.icmpNo X101.here hx rfl (hb hby d3_227) rfl (tlt c1).2.2.2 k) ?_
    show Done p e below s _ _ _ (T101.setTop (mkF m 230 #[.val (.int p1), .val (.int p2), .val (.int p3), .val (.int p4), .val (.int p5), .val (.int p6), .val (.long (-9223372036854775808 : Int64)), .second, .val (.int i8), .val (.int i9), .val (.int i10), .val (.long j11), .second, .val (.int (F5 i10 (3 : Int32))), .unset, .unset, .unset, .unset] []))
    refine Done.step (fun t k => XS.iload X101.here hx rfl (hb hby d3_230) rfl k) ?_
    show Done p e below s _ _ _ (T101.setTop (mkF m 232 #[.val (.int p1), .val (.int p2), .val (.int p3), .val (.int p4), .val (.int p5), .val (.int p6), .val (.long (-9223372036854775808 : Int64)), .second, .val (.int i8), .val (.int i9), .val (.int i10), .val (.long j11), .second, .val (.int (F5 i10 (3 : Int32))), .unset, .unset, .unset, .unset] [(.int p6)]))
    refine Done.step (fun t k => XS.iload X101.here hx rfl (hb hby d3_232) rfl k) ?_
    show Done p e below s _ _ _ (T101.setTop (mkF m 234 #[.val (.int p1), .val (.int p2), .val (.int p3), .val (.int p4), .val (.int p5), .val (.int p6), .val (.long (-9223372036854775808 : Int64)), .second, .val (.int i8), .val (.int i9), .val (.int i10), .val (.long j11), .second, .val (.int (F5 i10 (3 : Int32))), .unset, .unset, .unset, .unset] [(.int (F5 i10 (3 : Int32))), (.int p6)]))
    refine Done.step (fun t k => XS.isub X101.here hx rfl (hb hby d3_234) rfl k) ?_
    show Done p e below s _ _ _ (T101.setTop (mkF m 235 #[.val (.int p1), .val (.int p2), .val (.int p3), .val (.int p4), .val (.int p5), .val (.int p6), .val (.long (-9223372036854775808 : Int64)), .second, .val (.int i8), .val (.int i9), .val (.int i10), .val (.long j11), .second, .val (.int (F5 i10 (3 : Int32))), .unset, .unset, .unset, .unset] [(.int (p6 - (F5 i10 (3 : Int32))))]))
    refine Done.step (fun t k => XS.goto X101.here hx rfl (pc0 := 235) (pc' := 239) rfl (hb hby d3_235) (by decide) (by decide) k) ?_
    show Done p e below s _ _ _ (T101.setTop (mkF m 239 #[.val (.int p1), .val (.int p2), .val (.int p3), .val (.int p4), .val (.int p5), .val (.int p6), .val (.long (-9223372036854775808 : Int64)), .second, .val (.int i8), .val (.int i9), .val (.int i10), .val (.long j11), .second, .val (.int (F5 i10 (3 : Int32))), .unset, .unset, .unset, .unset] [(.int (p6 - (F5 i10 (3 : Int32))))]))
    exact blk3_239 p1 p2 p3 p4 p5 p6 i8 i9 i10 j11 (F5 i10 (3 : Int32)) (p6 - (F5 i10 (3 : Int32))) R X101 hx hZ hw hby hml hown hlk hret hnm N101 Z0 e101  ((show X3_215 p1 p2 p3 p4 p5 p6 i8 i9 i10 j11 = (X3_239 p1 p2 p3 p4 p5 p6 i8 i9 i10 j11 (F5 i10 (3 : Int32)) (p6 - (F5 i10 (3 : Int32)))) from by unfold X3_215; rw [if_pos c1]).symm.trans hR)
  · refine Done.step (fun t k => XS.icmpYes X101.here hx rfl (pc0 := 227) (pc' := 238) rfl (hb hby d3_227) rfl (flt c1).2.2.2 (by decide) (by decide) k) ?_
    show Done p e below s _ _ _ (T101.setTop (mkF m 238 #[.val (.int p1), .val (.int p2), .val (.int p3), .val (.int p4), .val (.int p5), .val (.int p6), .val (.long (-9223372036854775808 : Int64)), .second, .val (.int i8), .val (.int i9), .val (.int i10), .val (.long j11), .second, .val (.int (F5 i10 (3 : Int32))), .unset, .unset, .unset, .unset] []))
    refine Done.step (fun t k => XS.iconst X101.here hx rfl (hb hby d3_238) k) ?_
    show Done p e below s _ _ _ (T101.setTop (mkF m 239 #[.val (.int p1), .val (.int p2), .val (.int p3), .val (.int p4), .val (.int p5), .val (.int p6), .val (.long (-9223372036854775808 : Int64)), .second, .val (.int i8), .val (.int i9), .val (.int i10), .val (.long j11), .second, .val (.int (F5 i10 (3 : Int32))), .unset, .unset, .unset, .unset] [(.int (0 : Int32))]))
    exact blk3_239 p1 p2 p3 p4 p5 p6 i8 i9 i10 j11 (F5 i10 (3 : Int32)) (0 : Int32) R X101 hx hZ hw hby hml hown hlk hret hnm N101 Z0 e101  ((show X3_215 p1 p2 p3 p4 p5 p6 i8 i9 i10 j11 = (X3_239 p1 p2 p3 p4 p5 p6 i8 i9 i10 j11 (F5 i10 (3 : Int32)) (0 : Int32)) from by unfold X3_215; rw [if_neg c1]).symm.trans hR)
theorem d3_177 : decode method_6_code 177 = .ok (.iload 10, 2) := by decide +kernel
theorem d3_179 : decode method_6_code 179 = .ok (.iconst 2, 1) := by decide +kernel
theorem d3_180 : decode method_6_code 180 = .ok (.if_icmp .gt 35, 3) := by decide +kernel
theorem d3_183 : decode method_6_code 183 = .ok (.iconst 2, 1) := by decide +kernel
theorem d3_184 : decode method_6_code 184 = .ok (.iload 5, 2) := by decide +kernel
theorem d3_186 : decode method_6_code 186 = .ok (.if_icmp .ge 29, 3) := by decide +kernel
theorem d3_189 : decode method_6_code 189 = .ok (.iload_n 2, 1) := by decide +kernel
theorem d3_190 : decode method_6_code 190 = .ok (.invokestatic 36, 3) := by decide +kernel
theorem d3_193 : decode method_6_code 193 = .ok (.istore 13, 2) := by decide +kernel
theorem d3_195 : decode method_6_code 195 = .ok (.iload 13, 2) := by decide +kernel
theorem d3_197 : decode method_6_code 197 = .ok (.ifCond .ge 6, 3) := by decide +kernel
theorem d3_200 : decode method_6_code 200 = .ok (.lload 6, 2) := by decide +kernel
theorem d3_202 : decode method_6_code 202 = .ok (.lreturn, 1) := by decide +kernel
theorem d3_203 : decode method_6_code 203 = .ok (.lload 11, 2) := by decide +kernel
theorem d3_205 : decode method_6_code 205 = .ok (.ldc2_w 24, 3) := by decide +kernel
theorem d3_208 : decode method_6_code 208 = .ok (.lmul, 1) := by decide +kernel
theorem d3_209 : decode method_6_code 209 = .ok (.iload 13, 2) := by decide +kernel
theorem d3_211 : decode method_6_code 211 = .ok (.i2l, 1) := by decide +kernel
theorem d3_212 : decode method_6_code 212 = .ok (.ladd, 1) := by decide +kernel
theorem d3_213 : decode method_6_code 213 = .ok (.lstore 11, 2) := by decide +kernel
def X3_177 (p1 : Int32) (p2 : Int32) (p3 : Int32) (p4 : Int32) (p5 : Int32) (p6 : Int32) (i8 : Int32) (i9 : Int32) (i10 : Int32) (j11 : Int64) : Int64 := (if (2 : Int32) < i10 then (X3_215 p1 p2 p3 p4 p5 p6 i8 i9 i10 j11)
  else (if (2 : Int32) < p6 then (if (F4 p3) < (0 : Int32) then (-9223372036854775808 : Int64)
      else (X3_215 p1 p2 p3 p4 p5 p6 i8 i9 i10 ((j11 * (10 : Int64)) + ((F4 p3)).toInt64)))
    else (X3_215 p1 p2 p3 p4 p5 p6 i8 i9 i10 j11)))
set_option maxRecDepth 65536 in
set_option maxHeartbeats 40000000 in
theorem blk3_177 {p : Program} {l : Launch} {e : Env} {s : State} {m : MethodId} {args : Array Value} {below : List Frame} {meth : Method} {c : Code} {T : State} {locs : List Loc} {Z : State} {a0 : Array Value} {h0 : Heap} {n0 : Nat} (p1 : Int32) (p2 : Int32) (p3 : Int32) (p4 : Int32) (p5 : Int32) (p6 : Int32) (i8 : Int32) (i9 : Int32) (i10 : Int32) (j11 : Int64) (s13 : Slot) (R : Int64)
    (X0 : Stand p l e ({ frames := 1, cells := 0, slots := 0, locals := 20 } : Room) s m args below meth c T locs 0 0) (hx : p.tables.exec = Jvm.exec) (hZ : Z.Warmed39 s.vm) (hw : ∀ d ∈ tables_1, d.before a0 Z = true) (hby : c.code = method_6_code) (hml : c.maxLocals = 18) (hown : s.vm.findClass "weirstream/engine/WrittenNumberShortWholePinLaw" = some m.cls) (hlk : meth.locks = false) (hret : meth.sig.returnType = (some .long : Option FieldType)) (hnm : meth.name = "expected") (N0 : Fr n0 locs) (Z0 : n0 ≤ h0.size) (e0 : T.heap = h0) (hs13 : s13 = Slot.unset ∨ ∃ z : Int32, s13 = .val (.int z)) (hR : X3_177 p1 p2 p3 p4 p5 p6 i8 i9 i10 j11 = R) :
    Done p e below s (fun v h L => v = some (.long R) ∧ Fr n0 L ∧ h = h0) ({ frames := 1, cells := 0, slots := 0, locals := 20 } : Room).cells ({ frames := 1, cells := 0, slots := 0, locals := 20 } : Room).slots (T.setTop (mkF m 177 #[.val (.int p1), .val (.int p2), .val (.int p3), .val (.int p4), .val (.int p5), .val (.int p6), .val (.long (-9223372036854775808 : Int64)), .second, .val (.int i8), .val (.int i9), .val (.int i10), .val (.long j11), .second, s13, .unset, .unset, .unset, .unset] [])) := by
  show Done p e below s _ _ _ (T.setTop (mkF m 177 #[.val (.int p1), .val (.int p2), .val (.int p3), .val (.int p4), .val (.int p5), .val (.int p6), .val (.long (-9223372036854775808 : Int64)), .second, .val (.int i8), .val (.int i9), .val (.int i10), .val (.long j11), .second, s13, .unset, .unset, .unset, .unset] []))
  refine Done.step (fun t k => XS.iload X0.here hx rfl (hb hby d3_177) rfl k) ?_
  show Done p e below s _ _ _ (T.setTop (mkF m 179 #[.val (.int p1), .val (.int p2), .val (.int p3), .val (.int p4), .val (.int p5), .val (.int p6), .val (.long (-9223372036854775808 : Int64)), .second, .val (.int i8), .val (.int i9), .val (.int i10), .val (.long j11), .second, s13, .unset, .unset, .unset, .unset] [(.int i10)]))
  refine Done.step (fun t k => XS.iconst X0.here hx rfl (hb hby d3_179) k) ?_
  show Done p e below s _ _ _ (T.setTop (mkF m 180 #[.val (.int p1), .val (.int p2), .val (.int p3), .val (.int p4), .val (.int p5), .val (.int p6), .val (.long (-9223372036854775808 : Int64)), .second, .val (.int i8), .val (.int i9), .val (.int i10), .val (.long j11), .second, s13, .unset, .unset, .unset, .unset] [(.int (2 : Int32)), (.int i10)]))
  by_cases c1 : (2 : Int32) < i10
  · refine Done.step (fun t k => XS.icmpYes X0.here hx rfl (pc0 := 180) (pc' := 215) rfl (hb hby d3_180) rfl (tlt c1).2.2.1 (by decide) (by decide) k) ?_
    show Done p e below s _ _ _ (T.setTop (mkF m 215 #[.val (.int p1), .val (.int p2), .val (.int p3), .val (.int p4), .val (.int p5), .val (.int p6), .val (.long (-9223372036854775808 : Int64)), .second, .val (.int i8), .val (.int i9), .val (.int i10), .val (.long j11), .second, s13, .unset, .unset, .unset, .unset] []))
    exact blk3_215 p1 p2 p3 p4 p5 p6 i8 i9 i10 j11 (s13) R X0 hx hZ hw hby hml hown hlk hret hnm N0 Z0 e0 hs13 ((show X3_177 p1 p2 p3 p4 p5 p6 i8 i9 i10 j11 = (X3_215 p1 p2 p3 p4 p5 p6 i8 i9 i10 j11) from by unfold X3_177; rw [if_pos c1]).symm.trans hR)
  · refine Done.step (fun t k => XS.icmpNo X0.here hx rfl (hb hby d3_180) rfl (flt c1).2.2.1 k) ?_
    show Done p e below s _ _ _ (T.setTop (mkF m 183 #[.val (.int p1), .val (.int p2), .val (.int p3), .val (.int p4), .val (.int p5), .val (.int p6), .val (.long (-9223372036854775808 : Int64)), .second, .val (.int i8), .val (.int i9), .val (.int i10), .val (.long j11), .second, s13, .unset, .unset, .unset, .unset] []))
    refine Done.step (fun t k => XS.iconst X0.here hx rfl (hb hby d3_183) k) ?_
    show Done p e below s _ _ _ (T.setTop (mkF m 184 #[.val (.int p1), .val (.int p2), .val (.int p3), .val (.int p4), .val (.int p5), .val (.int p6), .val (.long (-9223372036854775808 : Int64)), .second, .val (.int i8), .val (.int i9), .val (.int i10), .val (.long j11), .second, s13, .unset, .unset, .unset, .unset] [(.int (2 : Int32))]))
    refine Done.step (fun t k => XS.iload X0.here hx rfl (hb hby d3_184) rfl k) ?_
    show Done p e below s _ _ _ (T.setTop (mkF m 186 #[.val (.int p1), .val (.int p2), .val (.int p3), .val (.int p4), .val (.int p5), .val (.int p6), .val (.long (-9223372036854775808 : Int64)), .second, .val (.int i8), .val (.int i9), .val (.int i10), .val (.long j11), .second, s13, .unset, .unset, .unset, .unset] [(.int p6), (.int (2 : Int32))]))
    by_cases c2 : (2 : Int32) < p6
    · refine Done.step (fun t k => XS.icmpNo X0.here hx rfl (hb hby d3_186) rfl (tlt c2).2.1 k) ?_
      show Done p e below s _ _ _ (T.setTop (mkF m 189 #[.val (.int p1), .val (.int p2), .val (.int p3), .val (.int p4), .val (.int p5), .val (.int p6), .val (.long (-9223372036854775808 : Int64)), .second, .val (.int i8), .val (.int i9), .val (.int i10), .val (.long j11), .second, s13, .unset, .unset, .unset, .unset] []))
      refine Done.step (fun t k => XS.iloadN X0.here hx rfl (hb hby d3_189) rfl k) ?_
      show Done p e below s _ _ _ (T.setTop (mkF m 190 #[.val (.int p1), .val (.int p2), .val (.int p3), .val (.int p4), .val (.int p5), .val (.int p6), .val (.long (-9223372036854775808 : Int64)), .second, .val (.int i8), .val (.int i9), .val (.int i10), .val (.long j11), .second, s13, .unset, .unset, .unset, .unset] [(.int p3)]))
      obtain ⟨v101, _, ⟨T101, L101, k101, n101⟩, -, X101, ⟨Lc101, hQ101, l101, y101, z101⟩, st101⟩ := Jvm.LawKit.callS X0 hx (y := (⟨"weirstream/engine/WrittenNumberShortWholePinLaw", "digitOf", "(B)I"⟩ : MethodName)) hown (mvT hZ (hw _ (List.mem_of_getElem? (i := 15) rfl))) (mvT hZ (hw _ (List.mem_of_getElem? (i := 16) rfl))) (mvT hZ (hw _ (List.mem_of_getElem? (i := 2) rfl))) (mvT hZ (hw _ (List.mem_of_getElem? (i := 17) rfl))) (by decide) (backOf (W := 0) (rm4 l Z a0 hw [] p3 h0 n0 Z0 ) hZ (hw _ (List.mem_of_getElem? (i := 17) rfl)) (hw _ (List.mem_of_getElem? (i := 2) rfl)) (by decide) (by decide)) (g := (mkF m 190 #[.val (.int p1), .val (.int p2), .val (.int p3), .val (.int p4), .val (.int p5), .val (.int p6), .val (.long (-9223372036854775808 : Int64)), .second, .val (.int i8), .val (.int i9), .val (.int i10), .val (.long j11), .second, s13, .unset, .unset, .unset, .unset] [(.int p3)])) rfl (by rw [hml]; rfl) (argsL := [(.int p3)]) (rest := []) (lenOf pd_0 rfl) rfl (by show 2 * 0 + _ ≤ _; exact Nat.le_of_eq rfl) (hb hby d3_190) (fun _ _ => ⟨rfl, e0, (by decide : 0 + 0 ≤ _), (by decide : 0 + 0 ≤ _)⟩)
      dsimp only [Pt.U, Pt.locs, Pt.cells, Pt.slots] at X101 l101 y101 z101 st101 hQ101
      subst l101 y101 z101
      refine Done.step st101 ?_
      obtain ⟨rfl, N101q, e101⟩ := hQ101
      have N101 := Fr.app N0 N101q
      show Done p e below s _ _ _ (T101.setTop (mkF m 193 #[.val (.int p1), .val (.int p2), .val (.int p3), .val (.int p4), .val (.int p5), .val (.int p6), .val (.long (-9223372036854775808 : Int64)), .second, .val (.int i8), .val (.int i9), .val (.int i10), .val (.long j11), .second, s13, .unset, .unset, .unset, .unset] [(.int (F4 p3))]))
      refine Done.step (fun t k => XS.istore X101.here hx rfl (hb hby d3_193) rfl (l' := #[.val (.int p1), .val (.int p2), .val (.int p3), .val (.int p4), .val (.int p5), .val (.int p6), .val (.long (-9223372036854775808 : Int64)), .second, .val (.int i8), .val (.int i9), .val (.int i10), .val (.long j11), .second, .val (.int (F4 p3)), .unset, .unset, .unset, .unset]) (by rcases hs13 with rfl | ⟨z, rfl⟩ <;> rfl) k) ?_
      show Done p e below s _ _ _ (T101.setTop (mkF m 195 #[.val (.int p1), .val (.int p2), .val (.int p3), .val (.int p4), .val (.int p5), .val (.int p6), .val (.long (-9223372036854775808 : Int64)), .second, .val (.int i8), .val (.int i9), .val (.int i10), .val (.long j11), .second, .val (.int (F4 p3)), .unset, .unset, .unset, .unset] []))
      refine Done.step (fun t k => XS.iload X101.here hx rfl (hb hby d3_195) rfl k) ?_
      show Done p e below s _ _ _ (T101.setTop (mkF m 197 #[.val (.int p1), .val (.int p2), .val (.int p3), .val (.int p4), .val (.int p5), .val (.int p6), .val (.long (-9223372036854775808 : Int64)), .second, .val (.int i8), .val (.int i9), .val (.int i10), .val (.long j11), .second, .val (.int (F4 p3)), .unset, .unset, .unset, .unset] [(.int (F4 p3))]))
      by_cases c3 : (F4 p3) < (0 : Int32)
      · refine Done.step (fun t k => XS.ifNo X101.here hx rfl (hb hby d3_197) rfl ((if0 _ _).trans (tlt c3).2.1) k) ?_
        show Done p e below s _ _ _ (T101.setTop (mkF m 200 #[.val (.int p1), .val (.int p2), .val (.int p3), .val (.int p4), .val (.int p5), .val (.int p6), .val (.long (-9223372036854775808 : Int64)), .second, .val (.int i8), .val (.int i9), .val (.int i10), .val (.long j11), .second, .val (.int (F4 p3)), .unset, .unset, .unset, .unset] []))
        refine Done.step (fun t k => XS.lload X101.here hx rfl (hb hby d3_200) rfl k) ?_
        show Done p e below s _ _ _ (T101.setTop (mkF m 202 #[.val (.int p1), .val (.int p2), .val (.int p3), .val (.int p4), .val (.int p5), .val (.int p6), .val (.long (-9223372036854775808 : Int64)), .second, .val (.int i8), .val (.int i9), .val (.int i10), .val (.long j11), .second, .val (.int (F4 p3)), .unset, .unset, .unset, .unset] [(.long (-9223372036854775808 : Int64))]))
        exact Done.long X101 hx hlk hret (hb hby d3_202) (by decide) (by decide) ⟨by rw [← hR, show X3_177 p1 p2 p3 p4 p5 p6 i8 i9 i10 j11 = (-9223372036854775808 : Int64) from by unfold X3_177; rw [if_neg c1, if_pos c2, if_pos c3]], N101, e101⟩
      · refine Done.step (fun t k => XS.ifYes X101.here hx rfl (pc0 := 197) (pc' := 203) rfl (hb hby d3_197) rfl ((if0 _ _).trans (flt c3).2.1) (by decide) (by decide) k) ?_
        show Done p e below s _ _ _ (T101.setTop (mkF m 203 #[.val (.int p1), .val (.int p2), .val (.int p3), .val (.int p4), .val (.int p5), .val (.int p6), .val (.long (-9223372036854775808 : Int64)), .second, .val (.int i8), .val (.int i9), .val (.int i10), .val (.long j11), .second, .val (.int (F4 p3)), .unset, .unset, .unset, .unset] []))
        refine Done.step (fun t k => XS.lload X101.here hx rfl (hb hby d3_203) rfl k) ?_
        show Done p e below s _ _ _ (T101.setTop (mkF m 205 #[.val (.int p1), .val (.int p2), .val (.int p3), .val (.int p4), .val (.int p5), .val (.int p6), .val (.long (-9223372036854775808 : Int64)), .second, .val (.int i8), .val (.int i9), .val (.int i10), .val (.long j11), .second, .val (.int (F4 p3)), .unset, .unset, .unset, .unset] [(.long j11)]))
        refine Done.step (X101.ldc2Long hx hown (mvT hZ (hw _ (List.mem_of_getElem? (i := 23) rfl))) (g := (mkF m 205 #[.val (.int p1), .val (.int p2), .val (.int p3), .val (.int p4), .val (.int p5), .val (.int p6), .val (.long (-9223372036854775808 : Int64)), .second, .val (.int i8), .val (.int i9), .val (.int i10), .val (.long j11), .second, .val (.int (F4 p3)), .unset, .unset, .unset, .unset] [(.long j11)])) rfl (hb hby d3_205)) ?_
        show Done p e below s _ _ _ (T101.setTop (mkF m 208 #[.val (.int p1), .val (.int p2), .val (.int p3), .val (.int p4), .val (.int p5), .val (.int p6), .val (.long (-9223372036854775808 : Int64)), .second, .val (.int i8), .val (.int i9), .val (.int i10), .val (.long j11), .second, .val (.int (F4 p3)), .unset, .unset, .unset, .unset] [(.long (10 : Int64)), (.long j11)]))
        refine Done.step (fun t k => XS.lmul X101.here hx rfl (hb hby d3_208) rfl k) ?_
        show Done p e below s _ _ _ (T101.setTop (mkF m 209 #[.val (.int p1), .val (.int p2), .val (.int p3), .val (.int p4), .val (.int p5), .val (.int p6), .val (.long (-9223372036854775808 : Int64)), .second, .val (.int i8), .val (.int i9), .val (.int i10), .val (.long j11), .second, .val (.int (F4 p3)), .unset, .unset, .unset, .unset] [(.long (j11 * (10 : Int64)))]))
        refine Done.step (fun t k => XS.iload X101.here hx rfl (hb hby d3_209) rfl k) ?_
        show Done p e below s _ _ _ (T101.setTop (mkF m 211 #[.val (.int p1), .val (.int p2), .val (.int p3), .val (.int p4), .val (.int p5), .val (.int p6), .val (.long (-9223372036854775808 : Int64)), .second, .val (.int i8), .val (.int i9), .val (.int i10), .val (.long j11), .second, .val (.int (F4 p3)), .unset, .unset, .unset, .unset] [(.int (F4 p3)), (.long (j11 * (10 : Int64)))]))
        refine Done.step (fun t k => XS.i2l X101.here hx rfl (hb hby d3_211) rfl k) ?_
        show Done p e below s _ _ _ (T101.setTop (mkF m 212 #[.val (.int p1), .val (.int p2), .val (.int p3), .val (.int p4), .val (.int p5), .val (.int p6), .val (.long (-9223372036854775808 : Int64)), .second, .val (.int i8), .val (.int i9), .val (.int i10), .val (.long j11), .second, .val (.int (F4 p3)), .unset, .unset, .unset, .unset] [(.long ((F4 p3)).toInt64), (.long (j11 * (10 : Int64)))]))
        refine Done.step (fun t k => XS.ladd X101.here hx rfl (hb hby d3_212) rfl k) ?_
        show Done p e below s _ _ _ (T101.setTop (mkF m 213 #[.val (.int p1), .val (.int p2), .val (.int p3), .val (.int p4), .val (.int p5), .val (.int p6), .val (.long (-9223372036854775808 : Int64)), .second, .val (.int i8), .val (.int i9), .val (.int i10), .val (.long j11), .second, .val (.int (F4 p3)), .unset, .unset, .unset, .unset] [(.long ((j11 * (10 : Int64)) + ((F4 p3)).toInt64))]))
        refine Done.step (fun t k => XS.lstore X101.here hx rfl (hb hby d3_213) rfl (l' := #[.val (.int p1), .val (.int p2), .val (.int p3), .val (.int p4), .val (.int p5), .val (.int p6), .val (.long (-9223372036854775808 : Int64)), .second, .val (.int i8), .val (.int i9), .val (.int i10), .val (.long ((j11 * (10 : Int64)) + ((F4 p3)).toInt64)), .second, .val (.int (F4 p3)), .unset, .unset, .unset, .unset]) rfl k) ?_
        show Done p e below s _ _ _ (T101.setTop (mkF m 215 #[.val (.int p1), .val (.int p2), .val (.int p3), .val (.int p4), .val (.int p5), .val (.int p6), .val (.long (-9223372036854775808 : Int64)), .second, .val (.int i8), .val (.int i9), .val (.int i10), .val (.long ((j11 * (10 : Int64)) + ((F4 p3)).toInt64)), .second, .val (.int (F4 p3)), .unset, .unset, .unset, .unset] []))
        exact blk3_215 p1 p2 p3 p4 p5 p6 i8 i9 i10 ((j11 * (10 : Int64)) + ((F4 p3)).toInt64) (.val (.int (F4 p3))) R X101 hx hZ hw hby hml hown hlk hret hnm N101 Z0 e101 (Or.inr ⟨_, rfl⟩) ((show X3_177 p1 p2 p3 p4 p5 p6 i8 i9 i10 j11 = (X3_215 p1 p2 p3 p4 p5 p6 i8 i9 i10 ((j11 * (10 : Int64)) + ((F4 p3)).toInt64)) from by unfold X3_177; rw [if_neg c1, if_pos c2, if_neg c3]).symm.trans hR)
    · refine Done.step (fun t k => XS.icmpYes X0.here hx rfl (pc0 := 186) (pc' := 215) rfl (hb hby d3_186) rfl (flt c2).2.1 (by decide) (by decide) k) ?_
      show Done p e below s _ _ _ (T.setTop (mkF m 215 #[.val (.int p1), .val (.int p2), .val (.int p3), .val (.int p4), .val (.int p5), .val (.int p6), .val (.long (-9223372036854775808 : Int64)), .second, .val (.int i8), .val (.int i9), .val (.int i10), .val (.long j11), .second, s13, .unset, .unset, .unset, .unset] []))
      exact blk3_215 p1 p2 p3 p4 p5 p6 i8 i9 i10 j11 (s13) R X0 hx hZ hw hby hml hown hlk hret hnm N0 Z0 e0 hs13 ((show X3_177 p1 p2 p3 p4 p5 p6 i8 i9 i10 j11 = (X3_215 p1 p2 p3 p4 p5 p6 i8 i9 i10 j11) from by unfold X3_177; rw [if_neg c1, if_neg c2]).symm.trans hR)
theorem d3_139 : decode method_6_code 139 = .ok (.iload 10, 2) := by decide +kernel
theorem d3_141 : decode method_6_code 141 = .ok (.iconst 1, 1) := by decide +kernel
theorem d3_142 : decode method_6_code 142 = .ok (.if_icmp .gt 35, 3) := by decide +kernel
theorem d3_145 : decode method_6_code 145 = .ok (.iconst 1, 1) := by decide +kernel
theorem d3_146 : decode method_6_code 146 = .ok (.iload 5, 2) := by decide +kernel
theorem d3_148 : decode method_6_code 148 = .ok (.if_icmp .ge 29, 3) := by decide +kernel
theorem d3_151 : decode method_6_code 151 = .ok (.iload_n 1, 1) := by decide +kernel
theorem d3_152 : decode method_6_code 152 = .ok (.invokestatic 36, 3) := by decide +kernel
theorem d3_155 : decode method_6_code 155 = .ok (.istore 13, 2) := by decide +kernel
theorem d3_157 : decode method_6_code 157 = .ok (.iload 13, 2) := by decide +kernel
theorem d3_159 : decode method_6_code 159 = .ok (.ifCond .ge 6, 3) := by decide +kernel
theorem d3_162 : decode method_6_code 162 = .ok (.lload 6, 2) := by decide +kernel
theorem d3_164 : decode method_6_code 164 = .ok (.lreturn, 1) := by decide +kernel
theorem d3_165 : decode method_6_code 165 = .ok (.lload 11, 2) := by decide +kernel
theorem d3_167 : decode method_6_code 167 = .ok (.ldc2_w 24, 3) := by decide +kernel
theorem d3_170 : decode method_6_code 170 = .ok (.lmul, 1) := by decide +kernel
theorem d3_171 : decode method_6_code 171 = .ok (.iload 13, 2) := by decide +kernel
theorem d3_173 : decode method_6_code 173 = .ok (.i2l, 1) := by decide +kernel
theorem d3_174 : decode method_6_code 174 = .ok (.ladd, 1) := by decide +kernel
theorem d3_175 : decode method_6_code 175 = .ok (.lstore 11, 2) := by decide +kernel
def X3_139 (p1 : Int32) (p2 : Int32) (p3 : Int32) (p4 : Int32) (p5 : Int32) (p6 : Int32) (i8 : Int32) (i9 : Int32) (i10 : Int32) (j11 : Int64) : Int64 := (if (1 : Int32) < i10 then (X3_177 p1 p2 p3 p4 p5 p6 i8 i9 i10 j11)
  else (if (1 : Int32) < p6 then (if (F4 p2) < (0 : Int32) then (-9223372036854775808 : Int64)
      else (X3_177 p1 p2 p3 p4 p5 p6 i8 i9 i10 ((j11 * (10 : Int64)) + ((F4 p2)).toInt64)))
    else (X3_177 p1 p2 p3 p4 p5 p6 i8 i9 i10 j11)))
set_option maxRecDepth 65536 in
set_option maxHeartbeats 40000000 in
theorem blk3_139 {p : Program} {l : Launch} {e : Env} {s : State} {m : MethodId} {args : Array Value} {below : List Frame} {meth : Method} {c : Code} {T : State} {locs : List Loc} {Z : State} {a0 : Array Value} {h0 : Heap} {n0 : Nat} (p1 : Int32) (p2 : Int32) (p3 : Int32) (p4 : Int32) (p5 : Int32) (p6 : Int32) (i8 : Int32) (i9 : Int32) (i10 : Int32) (j11 : Int64) (s13 : Slot) (R : Int64)
    (X0 : Stand p l e ({ frames := 1, cells := 0, slots := 0, locals := 20 } : Room) s m args below meth c T locs 0 0) (hx : p.tables.exec = Jvm.exec) (hZ : Z.Warmed39 s.vm) (hw : ∀ d ∈ tables_1, d.before a0 Z = true) (hby : c.code = method_6_code) (hml : c.maxLocals = 18) (hown : s.vm.findClass "weirstream/engine/WrittenNumberShortWholePinLaw" = some m.cls) (hlk : meth.locks = false) (hret : meth.sig.returnType = (some .long : Option FieldType)) (hnm : meth.name = "expected") (N0 : Fr n0 locs) (Z0 : n0 ≤ h0.size) (e0 : T.heap = h0) (hs13 : s13 = Slot.unset ∨ ∃ z : Int32, s13 = .val (.int z)) (hR : X3_139 p1 p2 p3 p4 p5 p6 i8 i9 i10 j11 = R) :
    Done p e below s (fun v h L => v = some (.long R) ∧ Fr n0 L ∧ h = h0) ({ frames := 1, cells := 0, slots := 0, locals := 20 } : Room).cells ({ frames := 1, cells := 0, slots := 0, locals := 20 } : Room).slots (T.setTop (mkF m 139 #[.val (.int p1), .val (.int p2), .val (.int p3), .val (.int p4), .val (.int p5), .val (.int p6), .val (.long (-9223372036854775808 : Int64)), .second, .val (.int i8), .val (.int i9), .val (.int i10), .val (.long j11), .second, s13, .unset, .unset, .unset, .unset] [])) := by
  show Done p e below s _ _ _ (T.setTop (mkF m 139 #[.val (.int p1), .val (.int p2), .val (.int p3), .val (.int p4), .val (.int p5), .val (.int p6), .val (.long (-9223372036854775808 : Int64)), .second, .val (.int i8), .val (.int i9), .val (.int i10), .val (.long j11), .second, s13, .unset, .unset, .unset, .unset] []))
  refine Done.step (fun t k => XS.iload X0.here hx rfl (hb hby d3_139) rfl k) ?_
  show Done p e below s _ _ _ (T.setTop (mkF m 141 #[.val (.int p1), .val (.int p2), .val (.int p3), .val (.int p4), .val (.int p5), .val (.int p6), .val (.long (-9223372036854775808 : Int64)), .second, .val (.int i8), .val (.int i9), .val (.int i10), .val (.long j11), .second, s13, .unset, .unset, .unset, .unset] [(.int i10)]))
  refine Done.step (fun t k => XS.iconst X0.here hx rfl (hb hby d3_141) k) ?_
  show Done p e below s _ _ _ (T.setTop (mkF m 142 #[.val (.int p1), .val (.int p2), .val (.int p3), .val (.int p4), .val (.int p5), .val (.int p6), .val (.long (-9223372036854775808 : Int64)), .second, .val (.int i8), .val (.int i9), .val (.int i10), .val (.long j11), .second, s13, .unset, .unset, .unset, .unset] [(.int (1 : Int32)), (.int i10)]))
  by_cases c1 : (1 : Int32) < i10
  · refine Done.step (fun t k => XS.icmpYes X0.here hx rfl (pc0 := 142) (pc' := 177) rfl (hb hby d3_142) rfl (tlt c1).2.2.1 (by decide) (by decide) k) ?_
    show Done p e below s _ _ _ (T.setTop (mkF m 177 #[.val (.int p1), .val (.int p2), .val (.int p3), .val (.int p4), .val (.int p5), .val (.int p6), .val (.long (-9223372036854775808 : Int64)), .second, .val (.int i8), .val (.int i9), .val (.int i10), .val (.long j11), .second, s13, .unset, .unset, .unset, .unset] []))
    exact blk3_177 p1 p2 p3 p4 p5 p6 i8 i9 i10 j11 (s13) R X0 hx hZ hw hby hml hown hlk hret hnm N0 Z0 e0 hs13 ((show X3_139 p1 p2 p3 p4 p5 p6 i8 i9 i10 j11 = (X3_177 p1 p2 p3 p4 p5 p6 i8 i9 i10 j11) from by unfold X3_139; rw [if_pos c1]).symm.trans hR)
  · refine Done.step (fun t k => XS.icmpNo X0.here hx rfl (hb hby d3_142) rfl (flt c1).2.2.1 k) ?_
    show Done p e below s _ _ _ (T.setTop (mkF m 145 #[.val (.int p1), .val (.int p2), .val (.int p3), .val (.int p4), .val (.int p5), .val (.int p6), .val (.long (-9223372036854775808 : Int64)), .second, .val (.int i8), .val (.int i9), .val (.int i10), .val (.long j11), .second, s13, .unset, .unset, .unset, .unset] []))
    refine Done.step (fun t k => XS.iconst X0.here hx rfl (hb hby d3_145) k) ?_
    show Done p e below s _ _ _ (T.setTop (mkF m 146 #[.val (.int p1), .val (.int p2), .val (.int p3), .val (.int p4), .val (.int p5), .val (.int p6), .val (.long (-9223372036854775808 : Int64)), .second, .val (.int i8), .val (.int i9), .val (.int i10), .val (.long j11), .second, s13, .unset, .unset, .unset, .unset] [(.int (1 : Int32))]))
    refine Done.step (fun t k => XS.iload X0.here hx rfl (hb hby d3_146) rfl k) ?_
    show Done p e below s _ _ _ (T.setTop (mkF m 148 #[.val (.int p1), .val (.int p2), .val (.int p3), .val (.int p4), .val (.int p5), .val (.int p6), .val (.long (-9223372036854775808 : Int64)), .second, .val (.int i8), .val (.int i9), .val (.int i10), .val (.long j11), .second, s13, .unset, .unset, .unset, .unset] [(.int p6), (.int (1 : Int32))]))
    by_cases c2 : (1 : Int32) < p6
    · refine Done.step (fun t k => XS.icmpNo X0.here hx rfl (hb hby d3_148) rfl (tlt c2).2.1 k) ?_
      show Done p e below s _ _ _ (T.setTop (mkF m 151 #[.val (.int p1), .val (.int p2), .val (.int p3), .val (.int p4), .val (.int p5), .val (.int p6), .val (.long (-9223372036854775808 : Int64)), .second, .val (.int i8), .val (.int i9), .val (.int i10), .val (.long j11), .second, s13, .unset, .unset, .unset, .unset] []))
      refine Done.step (fun t k => XS.iloadN X0.here hx rfl (hb hby d3_151) rfl k) ?_
      show Done p e below s _ _ _ (T.setTop (mkF m 152 #[.val (.int p1), .val (.int p2), .val (.int p3), .val (.int p4), .val (.int p5), .val (.int p6), .val (.long (-9223372036854775808 : Int64)), .second, .val (.int i8), .val (.int i9), .val (.int i10), .val (.long j11), .second, s13, .unset, .unset, .unset, .unset] [(.int p2)]))
      obtain ⟨v101, _, ⟨T101, L101, k101, n101⟩, -, X101, ⟨Lc101, hQ101, l101, y101, z101⟩, st101⟩ := Jvm.LawKit.callS X0 hx (y := (⟨"weirstream/engine/WrittenNumberShortWholePinLaw", "digitOf", "(B)I"⟩ : MethodName)) hown (mvT hZ (hw _ (List.mem_of_getElem? (i := 15) rfl))) (mvT hZ (hw _ (List.mem_of_getElem? (i := 16) rfl))) (mvT hZ (hw _ (List.mem_of_getElem? (i := 2) rfl))) (mvT hZ (hw _ (List.mem_of_getElem? (i := 17) rfl))) (by decide) (backOf (W := 0) (rm4 l Z a0 hw [] p2 h0 n0 Z0 ) hZ (hw _ (List.mem_of_getElem? (i := 17) rfl)) (hw _ (List.mem_of_getElem? (i := 2) rfl)) (by decide) (by decide)) (g := (mkF m 152 #[.val (.int p1), .val (.int p2), .val (.int p3), .val (.int p4), .val (.int p5), .val (.int p6), .val (.long (-9223372036854775808 : Int64)), .second, .val (.int i8), .val (.int i9), .val (.int i10), .val (.long j11), .second, s13, .unset, .unset, .unset, .unset] [(.int p2)])) rfl (by rw [hml]; rfl) (argsL := [(.int p2)]) (rest := []) (lenOf pd_0 rfl) rfl (by show 2 * 0 + _ ≤ _; exact Nat.le_of_eq rfl) (hb hby d3_152) (fun _ _ => ⟨rfl, e0, (by decide : 0 + 0 ≤ _), (by decide : 0 + 0 ≤ _)⟩)
      dsimp only [Pt.U, Pt.locs, Pt.cells, Pt.slots] at X101 l101 y101 z101 st101 hQ101
      subst l101 y101 z101
      refine Done.step st101 ?_
      obtain ⟨rfl, N101q, e101⟩ := hQ101
      have N101 := Fr.app N0 N101q
      show Done p e below s _ _ _ (T101.setTop (mkF m 155 #[.val (.int p1), .val (.int p2), .val (.int p3), .val (.int p4), .val (.int p5), .val (.int p6), .val (.long (-9223372036854775808 : Int64)), .second, .val (.int i8), .val (.int i9), .val (.int i10), .val (.long j11), .second, s13, .unset, .unset, .unset, .unset] [(.int (F4 p2))]))
      refine Done.step (fun t k => XS.istore X101.here hx rfl (hb hby d3_155) rfl (l' := #[.val (.int p1), .val (.int p2), .val (.int p3), .val (.int p4), .val (.int p5), .val (.int p6), .val (.long (-9223372036854775808 : Int64)), .second, .val (.int i8), .val (.int i9), .val (.int i10), .val (.long j11), .second, .val (.int (F4 p2)), .unset, .unset, .unset, .unset]) (by rcases hs13 with rfl | ⟨z, rfl⟩ <;> rfl) k) ?_
      show Done p e below s _ _ _ (T101.setTop (mkF m 157 #[.val (.int p1), .val (.int p2), .val (.int p3), .val (.int p4), .val (.int p5), .val (.int p6), .val (.long (-9223372036854775808 : Int64)), .second, .val (.int i8), .val (.int i9), .val (.int i10), .val (.long j11), .second, .val (.int (F4 p2)), .unset, .unset, .unset, .unset] []))
      refine Done.step (fun t k => XS.iload X101.here hx rfl (hb hby d3_157) rfl k) ?_
      show Done p e below s _ _ _ (T101.setTop (mkF m 159 #[.val (.int p1), .val (.int p2), .val (.int p3), .val (.int p4), .val (.int p5), .val (.int p6), .val (.long (-9223372036854775808 : Int64)), .second, .val (.int i8), .val (.int i9), .val (.int i10), .val (.long j11), .second, .val (.int (F4 p2)), .unset, .unset, .unset, .unset] [(.int (F4 p2))]))
      by_cases c3 : (F4 p2) < (0 : Int32)
      · refine Done.step (fun t k => XS.ifNo X101.here hx rfl (hb hby d3_159) rfl ((if0 _ _).trans (tlt c3).2.1) k) ?_
        show Done p e below s _ _ _ (T101.setTop (mkF m 162 #[.val (.int p1), .val (.int p2), .val (.int p3), .val (.int p4), .val (.int p5), .val (.int p6), .val (.long (-9223372036854775808 : Int64)), .second, .val (.int i8), .val (.int i9), .val (.int i10), .val (.long j11), .second, .val (.int (F4 p2)), .unset, .unset, .unset, .unset] []))
        refine Done.step (fun t k => XS.lload X101.here hx rfl (hb hby d3_162) rfl k) ?_
        show Done p e below s _ _ _ (T101.setTop (mkF m 164 #[.val (.int p1), .val (.int p2), .val (.int p3), .val (.int p4), .val (.int p5), .val (.int p6), .val (.long (-9223372036854775808 : Int64)), .second, .val (.int i8), .val (.int i9), .val (.int i10), .val (.long j11), .second, .val (.int (F4 p2)), .unset, .unset, .unset, .unset] [(.long (-9223372036854775808 : Int64))]))
        exact Done.long X101 hx hlk hret (hb hby d3_164) (by decide) (by decide) ⟨by rw [← hR, show X3_139 p1 p2 p3 p4 p5 p6 i8 i9 i10 j11 = (-9223372036854775808 : Int64) from by unfold X3_139; rw [if_neg c1, if_pos c2, if_pos c3]], N101, e101⟩
      · refine Done.step (fun t k => XS.ifYes X101.here hx rfl (pc0 := 159) (pc' := 165) rfl (hb hby d3_159) rfl ((if0 _ _).trans (flt c3).2.1) (by decide) (by decide) k) ?_
        show Done p e below s _ _ _ (T101.setTop (mkF m 165 #[.val (.int p1), .val (.int p2), .val (.int p3), .val (.int p4), .val (.int p5), .val (.int p6), .val (.long (-9223372036854775808 : Int64)), .second, .val (.int i8), .val (.int i9), .val (.int i10), .val (.long j11), .second, .val (.int (F4 p2)), .unset, .unset, .unset, .unset] []))
        refine Done.step (fun t k => XS.lload X101.here hx rfl (hb hby d3_165) rfl k) ?_
        show Done p e below s _ _ _ (T101.setTop (mkF m 167 #[.val (.int p1), .val (.int p2), .val (.int p3), .val (.int p4), .val (.int p5), .val (.int p6), .val (.long (-9223372036854775808 : Int64)), .second, .val (.int i8), .val (.int i9), .val (.int i10), .val (.long j11), .second, .val (.int (F4 p2)), .unset, .unset, .unset, .unset] [(.long j11)]))
        refine Done.step (X101.ldc2Long hx hown (mvT hZ (hw _ (List.mem_of_getElem? (i := 23) rfl))) (g := (mkF m 167 #[.val (.int p1), .val (.int p2), .val (.int p3), .val (.int p4), .val (.int p5), .val (.int p6), .val (.long (-9223372036854775808 : Int64)), .second, .val (.int i8), .val (.int i9), .val (.int i10), .val (.long j11), .second, .val (.int (F4 p2)), .unset, .unset, .unset, .unset] [(.long j11)])) rfl (hb hby d3_167)) ?_
        show Done p e below s _ _ _ (T101.setTop (mkF m 170 #[.val (.int p1), .val (.int p2), .val (.int p3), .val (.int p4), .val (.int p5), .val (.int p6), .val (.long (-9223372036854775808 : Int64)), .second, .val (.int i8), .val (.int i9), .val (.int i10), .val (.long j11), .second, .val (.int (F4 p2)), .unset, .unset, .unset, .unset] [(.long (10 : Int64)), (.long j11)]))
        refine Done.step (fun t k => XS.lmul X101.here hx rfl (hb hby d3_170) rfl k) ?_
        show Done p e below s _ _ _ (T101.setTop (mkF m 171 #[.val (.int p1), .val (.int p2), .val (.int p3), .val (.int p4), .val (.int p5), .val (.int p6), .val (.long (-9223372036854775808 : Int64)), .second, .val (.int i8), .val (.int i9), .val (.int i10), .val (.long j11), .second, .val (.int (F4 p2)), .unset, .unset, .unset, .unset] [(.long (j11 * (10 : Int64)))]))
        refine Done.step (fun t k => XS.iload X101.here hx rfl (hb hby d3_171) rfl k) ?_
        show Done p e below s _ _ _ (T101.setTop (mkF m 173 #[.val (.int p1), .val (.int p2), .val (.int p3), .val (.int p4), .val (.int p5), .val (.int p6), .val (.long (-9223372036854775808 : Int64)), .second, .val (.int i8), .val (.int i9), .val (.int i10), .val (.long j11), .second, .val (.int (F4 p2)), .unset, .unset, .unset, .unset] [(.int (F4 p2)), (.long (j11 * (10 : Int64)))]))
        refine Done.step (fun t k => XS.i2l X101.here hx rfl (hb hby d3_173) rfl k) ?_
        show Done p e below s _ _ _ (T101.setTop (mkF m 174 #[.val (.int p1), .val (.int p2), .val (.int p3), .val (.int p4), .val (.int p5), .val (.int p6), .val (.long (-9223372036854775808 : Int64)), .second, .val (.int i8), .val (.int i9), .val (.int i10), .val (.long j11), .second, .val (.int (F4 p2)), .unset, .unset, .unset, .unset] [(.long ((F4 p2)).toInt64), (.long (j11 * (10 : Int64)))]))
        refine Done.step (fun t k => XS.ladd X101.here hx rfl (hb hby d3_174) rfl k) ?_
        show Done p e below s _ _ _ (T101.setTop (mkF m 175 #[.val (.int p1), .val (.int p2), .val (.int p3), .val (.int p4), .val (.int p5), .val (.int p6), .val (.long (-9223372036854775808 : Int64)), .second, .val (.int i8), .val (.int i9), .val (.int i10), .val (.long j11), .second, .val (.int (F4 p2)), .unset, .unset, .unset, .unset] [(.long ((j11 * (10 : Int64)) + ((F4 p2)).toInt64))]))
        refine Done.step (fun t k => XS.lstore X101.here hx rfl (hb hby d3_175) rfl (l' := #[.val (.int p1), .val (.int p2), .val (.int p3), .val (.int p4), .val (.int p5), .val (.int p6), .val (.long (-9223372036854775808 : Int64)), .second, .val (.int i8), .val (.int i9), .val (.int i10), .val (.long ((j11 * (10 : Int64)) + ((F4 p2)).toInt64)), .second, .val (.int (F4 p2)), .unset, .unset, .unset, .unset]) rfl k) ?_
        show Done p e below s _ _ _ (T101.setTop (mkF m 177 #[.val (.int p1), .val (.int p2), .val (.int p3), .val (.int p4), .val (.int p5), .val (.int p6), .val (.long (-9223372036854775808 : Int64)), .second, .val (.int i8), .val (.int i9), .val (.int i10), .val (.long ((j11 * (10 : Int64)) + ((F4 p2)).toInt64)), .second, .val (.int (F4 p2)), .unset, .unset, .unset, .unset] []))
        exact blk3_177 p1 p2 p3 p4 p5 p6 i8 i9 i10 ((j11 * (10 : Int64)) + ((F4 p2)).toInt64) (.val (.int (F4 p2))) R X101 hx hZ hw hby hml hown hlk hret hnm N101 Z0 e101 (Or.inr ⟨_, rfl⟩) ((show X3_139 p1 p2 p3 p4 p5 p6 i8 i9 i10 j11 = (X3_177 p1 p2 p3 p4 p5 p6 i8 i9 i10 ((j11 * (10 : Int64)) + ((F4 p2)).toInt64)) from by unfold X3_139; rw [if_neg c1, if_pos c2, if_neg c3]).symm.trans hR)
    · refine Done.step (fun t k => XS.icmpYes X0.here hx rfl (pc0 := 148) (pc' := 177) rfl (hb hby d3_148) rfl (flt c2).2.1 (by decide) (by decide) k) ?_
      show Done p e below s _ _ _ (T.setTop (mkF m 177 #[.val (.int p1), .val (.int p2), .val (.int p3), .val (.int p4), .val (.int p5), .val (.int p6), .val (.long (-9223372036854775808 : Int64)), .second, .val (.int i8), .val (.int i9), .val (.int i10), .val (.long j11), .second, s13, .unset, .unset, .unset, .unset] []))
      exact blk3_177 p1 p2 p3 p4 p5 p6 i8 i9 i10 j11 (s13) R X0 hx hZ hw hby hml hown hlk hret hnm N0 Z0 e0 hs13 ((show X3_139 p1 p2 p3 p4 p5 p6 i8 i9 i10 j11 = (X3_177 p1 p2 p3 p4 p5 p6 i8 i9 i10 j11) from by unfold X3_139; rw [if_neg c1, if_neg c2]).symm.trans hR)
theorem d3_84 : decode method_6_code 84 = .ok (.istore 10, 2) := by decide +kernel
theorem d3_86 : decode method_6_code 86 = .ok (.iload 5, 2) := by decide +kernel
theorem d3_88 : decode method_6_code 88 = .ok (.iload 10, 2) := by decide +kernel
theorem d3_90 : decode method_6_code 90 = .ok (.isub, 1) := by decide +kernel
theorem d3_91 : decode method_6_code 91 = .ok (.bipush 18, 2) := by decide +kernel
theorem d3_93 : decode method_6_code 93 = .ok (.if_icmp .le 6, 3) := by decide +kernel
theorem d3_96 : decode method_6_code 96 = .ok (.lload 6, 2) := by decide +kernel
theorem d3_98 : decode method_6_code 98 = .ok (.lreturn, 1) := by decide +kernel
theorem d3_99 : decode method_6_code 99 = .ok (.lconst 0, 1) := by decide +kernel
theorem d3_100 : decode method_6_code 100 = .ok (.lstore 11, 2) := by decide +kernel
theorem d3_102 : decode method_6_code 102 = .ok (.iload 10, 2) := by decide +kernel
theorem d3_104 : decode method_6_code 104 = .ok (.ifCond .gt 35, 3) := by decide +kernel
theorem d3_107 : decode method_6_code 107 = .ok (.iconst 0, 1) := by decide +kernel
theorem d3_108 : decode method_6_code 108 = .ok (.iload 5, 2) := by decide +kernel
theorem d3_110 : decode method_6_code 110 = .ok (.if_icmp .ge 29, 3) := by decide +kernel
theorem d3_113 : decode method_6_code 113 = .ok (.iload_n 0, 1) := by decide +kernel
theorem d3_114 : decode method_6_code 114 = .ok (.invokestatic 36, 3) := by decide +kernel
theorem d3_117 : decode method_6_code 117 = .ok (.istore 13, 2) := by decide +kernel
theorem d3_119 : decode method_6_code 119 = .ok (.iload 13, 2) := by decide +kernel
theorem d3_121 : decode method_6_code 121 = .ok (.ifCond .ge 6, 3) := by decide +kernel
theorem d3_124 : decode method_6_code 124 = .ok (.lload 6, 2) := by decide +kernel
theorem d3_126 : decode method_6_code 126 = .ok (.lreturn, 1) := by decide +kernel
theorem d3_127 : decode method_6_code 127 = .ok (.lload 11, 2) := by decide +kernel
theorem d3_129 : decode method_6_code 129 = .ok (.ldc2_w 24, 3) := by decide +kernel
theorem d3_132 : decode method_6_code 132 = .ok (.lmul, 1) := by decide +kernel
theorem d3_133 : decode method_6_code 133 = .ok (.iload 13, 2) := by decide +kernel
theorem d3_135 : decode method_6_code 135 = .ok (.i2l, 1) := by decide +kernel
theorem d3_136 : decode method_6_code 136 = .ok (.ladd, 1) := by decide +kernel
theorem d3_137 : decode method_6_code 137 = .ok (.lstore 11, 2) := by decide +kernel
def X3_84 (p1 : Int32) (p2 : Int32) (p3 : Int32) (p4 : Int32) (p5 : Int32) (p6 : Int32) (i8 : Int32) (i9 : Int32) (t0 : Int32) : Int64 := (if (18 : Int32) < (p6 - t0) then (-9223372036854775808 : Int64)
  else (if (0 : Int32) < t0 then (X3_139 p1 p2 p3 p4 p5 p6 i8 i9 t0 (0 : Int64))
    else (if (0 : Int32) < p6 then (if (F4 p1) < (0 : Int32) then (-9223372036854775808 : Int64)
        else (X3_139 p1 p2 p3 p4 p5 p6 i8 i9 t0 (((0 : Int64) * (10 : Int64)) + ((F4 p1)).toInt64)))
      else (X3_139 p1 p2 p3 p4 p5 p6 i8 i9 t0 (0 : Int64)))))
set_option maxRecDepth 65536 in
set_option maxHeartbeats 40000000 in
theorem blk3_84 {p : Program} {l : Launch} {e : Env} {s : State} {m : MethodId} {args : Array Value} {below : List Frame} {meth : Method} {c : Code} {T : State} {locs : List Loc} {Z : State} {a0 : Array Value} {h0 : Heap} {n0 : Nat} (p1 : Int32) (p2 : Int32) (p3 : Int32) (p4 : Int32) (p5 : Int32) (p6 : Int32) (i8 : Int32) (i9 : Int32) (t0 : Int32) (R : Int64)
    (X0 : Stand p l e ({ frames := 1, cells := 0, slots := 0, locals := 20 } : Room) s m args below meth c T locs 0 0) (hx : p.tables.exec = Jvm.exec) (hZ : Z.Warmed39 s.vm) (hw : ∀ d ∈ tables_1, d.before a0 Z = true) (hby : c.code = method_6_code) (hml : c.maxLocals = 18) (hown : s.vm.findClass "weirstream/engine/WrittenNumberShortWholePinLaw" = some m.cls) (hlk : meth.locks = false) (hret : meth.sig.returnType = (some .long : Option FieldType)) (hnm : meth.name = "expected") (N0 : Fr n0 locs) (Z0 : n0 ≤ h0.size) (e0 : T.heap = h0) (hR : X3_84 p1 p2 p3 p4 p5 p6 i8 i9 t0 = R) :
    Done p e below s (fun v h L => v = some (.long R) ∧ Fr n0 L ∧ h = h0) ({ frames := 1, cells := 0, slots := 0, locals := 20 } : Room).cells ({ frames := 1, cells := 0, slots := 0, locals := 20 } : Room).slots (T.setTop (mkF m 84 #[.val (.int p1), .val (.int p2), .val (.int p3), .val (.int p4), .val (.int p5), .val (.int p6), .val (.long (-9223372036854775808 : Int64)), .second, .val (.int i8), .val (.int i9), .unset, .unset, .unset, .unset, .unset, .unset, .unset, .unset] [(.int t0)])) := by
  show Done p e below s _ _ _ (T.setTop (mkF m 84 #[.val (.int p1), .val (.int p2), .val (.int p3), .val (.int p4), .val (.int p5), .val (.int p6), .val (.long (-9223372036854775808 : Int64)), .second, .val (.int i8), .val (.int i9), .unset, .unset, .unset, .unset, .unset, .unset, .unset, .unset] [(.int t0)]))
  refine Done.step (fun t k => XS.istore X0.here hx rfl (hb hby d3_84) rfl (l' := #[.val (.int p1), .val (.int p2), .val (.int p3), .val (.int p4), .val (.int p5), .val (.int p6), .val (.long (-9223372036854775808 : Int64)), .second, .val (.int i8), .val (.int i9), .val (.int t0), .unset, .unset, .unset, .unset, .unset, .unset, .unset]) rfl k) ?_
  show Done p e below s _ _ _ (T.setTop (mkF m 86 #[.val (.int p1), .val (.int p2), .val (.int p3), .val (.int p4), .val (.int p5), .val (.int p6), .val (.long (-9223372036854775808 : Int64)), .second, .val (.int i8), .val (.int i9), .val (.int t0), .unset, .unset, .unset, .unset, .unset, .unset, .unset] []))
  refine Done.step (fun t k => XS.iload X0.here hx rfl (hb hby d3_86) rfl k) ?_
  show Done p e below s _ _ _ (T.setTop (mkF m 88 #[.val (.int p1), .val (.int p2), .val (.int p3), .val (.int p4), .val (.int p5), .val (.int p6), .val (.long (-9223372036854775808 : Int64)), .second, .val (.int i8), .val (.int i9), .val (.int t0), .unset, .unset, .unset, .unset, .unset, .unset, .unset] [(.int p6)]))
  refine Done.step (fun t k => XS.iload X0.here hx rfl (hb hby d3_88) rfl k) ?_
  show Done p e below s _ _ _ (T.setTop (mkF m 90 #[.val (.int p1), .val (.int p2), .val (.int p3), .val (.int p4), .val (.int p5), .val (.int p6), .val (.long (-9223372036854775808 : Int64)), .second, .val (.int i8), .val (.int i9), .val (.int t0), .unset, .unset, .unset, .unset, .unset, .unset, .unset] [(.int t0), (.int p6)]))
  refine Done.step (fun t k => XS.isub X0.here hx rfl (hb hby d3_90) rfl k) ?_
  show Done p e below s _ _ _ (T.setTop (mkF m 91 #[.val (.int p1), .val (.int p2), .val (.int p3), .val (.int p4), .val (.int p5), .val (.int p6), .val (.long (-9223372036854775808 : Int64)), .second, .val (.int i8), .val (.int i9), .val (.int t0), .unset, .unset, .unset, .unset, .unset, .unset, .unset] [(.int (p6 - t0))]))
  refine Done.step (fun t k => XS.bipush X0.here hx rfl (hb hby d3_91) k) ?_
  show Done p e below s _ _ _ (T.setTop (mkF m 93 #[.val (.int p1), .val (.int p2), .val (.int p3), .val (.int p4), .val (.int p5), .val (.int p6), .val (.long (-9223372036854775808 : Int64)), .second, .val (.int i8), .val (.int i9), .val (.int t0), .unset, .unset, .unset, .unset, .unset, .unset, .unset] [(.int (18 : Int32)), (.int (p6 - t0))]))
  by_cases c1 : (18 : Int32) < (p6 - t0)
  · refine Done.step (fun t k => XS.icmpNo X0.here hx rfl (hb hby d3_93) rfl (tlt c1).2.2.2 k) ?_
    show Done p e below s _ _ _ (T.setTop (mkF m 96 #[.val (.int p1), .val (.int p2), .val (.int p3), .val (.int p4), .val (.int p5), .val (.int p6), .val (.long (-9223372036854775808 : Int64)), .second, .val (.int i8), .val (.int i9), .val (.int t0), .unset, .unset, .unset, .unset, .unset, .unset, .unset] []))
    refine Done.step (fun t k => XS.lload X0.here hx rfl (hb hby d3_96) rfl k) ?_
    show Done p e below s _ _ _ (T.setTop (mkF m 98 #[.val (.int p1), .val (.int p2), .val (.int p3), .val (.int p4), .val (.int p5), .val (.int p6), .val (.long (-9223372036854775808 : Int64)), .second, .val (.int i8), .val (.int i9), .val (.int t0), .unset, .unset, .unset, .unset, .unset, .unset, .unset] [(.long (-9223372036854775808 : Int64))]))
    exact Done.long X0 hx hlk hret (hb hby d3_98) (by decide) (by decide) ⟨by rw [← hR, show X3_84 p1 p2 p3 p4 p5 p6 i8 i9 t0 = (-9223372036854775808 : Int64) from by unfold X3_84; rw [if_pos c1]], N0, e0⟩
  · refine Done.step (fun t k => XS.icmpYes X0.here hx rfl (pc0 := 93) (pc' := 99) rfl (hb hby d3_93) rfl (flt c1).2.2.2 (by decide) (by decide) k) ?_
    show Done p e below s _ _ _ (T.setTop (mkF m 99 #[.val (.int p1), .val (.int p2), .val (.int p3), .val (.int p4), .val (.int p5), .val (.int p6), .val (.long (-9223372036854775808 : Int64)), .second, .val (.int i8), .val (.int i9), .val (.int t0), .unset, .unset, .unset, .unset, .unset, .unset, .unset] []))
    refine Done.step (fun t k => XS.lconst X0.here hx rfl (hb hby d3_99) k) ?_
    show Done p e below s _ _ _ (T.setTop (mkF m 100 #[.val (.int p1), .val (.int p2), .val (.int p3), .val (.int p4), .val (.int p5), .val (.int p6), .val (.long (-9223372036854775808 : Int64)), .second, .val (.int i8), .val (.int i9), .val (.int t0), .unset, .unset, .unset, .unset, .unset, .unset, .unset] [(.long (0 : Int64))]))
    refine Done.step (fun t k => XS.lstore X0.here hx rfl (hb hby d3_100) rfl (l' := #[.val (.int p1), .val (.int p2), .val (.int p3), .val (.int p4), .val (.int p5), .val (.int p6), .val (.long (-9223372036854775808 : Int64)), .second, .val (.int i8), .val (.int i9), .val (.int t0), .val (.long (0 : Int64)), .second, .unset, .unset, .unset, .unset, .unset]) rfl k) ?_
    show Done p e below s _ _ _ (T.setTop (mkF m 102 #[.val (.int p1), .val (.int p2), .val (.int p3), .val (.int p4), .val (.int p5), .val (.int p6), .val (.long (-9223372036854775808 : Int64)), .second, .val (.int i8), .val (.int i9), .val (.int t0), .val (.long (0 : Int64)), .second, .unset, .unset, .unset, .unset, .unset] []))
    refine Done.step (fun t k => XS.iload X0.here hx rfl (hb hby d3_102) rfl k) ?_
    show Done p e below s _ _ _ (T.setTop (mkF m 104 #[.val (.int p1), .val (.int p2), .val (.int p3), .val (.int p4), .val (.int p5), .val (.int p6), .val (.long (-9223372036854775808 : Int64)), .second, .val (.int i8), .val (.int i9), .val (.int t0), .val (.long (0 : Int64)), .second, .unset, .unset, .unset, .unset, .unset] [(.int t0)]))
    by_cases c2 : (0 : Int32) < t0
    · refine Done.step (fun t k => XS.ifYes X0.here hx rfl (pc0 := 104) (pc' := 139) rfl (hb hby d3_104) rfl ((if0 _ _).trans (tlt c2).2.2.1) (by decide) (by decide) k) ?_
      show Done p e below s _ _ _ (T.setTop (mkF m 139 #[.val (.int p1), .val (.int p2), .val (.int p3), .val (.int p4), .val (.int p5), .val (.int p6), .val (.long (-9223372036854775808 : Int64)), .second, .val (.int i8), .val (.int i9), .val (.int t0), .val (.long (0 : Int64)), .second, .unset, .unset, .unset, .unset, .unset] []))
      exact blk3_139 p1 p2 p3 p4 p5 p6 i8 i9 t0 (0 : Int64) (.unset : Slot) R X0 hx hZ hw hby hml hown hlk hret hnm N0 Z0 e0 (Or.inl rfl) ((show X3_84 p1 p2 p3 p4 p5 p6 i8 i9 t0 = (X3_139 p1 p2 p3 p4 p5 p6 i8 i9 t0 (0 : Int64)) from by unfold X3_84; rw [if_neg c1, if_pos c2]).symm.trans hR)
    · refine Done.step (fun t k => XS.ifNo X0.here hx rfl (hb hby d3_104) rfl ((if0 _ _).trans (flt c2).2.2.1) k) ?_
      show Done p e below s _ _ _ (T.setTop (mkF m 107 #[.val (.int p1), .val (.int p2), .val (.int p3), .val (.int p4), .val (.int p5), .val (.int p6), .val (.long (-9223372036854775808 : Int64)), .second, .val (.int i8), .val (.int i9), .val (.int t0), .val (.long (0 : Int64)), .second, .unset, .unset, .unset, .unset, .unset] []))
      refine Done.step (fun t k => XS.iconst X0.here hx rfl (hb hby d3_107) k) ?_
      show Done p e below s _ _ _ (T.setTop (mkF m 108 #[.val (.int p1), .val (.int p2), .val (.int p3), .val (.int p4), .val (.int p5), .val (.int p6), .val (.long (-9223372036854775808 : Int64)), .second, .val (.int i8), .val (.int i9), .val (.int t0), .val (.long (0 : Int64)), .second, .unset, .unset, .unset, .unset, .unset] [(.int (0 : Int32))]))
      refine Done.step (fun t k => XS.iload X0.here hx rfl (hb hby d3_108) rfl k) ?_
      show Done p e below s _ _ _ (T.setTop (mkF m 110 #[.val (.int p1), .val (.int p2), .val (.int p3), .val (.int p4), .val (.int p5), .val (.int p6), .val (.long (-9223372036854775808 : Int64)), .second, .val (.int i8), .val (.int i9), .val (.int t0), .val (.long (0 : Int64)), .second, .unset, .unset, .unset, .unset, .unset] [(.int p6), (.int (0 : Int32))]))
      by_cases c3 : (0 : Int32) < p6
      · refine Done.step (fun t k => XS.icmpNo X0.here hx rfl (hb hby d3_110) rfl (tlt c3).2.1 k) ?_
        show Done p e below s _ _ _ (T.setTop (mkF m 113 #[.val (.int p1), .val (.int p2), .val (.int p3), .val (.int p4), .val (.int p5), .val (.int p6), .val (.long (-9223372036854775808 : Int64)), .second, .val (.int i8), .val (.int i9), .val (.int t0), .val (.long (0 : Int64)), .second, .unset, .unset, .unset, .unset, .unset] []))
        refine Done.step (fun t k => XS.iloadN X0.here hx rfl (hb hby d3_113) rfl k) ?_
        show Done p e below s _ _ _ (T.setTop (mkF m 114 #[.val (.int p1), .val (.int p2), .val (.int p3), .val (.int p4), .val (.int p5), .val (.int p6), .val (.long (-9223372036854775808 : Int64)), .second, .val (.int i8), .val (.int i9), .val (.int t0), .val (.long (0 : Int64)), .second, .unset, .unset, .unset, .unset, .unset] [(.int p1)]))
        obtain ⟨v101, _, ⟨T101, L101, k101, n101⟩, -, X101, ⟨Lc101, hQ101, l101, y101, z101⟩, st101⟩ := Jvm.LawKit.callS X0 hx (y := (⟨"weirstream/engine/WrittenNumberShortWholePinLaw", "digitOf", "(B)I"⟩ : MethodName)) hown (mvT hZ (hw _ (List.mem_of_getElem? (i := 15) rfl))) (mvT hZ (hw _ (List.mem_of_getElem? (i := 16) rfl))) (mvT hZ (hw _ (List.mem_of_getElem? (i := 2) rfl))) (mvT hZ (hw _ (List.mem_of_getElem? (i := 17) rfl))) (by decide) (backOf (W := 0) (rm4 l Z a0 hw [] p1 h0 n0 Z0 ) hZ (hw _ (List.mem_of_getElem? (i := 17) rfl)) (hw _ (List.mem_of_getElem? (i := 2) rfl)) (by decide) (by decide)) (g := (mkF m 114 #[.val (.int p1), .val (.int p2), .val (.int p3), .val (.int p4), .val (.int p5), .val (.int p6), .val (.long (-9223372036854775808 : Int64)), .second, .val (.int i8), .val (.int i9), .val (.int t0), .val (.long (0 : Int64)), .second, .unset, .unset, .unset, .unset, .unset] [(.int p1)])) rfl (by rw [hml]; rfl) (argsL := [(.int p1)]) (rest := []) (lenOf pd_0 rfl) rfl (by show 2 * 0 + _ ≤ _; exact Nat.le_of_eq rfl) (hb hby d3_114) (fun _ _ => ⟨rfl, e0, (by decide : 0 + 0 ≤ _), (by decide : 0 + 0 ≤ _)⟩)
        dsimp only [Pt.U, Pt.locs, Pt.cells, Pt.slots] at X101 l101 y101 z101 st101 hQ101
        subst l101 y101 z101
        refine Done.step st101 ?_
        obtain ⟨rfl, N101q, e101⟩ := hQ101
        have N101 := Fr.app N0 N101q
        show Done p e below s _ _ _ (T101.setTop (mkF m 117 #[.val (.int p1), .val (.int p2), .val (.int p3), .val (.int p4), .val (.int p5), .val (.int p6), .val (.long (-9223372036854775808 : Int64)), .second, .val (.int i8), .val (.int i9), .val (.int t0), .val (.long (0 : Int64)), .second, .unset, .unset, .unset, .unset, .unset] [(.int (F4 p1))]))
        refine Done.step (fun t k => XS.istore X101.here hx rfl (hb hby d3_117) rfl (l' := #[.val (.int p1), .val (.int p2), .val (.int p3), .val (.int p4), .val (.int p5), .val (.int p6), .val (.long (-9223372036854775808 : Int64)), .second, .val (.int i8), .val (.int i9), .val (.int t0), .val (.long (0 : Int64)), .second, .val (.int (F4 p1)), .unset, .unset, .unset, .unset]) rfl k) ?_
        show Done p e below s _ _ _ (T101.setTop (mkF m 119 #[.val (.int p1), .val (.int p2), .val (.int p3), .val (.int p4), .val (.int p5), .val (.int p6), .val (.long (-9223372036854775808 : Int64)), .second, .val (.int i8), .val (.int i9), .val (.int t0), .val (.long (0 : Int64)), .second, .val (.int (F4 p1)), .unset, .unset, .unset, .unset] []))
        refine Done.step (fun t k => XS.iload X101.here hx rfl (hb hby d3_119) rfl k) ?_
        show Done p e below s _ _ _ (T101.setTop (mkF m 121 #[.val (.int p1), .val (.int p2), .val (.int p3), .val (.int p4), .val (.int p5), .val (.int p6), .val (.long (-9223372036854775808 : Int64)), .second, .val (.int i8), .val (.int i9), .val (.int t0), .val (.long (0 : Int64)), .second, .val (.int (F4 p1)), .unset, .unset, .unset, .unset] [(.int (F4 p1))]))
        by_cases c4 : (F4 p1) < (0 : Int32)
        · refine Done.step (fun t k => XS.ifNo X101.here hx rfl (hb hby d3_121) rfl ((if0 _ _).trans (tlt c4).2.1) k) ?_
          show Done p e below s _ _ _ (T101.setTop (mkF m 124 #[.val (.int p1), .val (.int p2), .val (.int p3), .val (.int p4), .val (.int p5), .val (.int p6), .val (.long (-9223372036854775808 : Int64)), .second, .val (.int i8), .val (.int i9), .val (.int t0), .val (.long (0 : Int64)), .second, .val (.int (F4 p1)), .unset, .unset, .unset, .unset] []))
          refine Done.step (fun t k => XS.lload X101.here hx rfl (hb hby d3_124) rfl k) ?_
          show Done p e below s _ _ _ (T101.setTop (mkF m 126 #[.val (.int p1), .val (.int p2), .val (.int p3), .val (.int p4), .val (.int p5), .val (.int p6), .val (.long (-9223372036854775808 : Int64)), .second, .val (.int i8), .val (.int i9), .val (.int t0), .val (.long (0 : Int64)), .second, .val (.int (F4 p1)), .unset, .unset, .unset, .unset] [(.long (-9223372036854775808 : Int64))]))
          exact Done.long X101 hx hlk hret (hb hby d3_126) (by decide) (by decide) ⟨by rw [← hR, show X3_84 p1 p2 p3 p4 p5 p6 i8 i9 t0 = (-9223372036854775808 : Int64) from by unfold X3_84; rw [if_neg c1, if_neg c2, if_pos c3, if_pos c4]], N101, e101⟩
        · refine Done.step (fun t k => XS.ifYes X101.here hx rfl (pc0 := 121) (pc' := 127) rfl (hb hby d3_121) rfl ((if0 _ _).trans (flt c4).2.1) (by decide) (by decide) k) ?_
          show Done p e below s _ _ _ (T101.setTop (mkF m 127 #[.val (.int p1), .val (.int p2), .val (.int p3), .val (.int p4), .val (.int p5), .val (.int p6), .val (.long (-9223372036854775808 : Int64)), .second, .val (.int i8), .val (.int i9), .val (.int t0), .val (.long (0 : Int64)), .second, .val (.int (F4 p1)), .unset, .unset, .unset, .unset] []))
          refine Done.step (fun t k => XS.lload X101.here hx rfl (hb hby d3_127) rfl k) ?_
          show Done p e below s _ _ _ (T101.setTop (mkF m 129 #[.val (.int p1), .val (.int p2), .val (.int p3), .val (.int p4), .val (.int p5), .val (.int p6), .val (.long (-9223372036854775808 : Int64)), .second, .val (.int i8), .val (.int i9), .val (.int t0), .val (.long (0 : Int64)), .second, .val (.int (F4 p1)), .unset, .unset, .unset, .unset] [(.long (0 : Int64))]))
          refine Done.step (X101.ldc2Long hx hown (mvT hZ (hw _ (List.mem_of_getElem? (i := 23) rfl))) (g := (mkF m 129 #[.val (.int p1), .val (.int p2), .val (.int p3), .val (.int p4), .val (.int p5), .val (.int p6), .val (.long (-9223372036854775808 : Int64)), .second, .val (.int i8), .val (.int i9), .val (.int t0), .val (.long (0 : Int64)), .second, .val (.int (F4 p1)), .unset, .unset, .unset, .unset] [(.long (0 : Int64))])) rfl (hb hby d3_129)) ?_
          show Done p e below s _ _ _ (T101.setTop (mkF m 132 #[.val (.int p1), .val (.int p2), .val (.int p3), .val (.int p4), .val (.int p5), .val (.int p6), .val (.long (-9223372036854775808 : Int64)), .second, .val (.int i8), .val (.int i9), .val (.int t0), .val (.long (0 : Int64)), .second, .val (.int (F4 p1)), .unset, .unset, .unset, .unset] [(.long (10 : Int64)), (.long (0 : Int64))]))
          refine Done.step (fun t k => XS.lmul X101.here hx rfl (hb hby d3_132) rfl k) ?_
          show Done p e below s _ _ _ (T101.setTop (mkF m 133 #[.val (.int p1), .val (.int p2), .val (.int p3), .val (.int p4), .val (.int p5), .val (.int p6), .val (.long (-9223372036854775808 : Int64)), .second, .val (.int i8), .val (.int i9), .val (.int t0), .val (.long (0 : Int64)), .second, .val (.int (F4 p1)), .unset, .unset, .unset, .unset] [(.long ((0 : Int64) * (10 : Int64)))]))
          refine Done.step (fun t k => XS.iload X101.here hx rfl (hb hby d3_133) rfl k) ?_
          show Done p e below s _ _ _ (T101.setTop (mkF m 135 #[.val (.int p1), .val (.int p2), .val (.int p3), .val (.int p4), .val (.int p5), .val (.int p6), .val (.long (-9223372036854775808 : Int64)), .second, .val (.int i8), .val (.int i9), .val (.int t0), .val (.long (0 : Int64)), .second, .val (.int (F4 p1)), .unset, .unset, .unset, .unset] [(.int (F4 p1)), (.long ((0 : Int64) * (10 : Int64)))]))
          refine Done.step (fun t k => XS.i2l X101.here hx rfl (hb hby d3_135) rfl k) ?_
          show Done p e below s _ _ _ (T101.setTop (mkF m 136 #[.val (.int p1), .val (.int p2), .val (.int p3), .val (.int p4), .val (.int p5), .val (.int p6), .val (.long (-9223372036854775808 : Int64)), .second, .val (.int i8), .val (.int i9), .val (.int t0), .val (.long (0 : Int64)), .second, .val (.int (F4 p1)), .unset, .unset, .unset, .unset] [(.long ((F4 p1)).toInt64), (.long ((0 : Int64) * (10 : Int64)))]))
          refine Done.step (fun t k => XS.ladd X101.here hx rfl (hb hby d3_136) rfl k) ?_
          show Done p e below s _ _ _ (T101.setTop (mkF m 137 #[.val (.int p1), .val (.int p2), .val (.int p3), .val (.int p4), .val (.int p5), .val (.int p6), .val (.long (-9223372036854775808 : Int64)), .second, .val (.int i8), .val (.int i9), .val (.int t0), .val (.long (0 : Int64)), .second, .val (.int (F4 p1)), .unset, .unset, .unset, .unset] [(.long (((0 : Int64) * (10 : Int64)) + ((F4 p1)).toInt64))]))
          refine Done.step (fun t k => XS.lstore X101.here hx rfl (hb hby d3_137) rfl (l' := #[.val (.int p1), .val (.int p2), .val (.int p3), .val (.int p4), .val (.int p5), .val (.int p6), .val (.long (-9223372036854775808 : Int64)), .second, .val (.int i8), .val (.int i9), .val (.int t0), .val (.long (((0 : Int64) * (10 : Int64)) + ((F4 p1)).toInt64)), .second, .val (.int (F4 p1)), .unset, .unset, .unset, .unset]) rfl k) ?_
          show Done p e below s _ _ _ (T101.setTop (mkF m 139 #[.val (.int p1), .val (.int p2), .val (.int p3), .val (.int p4), .val (.int p5), .val (.int p6), .val (.long (-9223372036854775808 : Int64)), .second, .val (.int i8), .val (.int i9), .val (.int t0), .val (.long (((0 : Int64) * (10 : Int64)) + ((F4 p1)).toInt64)), .second, .val (.int (F4 p1)), .unset, .unset, .unset, .unset] []))
          exact blk3_139 p1 p2 p3 p4 p5 p6 i8 i9 t0 (((0 : Int64) * (10 : Int64)) + ((F4 p1)).toInt64) (.val (.int (F4 p1))) R X101 hx hZ hw hby hml hown hlk hret hnm N101 Z0 e101 (Or.inr ⟨_, rfl⟩) ((show X3_84 p1 p2 p3 p4 p5 p6 i8 i9 t0 = (X3_139 p1 p2 p3 p4 p5 p6 i8 i9 t0 (((0 : Int64) * (10 : Int64)) + ((F4 p1)).toInt64)) from by unfold X3_84; rw [if_neg c1, if_neg c2, if_pos c3, if_neg c4]).symm.trans hR)
      · refine Done.step (fun t k => XS.icmpYes X0.here hx rfl (pc0 := 110) (pc' := 139) rfl (hb hby d3_110) rfl (flt c3).2.1 (by decide) (by decide) k) ?_
        show Done p e below s _ _ _ (T.setTop (mkF m 139 #[.val (.int p1), .val (.int p2), .val (.int p3), .val (.int p4), .val (.int p5), .val (.int p6), .val (.long (-9223372036854775808 : Int64)), .second, .val (.int i8), .val (.int i9), .val (.int t0), .val (.long (0 : Int64)), .second, .unset, .unset, .unset, .unset, .unset] []))
        exact blk3_139 p1 p2 p3 p4 p5 p6 i8 i9 t0 (0 : Int64) (.unset : Slot) R X0 hx hZ hw hby hml hown hlk hret hnm N0 Z0 e0 (Or.inl rfl) ((show X3_84 p1 p2 p3 p4 p5 p6 i8 i9 t0 = (X3_139 p1 p2 p3 p4 p5 p6 i8 i9 t0 (0 : Int64)) from by unfold X3_84; rw [if_neg c1, if_neg c2, if_neg c3]).symm.trans hR)
theorem d3_68 : decode method_6_code 68 = .ok (.istore 9, 2) := by decide +kernel
theorem d3_70 : decode method_6_code 70 = .ok (.iload 9, 2) := by decide +kernel
theorem d3_72 : decode method_6_code 72 = .ok (.ifCond .eq 10, 3) := by decide +kernel
theorem d3_75 : decode method_6_code 75 = .ok (.iload 4, 2) := by decide +kernel
theorem d3_77 : decode method_6_code 77 = .ok (.iconst 1, 1) := by decide +kernel
theorem d3_78 : decode method_6_code 78 = .ok (.iadd, 1) := by decide +kernel
theorem d3_79 : decode method_6_code 79 = .ok (.goto 5, 3) := by decide +kernel
theorem d3_82 : decode method_6_code 82 = .ok (.iload 4, 2) := by decide +kernel
def X3_68 (p1 : Int32) (p2 : Int32) (p3 : Int32) (p4 : Int32) (p5 : Int32) (p6 : Int32) (i8 : Int32) (t0 : Int32) : Int64 := (if t0 = (0 : Int32) then (X3_84 p1 p2 p3 p4 p5 p6 i8 t0 p5)
  else (X3_84 p1 p2 p3 p4 p5 p6 i8 t0 (p5 + (1 : Int32))))
set_option maxRecDepth 65536 in
set_option maxHeartbeats 40000000 in
theorem blk3_68 {p : Program} {l : Launch} {e : Env} {s : State} {m : MethodId} {args : Array Value} {below : List Frame} {meth : Method} {c : Code} {T : State} {locs : List Loc} {Z : State} {a0 : Array Value} {h0 : Heap} {n0 : Nat} (p1 : Int32) (p2 : Int32) (p3 : Int32) (p4 : Int32) (p5 : Int32) (p6 : Int32) (i8 : Int32) (t0 : Int32) (R : Int64)
    (X0 : Stand p l e ({ frames := 1, cells := 0, slots := 0, locals := 20 } : Room) s m args below meth c T locs 0 0) (hx : p.tables.exec = Jvm.exec) (hZ : Z.Warmed39 s.vm) (hw : ∀ d ∈ tables_1, d.before a0 Z = true) (hby : c.code = method_6_code) (hml : c.maxLocals = 18) (hown : s.vm.findClass "weirstream/engine/WrittenNumberShortWholePinLaw" = some m.cls) (hlk : meth.locks = false) (hret : meth.sig.returnType = (some .long : Option FieldType)) (hnm : meth.name = "expected") (N0 : Fr n0 locs) (Z0 : n0 ≤ h0.size) (e0 : T.heap = h0) (hR : X3_68 p1 p2 p3 p4 p5 p6 i8 t0 = R) :
    Done p e below s (fun v h L => v = some (.long R) ∧ Fr n0 L ∧ h = h0) ({ frames := 1, cells := 0, slots := 0, locals := 20 } : Room).cells ({ frames := 1, cells := 0, slots := 0, locals := 20 } : Room).slots (T.setTop (mkF m 68 #[.val (.int p1), .val (.int p2), .val (.int p3), .val (.int p4), .val (.int p5), .val (.int p6), .val (.long (-9223372036854775808 : Int64)), .second, .val (.int i8), .unset, .unset, .unset, .unset, .unset, .unset, .unset, .unset, .unset] [(.int t0)])) := by
  show Done p e below s _ _ _ (T.setTop (mkF m 68 #[.val (.int p1), .val (.int p2), .val (.int p3), .val (.int p4), .val (.int p5), .val (.int p6), .val (.long (-9223372036854775808 : Int64)), .second, .val (.int i8), .unset, .unset, .unset, .unset, .unset, .unset, .unset, .unset, .unset] [(.int t0)]))
  refine Done.step (fun t k => XS.istore X0.here hx rfl (hb hby d3_68) rfl (l' := #[.val (.int p1), .val (.int p2), .val (.int p3), .val (.int p4), .val (.int p5), .val (.int p6), .val (.long (-9223372036854775808 : Int64)), .second, .val (.int i8), .val (.int t0), .unset, .unset, .unset, .unset, .unset, .unset, .unset, .unset]) rfl k) ?_
  show Done p e below s _ _ _ (T.setTop (mkF m 70 #[.val (.int p1), .val (.int p2), .val (.int p3), .val (.int p4), .val (.int p5), .val (.int p6), .val (.long (-9223372036854775808 : Int64)), .second, .val (.int i8), .val (.int t0), .unset, .unset, .unset, .unset, .unset, .unset, .unset, .unset] []))
  refine Done.step (fun t k => XS.iload X0.here hx rfl (hb hby d3_70) rfl k) ?_
  show Done p e below s _ _ _ (T.setTop (mkF m 72 #[.val (.int p1), .val (.int p2), .val (.int p3), .val (.int p4), .val (.int p5), .val (.int p6), .val (.long (-9223372036854775808 : Int64)), .second, .val (.int i8), .val (.int t0), .unset, .unset, .unset, .unset, .unset, .unset, .unset, .unset] [(.int t0)]))
  by_cases c1 : t0 = (0 : Int32)
  · refine Done.step (fun t k => XS.ifYes X0.here hx rfl (pc0 := 72) (pc' := 82) rfl (hb hby d3_72) rfl ((if0 _ _).trans (teq c1).1) (by decide) (by decide) k) ?_
    show Done p e below s _ _ _ (T.setTop (mkF m 82 #[.val (.int p1), .val (.int p2), .val (.int p3), .val (.int p4), .val (.int p5), .val (.int p6), .val (.long (-9223372036854775808 : Int64)), .second, .val (.int i8), .val (.int t0), .unset, .unset, .unset, .unset, .unset, .unset, .unset, .unset] []))
    refine Done.step (fun t k => XS.iload X0.here hx rfl (hb hby d3_82) rfl k) ?_
    show Done p e below s _ _ _ (T.setTop (mkF m 84 #[.val (.int p1), .val (.int p2), .val (.int p3), .val (.int p4), .val (.int p5), .val (.int p6), .val (.long (-9223372036854775808 : Int64)), .second, .val (.int i8), .val (.int t0), .unset, .unset, .unset, .unset, .unset, .unset, .unset, .unset] [(.int p5)]))
    exact blk3_84 p1 p2 p3 p4 p5 p6 i8 t0 p5 R X0 hx hZ hw hby hml hown hlk hret hnm N0 Z0 e0  ((show X3_68 p1 p2 p3 p4 p5 p6 i8 t0 = (X3_84 p1 p2 p3 p4 p5 p6 i8 t0 p5) from by unfold X3_68; rw [if_pos c1]).symm.trans hR)
  · refine Done.step (fun t k => XS.ifNo X0.here hx rfl (hb hby d3_72) rfl ((if0 _ _).trans (feq c1).1) k) ?_
    show Done p e below s _ _ _ (T.setTop (mkF m 75 #[.val (.int p1), .val (.int p2), .val (.int p3), .val (.int p4), .val (.int p5), .val (.int p6), .val (.long (-9223372036854775808 : Int64)), .second, .val (.int i8), .val (.int t0), .unset, .unset, .unset, .unset, .unset, .unset, .unset, .unset] []))
    refine Done.step (fun t k => XS.iload X0.here hx rfl (hb hby d3_75) rfl k) ?_
    show Done p e below s _ _ _ (T.setTop (mkF m 77 #[.val (.int p1), .val (.int p2), .val (.int p3), .val (.int p4), .val (.int p5), .val (.int p6), .val (.long (-9223372036854775808 : Int64)), .second, .val (.int i8), .val (.int t0), .unset, .unset, .unset, .unset, .unset, .unset, .unset, .unset] [(.int p5)]))
    refine Done.step (fun t k => XS.iconst X0.here hx rfl (hb hby d3_77) k) ?_
    show Done p e below s _ _ _ (T.setTop (mkF m 78 #[.val (.int p1), .val (.int p2), .val (.int p3), .val (.int p4), .val (.int p5), .val (.int p6), .val (.long (-9223372036854775808 : Int64)), .second, .val (.int i8), .val (.int t0), .unset, .unset, .unset, .unset, .unset, .unset, .unset, .unset] [(.int (1 : Int32)), (.int p5)]))
    refine Done.step (fun t k => XS.iadd X0.here hx rfl (hb hby d3_78) rfl k) ?_
    show Done p e below s _ _ _ (T.setTop (mkF m 79 #[.val (.int p1), .val (.int p2), .val (.int p3), .val (.int p4), .val (.int p5), .val (.int p6), .val (.long (-9223372036854775808 : Int64)), .second, .val (.int i8), .val (.int t0), .unset, .unset, .unset, .unset, .unset, .unset, .unset, .unset] [(.int (p5 + (1 : Int32)))]))
    refine Done.step (fun t k => XS.goto X0.here hx rfl (pc0 := 79) (pc' := 84) rfl (hb hby d3_79) (by decide) (by decide) k) ?_
    show Done p e below s _ _ _ (T.setTop (mkF m 84 #[.val (.int p1), .val (.int p2), .val (.int p3), .val (.int p4), .val (.int p5), .val (.int p6), .val (.long (-9223372036854775808 : Int64)), .second, .val (.int i8), .val (.int t0), .unset, .unset, .unset, .unset, .unset, .unset, .unset, .unset] [(.int (p5 + (1 : Int32)))]))
    exact blk3_84 p1 p2 p3 p4 p5 p6 i8 t0 (p5 + (1 : Int32)) R X0 hx hZ hw hby hml hown hlk hret hnm N0 Z0 e0  ((show X3_68 p1 p2 p3 p4 p5 p6 i8 t0 = (X3_84 p1 p2 p3 p4 p5 p6 i8 t0 (p5 + (1 : Int32))) from by unfold X3_68; rw [if_neg c1]).symm.trans hR)
theorem d3_45 : decode method_6_code 45 = .ok (.istore 8, 2) := by decide +kernel
theorem d3_47 : decode method_6_code 47 = .ok (.iload 5, 2) := by decide +kernel
theorem d3_49 : decode method_6_code 49 = .ok (.iload 4, 2) := by decide +kernel
theorem d3_51 : decode method_6_code 51 = .ok (.isub, 1) := by decide +kernel
theorem d3_52 : decode method_6_code 52 = .ok (.iconst 1, 1) := by decide +kernel
theorem d3_53 : decode method_6_code 53 = .ok (.if_icmp .le 14, 3) := by decide +kernel
theorem d3_56 : decode method_6_code 56 = .ok (.iload 8, 2) := by decide +kernel
theorem d3_58 : decode method_6_code 58 = .ok (.bipush 45, 2) := by decide +kernel
theorem d3_60 : decode method_6_code 60 = .ok (.if_icmp .ne 7, 3) := by decide +kernel
theorem d3_63 : decode method_6_code 63 = .ok (.iconst 1, 1) := by decide +kernel
theorem d3_64 : decode method_6_code 64 = .ok (.goto 4, 3) := by decide +kernel
theorem d3_67 : decode method_6_code 67 = .ok (.iconst 0, 1) := by decide +kernel
def X3_45 (p1 : Int32) (p2 : Int32) (p3 : Int32) (p4 : Int32) (p5 : Int32) (p6 : Int32) (t0 : Int32) : Int64 := (if (1 : Int32) < (p6 - p5) then (if t0 = (45 : Int32) then (X3_68 p1 p2 p3 p4 p5 p6 t0 (1 : Int32))
    else (X3_68 p1 p2 p3 p4 p5 p6 t0 (0 : Int32)))
  else (X3_68 p1 p2 p3 p4 p5 p6 t0 (0 : Int32)))
set_option maxRecDepth 65536 in
set_option maxHeartbeats 40000000 in
theorem blk3_45 {p : Program} {l : Launch} {e : Env} {s : State} {m : MethodId} {args : Array Value} {below : List Frame} {meth : Method} {c : Code} {T : State} {locs : List Loc} {Z : State} {a0 : Array Value} {h0 : Heap} {n0 : Nat} (p1 : Int32) (p2 : Int32) (p3 : Int32) (p4 : Int32) (p5 : Int32) (p6 : Int32) (t0 : Int32) (R : Int64)
    (X0 : Stand p l e ({ frames := 1, cells := 0, slots := 0, locals := 20 } : Room) s m args below meth c T locs 0 0) (hx : p.tables.exec = Jvm.exec) (hZ : Z.Warmed39 s.vm) (hw : ∀ d ∈ tables_1, d.before a0 Z = true) (hby : c.code = method_6_code) (hml : c.maxLocals = 18) (hown : s.vm.findClass "weirstream/engine/WrittenNumberShortWholePinLaw" = some m.cls) (hlk : meth.locks = false) (hret : meth.sig.returnType = (some .long : Option FieldType)) (hnm : meth.name = "expected") (N0 : Fr n0 locs) (Z0 : n0 ≤ h0.size) (e0 : T.heap = h0) (hR : X3_45 p1 p2 p3 p4 p5 p6 t0 = R) :
    Done p e below s (fun v h L => v = some (.long R) ∧ Fr n0 L ∧ h = h0) ({ frames := 1, cells := 0, slots := 0, locals := 20 } : Room).cells ({ frames := 1, cells := 0, slots := 0, locals := 20 } : Room).slots (T.setTop (mkF m 45 #[.val (.int p1), .val (.int p2), .val (.int p3), .val (.int p4), .val (.int p5), .val (.int p6), .val (.long (-9223372036854775808 : Int64)), .second, .unset, .unset, .unset, .unset, .unset, .unset, .unset, .unset, .unset, .unset] [(.int t0)])) := by
  show Done p e below s _ _ _ (T.setTop (mkF m 45 #[.val (.int p1), .val (.int p2), .val (.int p3), .val (.int p4), .val (.int p5), .val (.int p6), .val (.long (-9223372036854775808 : Int64)), .second, .unset, .unset, .unset, .unset, .unset, .unset, .unset, .unset, .unset, .unset] [(.int t0)]))
  refine Done.step (fun t k => XS.istore X0.here hx rfl (hb hby d3_45) rfl (l' := #[.val (.int p1), .val (.int p2), .val (.int p3), .val (.int p4), .val (.int p5), .val (.int p6), .val (.long (-9223372036854775808 : Int64)), .second, .val (.int t0), .unset, .unset, .unset, .unset, .unset, .unset, .unset, .unset, .unset]) rfl k) ?_
  show Done p e below s _ _ _ (T.setTop (mkF m 47 #[.val (.int p1), .val (.int p2), .val (.int p3), .val (.int p4), .val (.int p5), .val (.int p6), .val (.long (-9223372036854775808 : Int64)), .second, .val (.int t0), .unset, .unset, .unset, .unset, .unset, .unset, .unset, .unset, .unset] []))
  refine Done.step (fun t k => XS.iload X0.here hx rfl (hb hby d3_47) rfl k) ?_
  show Done p e below s _ _ _ (T.setTop (mkF m 49 #[.val (.int p1), .val (.int p2), .val (.int p3), .val (.int p4), .val (.int p5), .val (.int p6), .val (.long (-9223372036854775808 : Int64)), .second, .val (.int t0), .unset, .unset, .unset, .unset, .unset, .unset, .unset, .unset, .unset] [(.int p6)]))
  refine Done.step (fun t k => XS.iload X0.here hx rfl (hb hby d3_49) rfl k) ?_
  show Done p e below s _ _ _ (T.setTop (mkF m 51 #[.val (.int p1), .val (.int p2), .val (.int p3), .val (.int p4), .val (.int p5), .val (.int p6), .val (.long (-9223372036854775808 : Int64)), .second, .val (.int t0), .unset, .unset, .unset, .unset, .unset, .unset, .unset, .unset, .unset] [(.int p5), (.int p6)]))
  refine Done.step (fun t k => XS.isub X0.here hx rfl (hb hby d3_51) rfl k) ?_
  show Done p e below s _ _ _ (T.setTop (mkF m 52 #[.val (.int p1), .val (.int p2), .val (.int p3), .val (.int p4), .val (.int p5), .val (.int p6), .val (.long (-9223372036854775808 : Int64)), .second, .val (.int t0), .unset, .unset, .unset, .unset, .unset, .unset, .unset, .unset, .unset] [(.int (p6 - p5))]))
  refine Done.step (fun t k => XS.iconst X0.here hx rfl (hb hby d3_52) k) ?_
  show Done p e below s _ _ _ (T.setTop (mkF m 53 #[.val (.int p1), .val (.int p2), .val (.int p3), .val (.int p4), .val (.int p5), .val (.int p6), .val (.long (-9223372036854775808 : Int64)), .second, .val (.int t0), .unset, .unset, .unset, .unset, .unset, .unset, .unset, .unset, .unset] [(.int (1 : Int32)), (.int (p6 - p5))]))
  by_cases c1 : (1 : Int32) < (p6 - p5)
  · refine Done.step (fun t k => XS.icmpNo X0.here hx rfl (hb hby d3_53) rfl (tlt c1).2.2.2 k) ?_
    show Done p e below s _ _ _ (T.setTop (mkF m 56 #[.val (.int p1), .val (.int p2), .val (.int p3), .val (.int p4), .val (.int p5), .val (.int p6), .val (.long (-9223372036854775808 : Int64)), .second, .val (.int t0), .unset, .unset, .unset, .unset, .unset, .unset, .unset, .unset, .unset] []))
    refine Done.step (fun t k => XS.iload X0.here hx rfl (hb hby d3_56) rfl k) ?_
    show Done p e below s _ _ _ (T.setTop (mkF m 58 #[.val (.int p1), .val (.int p2), .val (.int p3), .val (.int p4), .val (.int p5), .val (.int p6), .val (.long (-9223372036854775808 : Int64)), .second, .val (.int t0), .unset, .unset, .unset, .unset, .unset, .unset, .unset, .unset, .unset] [(.int t0)]))
    refine Done.step (fun t k => XS.bipush X0.here hx rfl (hb hby d3_58) k) ?_
    show Done p e below s _ _ _ (T.setTop (mkF m 60 #[.val (.int p1), .val (.int p2), .val (.int p3), .val (.int p4), .val (.int p5), .val (.int p6), .val (.long (-9223372036854775808 : Int64)), .second, .val (.int t0), .unset, .unset, .unset, .unset, .unset, .unset, .unset, .unset, .unset] [(.int (45 : Int32)), (.int t0)]))
    by_cases c2 : t0 = (45 : Int32)
    · refine Done.step (fun t k => XS.icmpNo X0.here hx rfl (hb hby d3_60) rfl (teq c2).2 k) ?_
      show Done p e below s _ _ _ (T.setTop (mkF m 63 #[.val (.int p1), .val (.int p2), .val (.int p3), .val (.int p4), .val (.int p5), .val (.int p6), .val (.long (-9223372036854775808 : Int64)), .second, .val (.int t0), .unset, .unset, .unset, .unset, .unset, .unset, .unset, .unset, .unset] []))
      refine Done.step (fun t k => XS.iconst X0.here hx rfl (hb hby d3_63) k) ?_
      show Done p e below s _ _ _ (T.setTop (mkF m 64 #[.val (.int p1), .val (.int p2), .val (.int p3), .val (.int p4), .val (.int p5), .val (.int p6), .val (.long (-9223372036854775808 : Int64)), .second, .val (.int t0), .unset, .unset, .unset, .unset, .unset, .unset, .unset, .unset, .unset] [(.int (1 : Int32))]))
      refine Done.step (fun t k => XS.goto X0.here hx rfl (pc0 := 64) (pc' := 68) rfl (hb hby d3_64) (by decide) (by decide) k) ?_
      show Done p e below s _ _ _ (T.setTop (mkF m 68 #[.val (.int p1), .val (.int p2), .val (.int p3), .val (.int p4), .val (.int p5), .val (.int p6), .val (.long (-9223372036854775808 : Int64)), .second, .val (.int t0), .unset, .unset, .unset, .unset, .unset, .unset, .unset, .unset, .unset] [(.int (1 : Int32))]))
      exact blk3_68 p1 p2 p3 p4 p5 p6 t0 (1 : Int32) R X0 hx hZ hw hby hml hown hlk hret hnm N0 Z0 e0  ((show X3_45 p1 p2 p3 p4 p5 p6 t0 = (X3_68 p1 p2 p3 p4 p5 p6 t0 (1 : Int32)) from by unfold X3_45; rw [if_pos c1, if_pos c2]).symm.trans hR)
    · refine Done.step (fun t k => XS.icmpYes X0.here hx rfl (pc0 := 60) (pc' := 67) rfl (hb hby d3_60) rfl (feq c2).2 (by decide) (by decide) k) ?_
      show Done p e below s _ _ _ (T.setTop (mkF m 67 #[.val (.int p1), .val (.int p2), .val (.int p3), .val (.int p4), .val (.int p5), .val (.int p6), .val (.long (-9223372036854775808 : Int64)), .second, .val (.int t0), .unset, .unset, .unset, .unset, .unset, .unset, .unset, .unset, .unset] []))
      refine Done.step (fun t k => XS.iconst X0.here hx rfl (hb hby d3_67) k) ?_
      show Done p e below s _ _ _ (T.setTop (mkF m 68 #[.val (.int p1), .val (.int p2), .val (.int p3), .val (.int p4), .val (.int p5), .val (.int p6), .val (.long (-9223372036854775808 : Int64)), .second, .val (.int t0), .unset, .unset, .unset, .unset, .unset, .unset, .unset, .unset, .unset] [(.int (0 : Int32))]))
      exact blk3_68 p1 p2 p3 p4 p5 p6 t0 (0 : Int32) R X0 hx hZ hw hby hml hown hlk hret hnm N0 Z0 e0  ((show X3_45 p1 p2 p3 p4 p5 p6 t0 = (X3_68 p1 p2 p3 p4 p5 p6 t0 (0 : Int32)) from by unfold X3_45; rw [if_pos c1, if_neg c2]).symm.trans hR)
  · refine Done.step (fun t k => XS.icmpYes X0.here hx rfl (pc0 := 53) (pc' := 67) rfl (hb hby d3_53) rfl (flt c1).2.2.2 (by decide) (by decide) k) ?_
    show Done p e below s _ _ _ (T.setTop (mkF m 67 #[.val (.int p1), .val (.int p2), .val (.int p3), .val (.int p4), .val (.int p5), .val (.int p6), .val (.long (-9223372036854775808 : Int64)), .second, .val (.int t0), .unset, .unset, .unset, .unset, .unset, .unset, .unset, .unset, .unset] []))
    refine Done.step (fun t k => XS.iconst X0.here hx rfl (hb hby d3_67) k) ?_
    show Done p e below s _ _ _ (T.setTop (mkF m 68 #[.val (.int p1), .val (.int p2), .val (.int p3), .val (.int p4), .val (.int p5), .val (.int p6), .val (.long (-9223372036854775808 : Int64)), .second, .val (.int t0), .unset, .unset, .unset, .unset, .unset, .unset, .unset, .unset, .unset] [(.int (0 : Int32))]))
    exact blk3_68 p1 p2 p3 p4 p5 p6 t0 (0 : Int32) R X0 hx hZ hw hby hml hown hlk hret hnm N0 Z0 e0  ((show X3_45 p1 p2 p3 p4 p5 p6 t0 = (X3_68 p1 p2 p3 p4 p5 p6 t0 (0 : Int32)) from by unfold X3_45; rw [if_neg c1]).symm.trans hR)
theorem d3_0 : decode method_6_code 0 = .ok (.ldc2_w 34, 3) := by decide +kernel
theorem d3_3 : decode method_6_code 3 = .ok (.lstore 6, 2) := by decide +kernel
theorem d3_5 : decode method_6_code 5 = .ok (.iload 5, 2) := by decide +kernel
theorem d3_7 : decode method_6_code 7 = .ok (.iload 4, 2) := by decide +kernel
theorem d3_9 : decode method_6_code 9 = .ok (.if_icmp .ne 6, 3) := by decide +kernel
theorem d3_12 : decode method_6_code 12 = .ok (.lload 6, 2) := by decide +kernel
theorem d3_14 : decode method_6_code 14 = .ok (.lreturn, 1) := by decide +kernel
theorem d3_15 : decode method_6_code 15 = .ok (.iload 4, 2) := by decide +kernel
theorem d3_17 : decode method_6_code 17 = .ok (.ifCond .ne 7, 3) := by decide +kernel
theorem d3_20 : decode method_6_code 20 = .ok (.iload_n 0, 1) := by decide +kernel
theorem d3_21 : decode method_6_code 21 = .ok (.goto 24, 3) := by decide +kernel
theorem d3_24 : decode method_6_code 24 = .ok (.iload 4, 2) := by decide +kernel
theorem d3_26 : decode method_6_code 26 = .ok (.iconst 1, 1) := by decide +kernel
theorem d3_27 : decode method_6_code 27 = .ok (.if_icmp .ne 7, 3) := by decide +kernel
theorem d3_30 : decode method_6_code 30 = .ok (.iload_n 1, 1) := by decide +kernel
theorem d3_31 : decode method_6_code 31 = .ok (.goto 14, 3) := by decide +kernel
theorem d3_34 : decode method_6_code 34 = .ok (.iload 4, 2) := by decide +kernel
theorem d3_36 : decode method_6_code 36 = .ok (.iconst 2, 1) := by decide +kernel
theorem d3_37 : decode method_6_code 37 = .ok (.if_icmp .ne 7, 3) := by decide +kernel
theorem d3_40 : decode method_6_code 40 = .ok (.iload_n 2, 1) := by decide +kernel
theorem d3_41 : decode method_6_code 41 = .ok (.goto 4, 3) := by decide +kernel
theorem d3_44 : decode method_6_code 44 = .ok (.iload_n 3, 1) := by decide +kernel
def FE (p1 : Int32) (p2 : Int32) (p3 : Int32) (p4 : Int32) (p5 : Int32) (p6 : Int32) : Int64 := (if p6 = p5 then (-9223372036854775808 : Int64)
  else (if p5 = (0 : Int32) then (X3_45 p1 p2 p3 p4 p5 p6 p1)
    else (if p5 = (1 : Int32) then (X3_45 p1 p2 p3 p4 p5 p6 p2)
      else (if p5 = (2 : Int32) then (X3_45 p1 p2 p3 p4 p5 p6 p3)
        else (X3_45 p1 p2 p3 p4 p5 p6 p4)))))
theorem pn_3 : plainName "weirstream/engine/WrittenNumberShortWholePinLaw" = true := by first | (simp [plainName, overriddenIn]; done) | decide +kernel
theorem ef_3 (m : MethodId) (p1 : Int32) (p2 : Int32) (p3 : Int32) (p4 : Int32) (p5 : Int32) (p6 : Int32) : entryFrame m #[(.int p1), (.int p2), (.int p3), (.int p4), (.int p5), (.int p6)] 18 = mkF m 0 #[.val (.int p1), .val (.int p2), .val (.int p3), .val (.int p4), .val (.int p5), .val (.int p6), .unset, .unset, .unset, .unset, .unset, .unset, .unset, .unset, .unset, .unset, .unset, .unset] [] := by first | (simp [entryFrame, mkF, argsToLocals, Value.category]; done) | rfl
def Qrm3 (Z : State) (p1 : Int32) (p2 : Int32) (p3 : Int32) (p4 : Int32) (p5 : Int32) (p6 : Int32) (h0 : Heap) (n0 : Nat) : Option Value → Heap → List Loc → Prop := fun v h L => v = some (.long (FE p1 p2 p3 p4 p5 p6)) ∧ Fr n0 L ∧ h = h0
set_option maxRecDepth 65536 in
set_option maxHeartbeats 40000000 in
theorem rm3 (l : Launch) (Z : State) (a0 : Array Value) (hw : ∀ d ∈ tables_1, d.before a0 Z = true) (ws : List Jvm.Cond) (p1 : Int32) (p2 : Int32) (p3 : Int32) (p4 : Int32) (p5 : Int32) (p6 : Int32) (h0 : Heap) (n0 : Nat) (Z0 : n0 ≤ h0.size) :
    MetFree l (⟨"weirstream/engine/WrittenNumberShortWholePinLaw", "expected", "(BBBBII)J"⟩ : MethodName) (head1 (Jvm.Cond.code (⟨"weirstream/engine/WrittenNumberShortWholePinLaw", "expected", "(BBBBII)J"⟩ : MethodName) method_6_code 18 (some .long) :: ws) ({ frames := 1, cells := 0, slots := 0, locals := 20 } : Room)) (fun a U => a = #[(.int p1), (.int p2), (.int p3), (.int p4), (.int p5), (.int p6)] ∧ Z.Warmed39 U.vm ∧ U.heap = h0) (fun _ _ _ _ _ => True) (fun _ U o U' => ∃ v L, o = .returned v ∧ Qrm3 Z p1 p2 p3 p4 p5 p6 h0 n0 v U'.heap L ∧ FrameEnd U o U' L ({ frames := 1, cells := 0, slots := 0, locals := 20 } : Room).cells ({ frames := 1, cells := 0, slots := 0, locals := 20 } : Room).slots) := by
  refine MetFree.of_bodySF (plainFor_of_name pn_3) hisR ?_
  intro p e s m args below meth c s₁ Bd hml0 hP hK
  obtain ⟨rfl, hZ, hhp⟩ := hP
  have hx := Bd.exec
  have hby := Bd.bytes
  have hml : c.maxLocals = 18 := hml0
  have hown : s.vm.findClass "weirstream/engine/WrittenNumberShortWholePinLaw" = some m.cls := findClass_of_methodNamed Bd.named
  have hnm := (name_of_methodNamed Bd.named Bd.method).1
  have hlk : meth.locks = false := BodyLoose.notSynchronized Bd
  have hret := Bd.returns
  have X0 : Stand p l e ({ frames := 1, cells := 0, slots := 0, locals := 20 } : Room) s m #[(.int p1), (.int p2), (.int p3), (.int p4), (.int p5), (.int p6)] below meth c s₁ [] 0 0 := Stand.of_body Bd
  have e0 : s₁.heap = h0 := by rw [← hhp, Bd.state]; rfl
  have N0 := Fr.nil n0
  have hR : FE p1 p2 p3 p4 p5 p6 = FE p1 p2 p3 p4 p5 p6 := rfl
  show Done p e below s (Qrm3 Z p1 p2 p3 p4 p5 p6 h0 n0) ({ frames := 1, cells := 0, slots := 0, locals := 20 } : Room).cells ({ frames := 1, cells := 0, slots := 0, locals := 20 } : Room).slots (s₁.setTop (entryFrame m #[(.int p1), (.int p2), (.int p3), (.int p4), (.int p5), (.int p6)] 18))
  refine Done.step (fun t k => castTop (ef_3 m p1 p2 p3 p4 p5 p6) k) ?_
  show Done p e below s _ _ _ (s₁.setTop (mkF m 0 #[.val (.int p1), .val (.int p2), .val (.int p3), .val (.int p4), .val (.int p5), .val (.int p6), .unset, .unset, .unset, .unset, .unset, .unset, .unset, .unset, .unset, .unset, .unset, .unset] []))
  refine Done.step (X0.ldc2Long hx hown (mvT hZ (hw _ (List.mem_of_getElem? (i := 14) rfl))) (g := (mkF m 0 #[.val (.int p1), .val (.int p2), .val (.int p3), .val (.int p4), .val (.int p5), .val (.int p6), .unset, .unset, .unset, .unset, .unset, .unset, .unset, .unset, .unset, .unset, .unset, .unset] [])) rfl (hb hby d3_0)) ?_
  show Done p e below s _ _ _ (s₁.setTop (mkF m 3 #[.val (.int p1), .val (.int p2), .val (.int p3), .val (.int p4), .val (.int p5), .val (.int p6), .unset, .unset, .unset, .unset, .unset, .unset, .unset, .unset, .unset, .unset, .unset, .unset] [(.long (-9223372036854775808 : Int64))]))
  refine Done.step (fun t k => XS.lstore X0.here hx rfl (hb hby d3_3) rfl (l' := #[.val (.int p1), .val (.int p2), .val (.int p3), .val (.int p4), .val (.int p5), .val (.int p6), .val (.long (-9223372036854775808 : Int64)), .second, .unset, .unset, .unset, .unset, .unset, .unset, .unset, .unset, .unset, .unset]) rfl k) ?_
  show Done p e below s _ _ _ (s₁.setTop (mkF m 5 #[.val (.int p1), .val (.int p2), .val (.int p3), .val (.int p4), .val (.int p5), .val (.int p6), .val (.long (-9223372036854775808 : Int64)), .second, .unset, .unset, .unset, .unset, .unset, .unset, .unset, .unset, .unset, .unset] []))
  refine Done.step (fun t k => XS.iload X0.here hx rfl (hb hby d3_5) rfl k) ?_
  show Done p e below s _ _ _ (s₁.setTop (mkF m 7 #[.val (.int p1), .val (.int p2), .val (.int p3), .val (.int p4), .val (.int p5), .val (.int p6), .val (.long (-9223372036854775808 : Int64)), .second, .unset, .unset, .unset, .unset, .unset, .unset, .unset, .unset, .unset, .unset] [(.int p6)]))
  refine Done.step (fun t k => XS.iload X0.here hx rfl (hb hby d3_7) rfl k) ?_
  show Done p e below s _ _ _ (s₁.setTop (mkF m 9 #[.val (.int p1), .val (.int p2), .val (.int p3), .val (.int p4), .val (.int p5), .val (.int p6), .val (.long (-9223372036854775808 : Int64)), .second, .unset, .unset, .unset, .unset, .unset, .unset, .unset, .unset, .unset, .unset] [(.int p5), (.int p6)]))
  by_cases c1 : p6 = p5
  · refine Done.step (fun t k => XS.icmpNo X0.here hx rfl (hb hby d3_9) rfl (teq c1).2 k) ?_
    show Done p e below s _ _ _ (s₁.setTop (mkF m 12 #[.val (.int p1), .val (.int p2), .val (.int p3), .val (.int p4), .val (.int p5), .val (.int p6), .val (.long (-9223372036854775808 : Int64)), .second, .unset, .unset, .unset, .unset, .unset, .unset, .unset, .unset, .unset, .unset] []))
    refine Done.step (fun t k => XS.lload X0.here hx rfl (hb hby d3_12) rfl k) ?_
    show Done p e below s _ _ _ (s₁.setTop (mkF m 14 #[.val (.int p1), .val (.int p2), .val (.int p3), .val (.int p4), .val (.int p5), .val (.int p6), .val (.long (-9223372036854775808 : Int64)), .second, .unset, .unset, .unset, .unset, .unset, .unset, .unset, .unset, .unset, .unset] [(.long (-9223372036854775808 : Int64))]))
    exact Done.long X0 hx hlk hret (hb hby d3_14) (by decide) (by decide) ⟨by rw [← hR, show FE p1 p2 p3 p4 p5 p6 = (-9223372036854775808 : Int64) from by unfold FE; rw [if_pos c1]], N0, e0⟩
  · refine Done.step (fun t k => XS.icmpYes X0.here hx rfl (pc0 := 9) (pc' := 15) rfl (hb hby d3_9) rfl (feq c1).2 (by decide) (by decide) k) ?_
    show Done p e below s _ _ _ (s₁.setTop (mkF m 15 #[.val (.int p1), .val (.int p2), .val (.int p3), .val (.int p4), .val (.int p5), .val (.int p6), .val (.long (-9223372036854775808 : Int64)), .second, .unset, .unset, .unset, .unset, .unset, .unset, .unset, .unset, .unset, .unset] []))
    refine Done.step (fun t k => XS.iload X0.here hx rfl (hb hby d3_15) rfl k) ?_
    show Done p e below s _ _ _ (s₁.setTop (mkF m 17 #[.val (.int p1), .val (.int p2), .val (.int p3), .val (.int p4), .val (.int p5), .val (.int p6), .val (.long (-9223372036854775808 : Int64)), .second, .unset, .unset, .unset, .unset, .unset, .unset, .unset, .unset, .unset, .unset] [(.int p5)]))
    by_cases c2 : p5 = (0 : Int32)
    · refine Done.step (fun t k => XS.ifNo X0.here hx rfl (hb hby d3_17) rfl ((if0 _ _).trans (teq c2).2) k) ?_
      show Done p e below s _ _ _ (s₁.setTop (mkF m 20 #[.val (.int p1), .val (.int p2), .val (.int p3), .val (.int p4), .val (.int p5), .val (.int p6), .val (.long (-9223372036854775808 : Int64)), .second, .unset, .unset, .unset, .unset, .unset, .unset, .unset, .unset, .unset, .unset] []))
      refine Done.step (fun t k => XS.iloadN X0.here hx rfl (hb hby d3_20) rfl k) ?_
      show Done p e below s _ _ _ (s₁.setTop (mkF m 21 #[.val (.int p1), .val (.int p2), .val (.int p3), .val (.int p4), .val (.int p5), .val (.int p6), .val (.long (-9223372036854775808 : Int64)), .second, .unset, .unset, .unset, .unset, .unset, .unset, .unset, .unset, .unset, .unset] [(.int p1)]))
      refine Done.step (fun t k => XS.goto X0.here hx rfl (pc0 := 21) (pc' := 45) rfl (hb hby d3_21) (by decide) (by decide) k) ?_
      show Done p e below s _ _ _ (s₁.setTop (mkF m 45 #[.val (.int p1), .val (.int p2), .val (.int p3), .val (.int p4), .val (.int p5), .val (.int p6), .val (.long (-9223372036854775808 : Int64)), .second, .unset, .unset, .unset, .unset, .unset, .unset, .unset, .unset, .unset, .unset] [(.int p1)]))
      exact blk3_45 p1 p2 p3 p4 p5 p6 p1 (FE p1 p2 p3 p4 p5 p6) X0 hx hZ hw hby hml hown hlk hret hnm N0 Z0 e0  ((show FE p1 p2 p3 p4 p5 p6 = (X3_45 p1 p2 p3 p4 p5 p6 p1) from by unfold FE; rw [if_neg c1, if_pos c2]).symm.trans hR)
    · refine Done.step (fun t k => XS.ifYes X0.here hx rfl (pc0 := 17) (pc' := 24) rfl (hb hby d3_17) rfl ((if0 _ _).trans (feq c2).2) (by decide) (by decide) k) ?_
      show Done p e below s _ _ _ (s₁.setTop (mkF m 24 #[.val (.int p1), .val (.int p2), .val (.int p3), .val (.int p4), .val (.int p5), .val (.int p6), .val (.long (-9223372036854775808 : Int64)), .second, .unset, .unset, .unset, .unset, .unset, .unset, .unset, .unset, .unset, .unset] []))
      refine Done.step (fun t k => XS.iload X0.here hx rfl (hb hby d3_24) rfl k) ?_
      show Done p e below s _ _ _ (s₁.setTop (mkF m 26 #[.val (.int p1), .val (.int p2), .val (.int p3), .val (.int p4), .val (.int p5), .val (.int p6), .val (.long (-9223372036854775808 : Int64)), .second, .unset, .unset, .unset, .unset, .unset, .unset, .unset, .unset, .unset, .unset] [(.int p5)]))
      refine Done.step (fun t k => XS.iconst X0.here hx rfl (hb hby d3_26) k) ?_
      show Done p e below s _ _ _ (s₁.setTop (mkF m 27 #[.val (.int p1), .val (.int p2), .val (.int p3), .val (.int p4), .val (.int p5), .val (.int p6), .val (.long (-9223372036854775808 : Int64)), .second, .unset, .unset, .unset, .unset, .unset, .unset, .unset, .unset, .unset, .unset] [(.int (1 : Int32)), (.int p5)]))
      by_cases c3 : p5 = (1 : Int32)
      · refine Done.step (fun t k => XS.icmpNo X0.here hx rfl (hb hby d3_27) rfl (teq c3).2 k) ?_
        show Done p e below s _ _ _ (s₁.setTop (mkF m 30 #[.val (.int p1), .val (.int p2), .val (.int p3), .val (.int p4), .val (.int p5), .val (.int p6), .val (.long (-9223372036854775808 : Int64)), .second, .unset, .unset, .unset, .unset, .unset, .unset, .unset, .unset, .unset, .unset] []))
        refine Done.step (fun t k => XS.iloadN X0.here hx rfl (hb hby d3_30) rfl k) ?_
        show Done p e below s _ _ _ (s₁.setTop (mkF m 31 #[.val (.int p1), .val (.int p2), .val (.int p3), .val (.int p4), .val (.int p5), .val (.int p6), .val (.long (-9223372036854775808 : Int64)), .second, .unset, .unset, .unset, .unset, .unset, .unset, .unset, .unset, .unset, .unset] [(.int p2)]))
        refine Done.step (fun t k => XS.goto X0.here hx rfl (pc0 := 31) (pc' := 45) rfl (hb hby d3_31) (by decide) (by decide) k) ?_
        show Done p e below s _ _ _ (s₁.setTop (mkF m 45 #[.val (.int p1), .val (.int p2), .val (.int p3), .val (.int p4), .val (.int p5), .val (.int p6), .val (.long (-9223372036854775808 : Int64)), .second, .unset, .unset, .unset, .unset, .unset, .unset, .unset, .unset, .unset, .unset] [(.int p2)]))
        exact blk3_45 p1 p2 p3 p4 p5 p6 p2 (FE p1 p2 p3 p4 p5 p6) X0 hx hZ hw hby hml hown hlk hret hnm N0 Z0 e0  ((show FE p1 p2 p3 p4 p5 p6 = (X3_45 p1 p2 p3 p4 p5 p6 p2) from by unfold FE; rw [if_neg c1, if_neg c2, if_pos c3]).symm.trans hR)
      · refine Done.step (fun t k => XS.icmpYes X0.here hx rfl (pc0 := 27) (pc' := 34) rfl (hb hby d3_27) rfl (feq c3).2 (by decide) (by decide) k) ?_
        show Done p e below s _ _ _ (s₁.setTop (mkF m 34 #[.val (.int p1), .val (.int p2), .val (.int p3), .val (.int p4), .val (.int p5), .val (.int p6), .val (.long (-9223372036854775808 : Int64)), .second, .unset, .unset, .unset, .unset, .unset, .unset, .unset, .unset, .unset, .unset] []))
        refine Done.step (fun t k => XS.iload X0.here hx rfl (hb hby d3_34) rfl k) ?_
        show Done p e below s _ _ _ (s₁.setTop (mkF m 36 #[.val (.int p1), .val (.int p2), .val (.int p3), .val (.int p4), .val (.int p5), .val (.int p6), .val (.long (-9223372036854775808 : Int64)), .second, .unset, .unset, .unset, .unset, .unset, .unset, .unset, .unset, .unset, .unset] [(.int p5)]))
        refine Done.step (fun t k => XS.iconst X0.here hx rfl (hb hby d3_36) k) ?_
        show Done p e below s _ _ _ (s₁.setTop (mkF m 37 #[.val (.int p1), .val (.int p2), .val (.int p3), .val (.int p4), .val (.int p5), .val (.int p6), .val (.long (-9223372036854775808 : Int64)), .second, .unset, .unset, .unset, .unset, .unset, .unset, .unset, .unset, .unset, .unset] [(.int (2 : Int32)), (.int p5)]))
        by_cases c4 : p5 = (2 : Int32)
        · refine Done.step (fun t k => XS.icmpNo X0.here hx rfl (hb hby d3_37) rfl (teq c4).2 k) ?_
          show Done p e below s _ _ _ (s₁.setTop (mkF m 40 #[.val (.int p1), .val (.int p2), .val (.int p3), .val (.int p4), .val (.int p5), .val (.int p6), .val (.long (-9223372036854775808 : Int64)), .second, .unset, .unset, .unset, .unset, .unset, .unset, .unset, .unset, .unset, .unset] []))
          refine Done.step (fun t k => XS.iloadN X0.here hx rfl (hb hby d3_40) rfl k) ?_
          show Done p e below s _ _ _ (s₁.setTop (mkF m 41 #[.val (.int p1), .val (.int p2), .val (.int p3), .val (.int p4), .val (.int p5), .val (.int p6), .val (.long (-9223372036854775808 : Int64)), .second, .unset, .unset, .unset, .unset, .unset, .unset, .unset, .unset, .unset, .unset] [(.int p3)]))
          refine Done.step (fun t k => XS.goto X0.here hx rfl (pc0 := 41) (pc' := 45) rfl (hb hby d3_41) (by decide) (by decide) k) ?_
          show Done p e below s _ _ _ (s₁.setTop (mkF m 45 #[.val (.int p1), .val (.int p2), .val (.int p3), .val (.int p4), .val (.int p5), .val (.int p6), .val (.long (-9223372036854775808 : Int64)), .second, .unset, .unset, .unset, .unset, .unset, .unset, .unset, .unset, .unset, .unset] [(.int p3)]))
          exact blk3_45 p1 p2 p3 p4 p5 p6 p3 (FE p1 p2 p3 p4 p5 p6) X0 hx hZ hw hby hml hown hlk hret hnm N0 Z0 e0  ((show FE p1 p2 p3 p4 p5 p6 = (X3_45 p1 p2 p3 p4 p5 p6 p3) from by unfold FE; rw [if_neg c1, if_neg c2, if_neg c3, if_pos c4]).symm.trans hR)
        · refine Done.step (fun t k => XS.icmpYes X0.here hx rfl (pc0 := 37) (pc' := 44) rfl (hb hby d3_37) rfl (feq c4).2 (by decide) (by decide) k) ?_
          show Done p e below s _ _ _ (s₁.setTop (mkF m 44 #[.val (.int p1), .val (.int p2), .val (.int p3), .val (.int p4), .val (.int p5), .val (.int p6), .val (.long (-9223372036854775808 : Int64)), .second, .unset, .unset, .unset, .unset, .unset, .unset, .unset, .unset, .unset, .unset] []))
          refine Done.step (fun t k => XS.iloadN X0.here hx rfl (hb hby d3_44) rfl k) ?_
          show Done p e below s _ _ _ (s₁.setTop (mkF m 45 #[.val (.int p1), .val (.int p2), .val (.int p3), .val (.int p4), .val (.int p5), .val (.int p6), .val (.long (-9223372036854775808 : Int64)), .second, .unset, .unset, .unset, .unset, .unset, .unset, .unset, .unset, .unset, .unset] [(.int p4)]))
          exact blk3_45 p1 p2 p3 p4 p5 p6 p4 (FE p1 p2 p3 p4 p5 p6) X0 hx hZ hw hby hml hown hlk hret hnm N0 Z0 e0  ((show FE p1 p2 p3 p4 p5 p6 = (X3_45 p1 p2 p3 p4 p5 p6 p4) from by unfold FE; rw [if_neg c1, if_neg c2, if_neg c3, if_neg c4]).symm.trans hR)
def RD (p2 i3 : Int32) : List Int32 → Int64 → Int64
  | [], v => if p2 < i3 then (-v) else v
  | x :: t, v => if (x - (48 : Int32)) < (0 : Int32) then (-9223372036854775808 : Int64) else if (9 : Int32) < (x - (48 : Int32)) then (-9223372036854775808 : Int64) else RD p2 i3 t ((v * (10 : Int64)) + ((x - (48 : Int32))).toInt64)
theorem own_slice {xs : List Int32} {hh ii : Nat} {x : Int32} (h : xs[ii]? = some x) (hl : ii < hh) : (xs.take hh).drop ii = x :: (xs.take hh).drop (ii + 1) := by
  have q : (xs.take hh)[ii]? = some x := by rw [List.getElem?_take, if_pos hl]; exact h
  obtain ⟨hl, rfl⟩ := List.getElem?_eq_some_iff.mp q
  exact List.drop_eq_getElem_cons hl
theorem own_idx {x : Int32} {n m : Nat} (h : x.toInt = (n : Int)) (hl : n < m) : 0 ≤ x.toInt ∧ x.toNatClampNeg = n ∧ x.toNatClampNeg < m := by
  have : x.toNatClampNeg = n := by rw [Int32.toNatClampNeg]; omega
  exact ⟨by omega, this, by omega⟩
theorem own_nneg {x : Int32} (h : 0 ≤ x.toInt) : ¬ x < 0 := by rw [Int32.lt_iff_toInt_lt]; show ¬ _ < (0 : Int); omega
theorem d2_46 : decode prog_166_method_7_code 46 = .ok (.iload 6, 2) := by decide +kernel
theorem d2_48 : decode prog_166_method_7_code 48 = .ok (.iload_n 2, 1) := by decide +kernel
theorem d2_49 : decode prog_166_method_7_code 49 = .ok (.if_icmp .ge 46, 3) := by decide +kernel
theorem d2_52 : decode prog_166_method_7_code 52 = .ok (.aload_n 0, 1) := by decide +kernel
theorem d2_53 : decode prog_166_method_7_code 53 = .ok (.iload 6, 2) := by decide +kernel
theorem d2_55 : decode prog_166_method_7_code 55 = .ok (.baload, 1) := by decide +kernel
theorem d2_56 : decode prog_166_method_7_code 56 = .ok (.bipush 48, 2) := by decide +kernel
theorem d2_58 : decode prog_166_method_7_code 58 = .ok (.isub, 1) := by decide +kernel
theorem d2_59 : decode prog_166_method_7_code 59 = .ok (.istore 7, 2) := by decide +kernel
theorem d2_61 : decode prog_166_method_7_code 61 = .ok (.iload 7, 2) := by decide +kernel
theorem d2_63 : decode prog_166_method_7_code 63 = .ok (.ifCond .lt 10, 3) := by decide +kernel
theorem d2_66 : decode prog_166_method_7_code 66 = .ok (.iload 7, 2) := by decide +kernel
theorem d2_68 : decode prog_166_method_7_code 68 = .ok (.bipush 9, 2) := by decide +kernel
theorem d2_70 : decode prog_166_method_7_code 70 = .ok (.if_icmp .le 7, 3) := by decide +kernel
theorem d2_73 : decode prog_166_method_7_code 73 = .ok (.ldc2_w 15, 3) := by decide +kernel
theorem d2_76 : decode prog_166_method_7_code 76 = .ok (.lreturn, 1) := by decide +kernel
theorem d2_77 : decode prog_166_method_7_code 77 = .ok (.lload 4, 2) := by decide +kernel
theorem d2_79 : decode prog_166_method_7_code 79 = .ok (.ldc2_w 54, 3) := by decide +kernel
theorem d2_82 : decode prog_166_method_7_code 82 = .ok (.lmul, 1) := by decide +kernel
theorem d2_83 : decode prog_166_method_7_code 83 = .ok (.iload 7, 2) := by decide +kernel
theorem d2_85 : decode prog_166_method_7_code 85 = .ok (.i2l, 1) := by decide +kernel
theorem d2_86 : decode prog_166_method_7_code 86 = .ok (.ladd, 1) := by decide +kernel
theorem d2_87 : decode prog_166_method_7_code 87 = .ok (.lstore 4, 2) := by decide +kernel
theorem d2_89 : decode prog_166_method_7_code 89 = .ok (.iinc 6 1, 3) := by decide +kernel
theorem d2_92 : decode prog_166_method_7_code 92 = .ok (.goto (-46), 3) := by decide +kernel
theorem d2_95 : decode prog_166_method_7_code 95 = .ok (.iload_n 3, 1) := by decide +kernel
theorem d2_96 : decode prog_166_method_7_code 96 = .ok (.iload_n 1, 1) := by decide +kernel
theorem d2_97 : decode prog_166_method_7_code 97 = .ok (.if_icmp .le 9, 3) := by decide +kernel
theorem d2_100 : decode prog_166_method_7_code 100 = .ok (.lload 4, 2) := by decide +kernel
theorem d2_102 : decode prog_166_method_7_code 102 = .ok (.lneg, 1) := by decide +kernel
theorem d2_103 : decode prog_166_method_7_code 103 = .ok (.goto 5, 3) := by decide +kernel
theorem d2_106 : decode prog_166_method_7_code 106 = .ok (.lload 4, 2) := by decide +kernel
theorem d2_108 : decode prog_166_method_7_code 108 = .ok (.lreturn, 1) := by decide +kernel
set_option maxRecDepth 65536 in
set_option maxHeartbeats 40000000 in
theorem lp46 {p : Program} {l : Launch} {e : Env} {s : State} {m : MethodId} {args : Array Value} {below : List Frame} {meth : Method} {c : Code} {Z : State} {a0 : Array Value} {h0 : Heap} {n0 : Nat} (a1 : Addr) (p2 p3 i3 : Int32) (xs : List Int32) (hh : Nat) (R : Int64)
    (hx : p.tables.exec = Jvm.exec) (hZ : Z.Warmed39 s.vm) (hw : ∀ d ∈ tables_1, d.before a0 Z = true) (hby : c.code = prog_166_method_7_code) (hml : c.maxLocals = 8) (hown : s.vm.findClass "weirstream/engine/WrittenNumber" = some m.cls) (hlk : meth.locks = false) (hret : meth.sig.returnType = (some .long : Option FieldType)) (hnm : meth.name = "shortWhole") (A1 : Ax Z h0 a1 .byte (xs.map Value.int)) (hp3 : p3.toInt = (hh : Int)) (hhl : hh ≤ xs.length) :
    ∀ (k : Nat) (T : State) (locs : List Loc) (j4 : Int64) (i6 : Int32) (s7 : Slot) (ii : Nat) (X0 : Stand p l e ({ frames := 0, cells := 0, slots := 0, locals := 0 } : Room) s m args below meth c T locs 0 0) (N0 : Fr n0 locs) (Z0 : n0 ≤ h0.size) (e0 : T.heap = h0) (hs7 : s7 = Slot.unset ∨ ∃ z : Int32, s7 = .val (.int z)) (hk : hh - ii < k) (hi : i6.toInt = (ii : Int)) (hii : ii ≤ hh) (hR : RD p2 i3 ((xs.take hh).drop ii) j4 = R), Done p e below s (fun v h L => v = some (.long R) ∧ Fr n0 L ∧ h = h0) ({ frames := 0, cells := 0, slots := 0, locals := 0 } : Room).cells ({ frames := 0, cells := 0, slots := 0, locals := 0 } : Room).slots (T.setTop (mkF m 46 #[.val (.ref a1), .val (.int p2), .val (.int p3), .val (.int i3), .val (.long j4), .second, .val (.int i6), s7] [])) := by
  intro k
  induction k with
  | zero => intro T locs j4 i6 s7 ii X0 N0 Z0 e0 hs7 hk hi hii hR; exact absurd hk (Nat.not_lt_zero _)
  | succ k ih =>
    intro T locs j4 i6 s7 ii X0 N0 Z0 e0 hs7 hk hi hii hR
    show Done p e below s _ _ _ (T.setTop (mkF m 46 #[.val (.ref a1), .val (.int p2), .val (.int p3), .val (.int i3), .val (.long j4), .second, .val (.int i6), s7] []))
    refine Done.step (fun t k => XS.iload X0.here hx rfl (hb hby d2_46) rfl k) ?_
    show Done p e below s _ _ _ (T.setTop (mkF m 48 #[.val (.ref a1), .val (.int p2), .val (.int p3), .val (.int i3), .val (.long j4), .second, .val (.int i6), s7] [(.int i6)]))
    refine Done.step (fun t k => XS.iloadN X0.here hx rfl (hb hby d2_48) rfl k) ?_
    show Done p e below s _ _ _ (T.setTop (mkF m 49 #[.val (.ref a1), .val (.int p2), .val (.int p3), .val (.int i3), .val (.long j4), .second, .val (.int i6), s7] [(.int p3), (.int i6)]))
    by_cases c1 : i6 < p3
    · refine Done.step (fun t k => XS.icmpNo X0.here hx rfl (hb hby d2_49) rfl (tlt c1).2.1 k) ?_
      show Done p e below s _ _ _ (T.setTop (mkF m 52 #[.val (.ref a1), .val (.int p2), .val (.int p3), .val (.int i3), .val (.long j4), .second, .val (.int i6), s7] []))
      refine Done.step (fun t k => XS.aloadN X0.here hx rfl (hb hby d2_52) rfl rfl k) ?_
      show Done p e below s _ _ _ (T.setTop (mkF m 53 #[.val (.ref a1), .val (.int p2), .val (.int p3), .val (.int i3), .val (.long j4), .second, .val (.int i6), s7] [(.ref a1)]))
      refine Done.step (fun t k => XS.iload X0.here hx rfl (hb hby d2_53) rfl k) ?_
      show Done p e below s _ _ _ (T.setTop (mkF m 55 #[.val (.ref a1), .val (.int p2), .val (.int p3), .val (.int i3), .val (.long j4), .second, .val (.int i6), s7] [(.int i6), (.ref a1)]))
      have hlt : ii < hh := by have := Int32.lt_iff_toInt_lt.mp c1; omega
      have h7 := own_idx hi (Nat.lt_of_lt_of_le hlt hhl)
      obtain ⟨xv, hxv⟩ : ∃ x, xs[i6.toNatClampNeg]? = some x := ⟨_, List.getElem?_eq_getElem h7.2.2⟩
      have hxw := hxv
      rw [h7.2.1] at hxw
      rw [own_slice hxw hlt] at hR
      refine Done.step (ldB X0 hx hZ e0 A1 (j := i6) (x := (.int xv)) (own_nneg h7.1) (by rw [List.getElem?_map, hxv]; rfl) (g := (mkF m 55 #[.val (.ref a1), .val (.int p2), .val (.int p3), .val (.int i3), .val (.long j4), .second, .val (.int i6), s7] [(.int i6), (.ref a1)])) rfl rfl (hb hby d2_55)) ?_
      show Done p e below s _ _ _ (T.setTop (mkF m 56 #[.val (.ref a1), .val (.int p2), .val (.int p3), .val (.int i3), .val (.long j4), .second, .val (.int i6), s7] [(.int xv)]))
      refine Done.step (fun t k => XS.bipush X0.here hx rfl (hb hby d2_56) k) ?_
      show Done p e below s _ _ _ (T.setTop (mkF m 58 #[.val (.ref a1), .val (.int p2), .val (.int p3), .val (.int i3), .val (.long j4), .second, .val (.int i6), s7] [(.int (48 : Int32)), (.int xv)]))
      refine Done.step (fun t k => XS.isub X0.here hx rfl (hb hby d2_58) rfl k) ?_
      show Done p e below s _ _ _ (T.setTop (mkF m 59 #[.val (.ref a1), .val (.int p2), .val (.int p3), .val (.int i3), .val (.long j4), .second, .val (.int i6), s7] [(.int (xv - (48 : Int32)))]))
      refine Done.step (fun t k => XS.istore X0.here hx rfl (hb hby d2_59) rfl (l' := #[.val (.ref a1), .val (.int p2), .val (.int p3), .val (.int i3), .val (.long j4), .second, .val (.int i6), .val (.int (xv - (48 : Int32)))]) (by rcases hs7 with rfl | ⟨z, rfl⟩ <;> rfl) k) ?_
      show Done p e below s _ _ _ (T.setTop (mkF m 61 #[.val (.ref a1), .val (.int p2), .val (.int p3), .val (.int i3), .val (.long j4), .second, .val (.int i6), .val (.int (xv - (48 : Int32)))] []))
      refine Done.step (fun t k => XS.iload X0.here hx rfl (hb hby d2_61) rfl k) ?_
      show Done p e below s _ _ _ (T.setTop (mkF m 63 #[.val (.ref a1), .val (.int p2), .val (.int p3), .val (.int i3), .val (.long j4), .second, .val (.int i6), .val (.int (xv - (48 : Int32)))] [(.int (xv - (48 : Int32)))]))
      by_cases c2 : (xv - (48 : Int32)) < (0 : Int32)
      · refine Done.step (fun t k => XS.ifYes X0.here hx rfl (pc0 := 63) (pc' := 73) rfl (hb hby d2_63) rfl ((if0 _ _).trans (tlt c2).1) (by decide) (by decide) k) ?_
        show Done p e below s _ _ _ (T.setTop (mkF m 73 #[.val (.ref a1), .val (.int p2), .val (.int p3), .val (.int i3), .val (.long j4), .second, .val (.int i6), .val (.int (xv - (48 : Int32)))] []))
        refine Done.step (X0.ldc2Long hx hown (mvT hZ (hw _ (List.mem_of_getElem? (i := 10) rfl))) (g := (mkF m 73 #[.val (.ref a1), .val (.int p2), .val (.int p3), .val (.int i3), .val (.long j4), .second, .val (.int i6), .val (.int (xv - (48 : Int32)))] [])) rfl (hb hby d2_73)) ?_
        show Done p e below s _ _ _ (T.setTop (mkF m 76 #[.val (.ref a1), .val (.int p2), .val (.int p3), .val (.int i3), .val (.long j4), .second, .val (.int i6), .val (.int (xv - (48 : Int32)))] [(.long (-9223372036854775808 : Int64))]))
        rw [RD, if_pos c2] at hR
        exact Done.long X0 hx hlk hret (hb hby d2_76) (by decide) (by decide) ⟨by rw [← hR], N0, e0⟩
      · refine Done.step (fun t k => XS.ifNo X0.here hx rfl (hb hby d2_63) rfl ((if0 _ _).trans (flt c2).1) k) ?_
        show Done p e below s _ _ _ (T.setTop (mkF m 66 #[.val (.ref a1), .val (.int p2), .val (.int p3), .val (.int i3), .val (.long j4), .second, .val (.int i6), .val (.int (xv - (48 : Int32)))] []))
        refine Done.step (fun t k => XS.iload X0.here hx rfl (hb hby d2_66) rfl k) ?_
        show Done p e below s _ _ _ (T.setTop (mkF m 68 #[.val (.ref a1), .val (.int p2), .val (.int p3), .val (.int i3), .val (.long j4), .second, .val (.int i6), .val (.int (xv - (48 : Int32)))] [(.int (xv - (48 : Int32)))]))
        refine Done.step (fun t k => XS.bipush X0.here hx rfl (hb hby d2_68) k) ?_
        show Done p e below s _ _ _ (T.setTop (mkF m 70 #[.val (.ref a1), .val (.int p2), .val (.int p3), .val (.int i3), .val (.long j4), .second, .val (.int i6), .val (.int (xv - (48 : Int32)))] [(.int (9 : Int32)), (.int (xv - (48 : Int32)))]))
        by_cases c3 : (9 : Int32) < (xv - (48 : Int32))
        · refine Done.step (fun t k => XS.icmpNo X0.here hx rfl (hb hby d2_70) rfl (tlt c3).2.2.2 k) ?_
          show Done p e below s _ _ _ (T.setTop (mkF m 73 #[.val (.ref a1), .val (.int p2), .val (.int p3), .val (.int i3), .val (.long j4), .second, .val (.int i6), .val (.int (xv - (48 : Int32)))] []))
          refine Done.step (X0.ldc2Long hx hown (mvT hZ (hw _ (List.mem_of_getElem? (i := 10) rfl))) (g := (mkF m 73 #[.val (.ref a1), .val (.int p2), .val (.int p3), .val (.int i3), .val (.long j4), .second, .val (.int i6), .val (.int (xv - (48 : Int32)))] [])) rfl (hb hby d2_73)) ?_
          show Done p e below s _ _ _ (T.setTop (mkF m 76 #[.val (.ref a1), .val (.int p2), .val (.int p3), .val (.int i3), .val (.long j4), .second, .val (.int i6), .val (.int (xv - (48 : Int32)))] [(.long (-9223372036854775808 : Int64))]))
          rw [RD, if_neg c2, if_pos c3] at hR
          exact Done.long X0 hx hlk hret (hb hby d2_76) (by decide) (by decide) ⟨by rw [← hR], N0, e0⟩
        · refine Done.step (fun t k => XS.icmpYes X0.here hx rfl (pc0 := 70) (pc' := 77) rfl (hb hby d2_70) rfl (flt c3).2.2.2 (by decide) (by decide) k) ?_
          show Done p e below s _ _ _ (T.setTop (mkF m 77 #[.val (.ref a1), .val (.int p2), .val (.int p3), .val (.int i3), .val (.long j4), .second, .val (.int i6), .val (.int (xv - (48 : Int32)))] []))
          refine Done.step (fun t k => XS.lload X0.here hx rfl (hb hby d2_77) rfl k) ?_
          show Done p e below s _ _ _ (T.setTop (mkF m 79 #[.val (.ref a1), .val (.int p2), .val (.int p3), .val (.int i3), .val (.long j4), .second, .val (.int i6), .val (.int (xv - (48 : Int32)))] [(.long j4)]))
          refine Done.step (X0.ldc2Long hx hown (mvT hZ (hw _ (List.mem_of_getElem? (i := 22) rfl))) (g := (mkF m 79 #[.val (.ref a1), .val (.int p2), .val (.int p3), .val (.int i3), .val (.long j4), .second, .val (.int i6), .val (.int (xv - (48 : Int32)))] [(.long j4)])) rfl (hb hby d2_79)) ?_
          show Done p e below s _ _ _ (T.setTop (mkF m 82 #[.val (.ref a1), .val (.int p2), .val (.int p3), .val (.int i3), .val (.long j4), .second, .val (.int i6), .val (.int (xv - (48 : Int32)))] [(.long (10 : Int64)), (.long j4)]))
          refine Done.step (fun t k => XS.lmul X0.here hx rfl (hb hby d2_82) rfl k) ?_
          show Done p e below s _ _ _ (T.setTop (mkF m 83 #[.val (.ref a1), .val (.int p2), .val (.int p3), .val (.int i3), .val (.long j4), .second, .val (.int i6), .val (.int (xv - (48 : Int32)))] [(.long (j4 * (10 : Int64)))]))
          refine Done.step (fun t k => XS.iload X0.here hx rfl (hb hby d2_83) rfl k) ?_
          show Done p e below s _ _ _ (T.setTop (mkF m 85 #[.val (.ref a1), .val (.int p2), .val (.int p3), .val (.int i3), .val (.long j4), .second, .val (.int i6), .val (.int (xv - (48 : Int32)))] [(.int (xv - (48 : Int32))), (.long (j4 * (10 : Int64)))]))
          refine Done.step (fun t k => XS.i2l X0.here hx rfl (hb hby d2_85) rfl k) ?_
          show Done p e below s _ _ _ (T.setTop (mkF m 86 #[.val (.ref a1), .val (.int p2), .val (.int p3), .val (.int i3), .val (.long j4), .second, .val (.int i6), .val (.int (xv - (48 : Int32)))] [(.long ((xv - (48 : Int32))).toInt64), (.long (j4 * (10 : Int64)))]))
          refine Done.step (fun t k => XS.ladd X0.here hx rfl (hb hby d2_86) rfl k) ?_
          show Done p e below s _ _ _ (T.setTop (mkF m 87 #[.val (.ref a1), .val (.int p2), .val (.int p3), .val (.int i3), .val (.long j4), .second, .val (.int i6), .val (.int (xv - (48 : Int32)))] [(.long ((j4 * (10 : Int64)) + ((xv - (48 : Int32))).toInt64))]))
          refine Done.step (fun t k => XS.lstore X0.here hx rfl (hb hby d2_87) rfl (l' := #[.val (.ref a1), .val (.int p2), .val (.int p3), .val (.int i3), .val (.long ((j4 * (10 : Int64)) + ((xv - (48 : Int32))).toInt64)), .second, .val (.int i6), .val (.int (xv - (48 : Int32)))]) rfl k) ?_
          show Done p e below s _ _ _ (T.setTop (mkF m 89 #[.val (.ref a1), .val (.int p2), .val (.int p3), .val (.int i3), .val (.long ((j4 * (10 : Int64)) + ((xv - (48 : Int32))).toInt64)), .second, .val (.int i6), .val (.int (xv - (48 : Int32)))] []))
          refine Done.step (fun t k => XS.iinc X0.here hx rfl (hb hby d2_89) rfl (l' := #[.val (.ref a1), .val (.int p2), .val (.int p3), .val (.int i3), .val (.long ((j4 * (10 : Int64)) + ((xv - (48 : Int32))).toInt64)), .second, .val (.int (i6 + (1 : Int32))), .val (.int (xv - (48 : Int32)))]) rfl k) ?_
          show Done p e below s _ _ _ (T.setTop (mkF m 92 #[.val (.ref a1), .val (.int p2), .val (.int p3), .val (.int i3), .val (.long ((j4 * (10 : Int64)) + ((xv - (48 : Int32))).toInt64)), .second, .val (.int (i6 + (1 : Int32))), .val (.int (xv - (48 : Int32)))] []))
          refine Done.step (fun t k => XS.goto X0.here hx rfl (pc0 := 92) (pc' := 46) rfl (hb hby d2_92) (by decide) (by decide) k) ?_
          show Done p e below s _ _ _ (T.setTop (mkF m 46 #[.val (.ref a1), .val (.int p2), .val (.int p3), .val (.int i3), .val (.long ((j4 * (10 : Int64)) + ((xv - (48 : Int32))).toInt64)), .second, .val (.int (i6 + (1 : Int32))), .val (.int (xv - (48 : Int32)))] []))
          have hip : (i6 + (1 : Int32)).toInt = ((ii + 1 : Nat) : Int) := by have a := c_iadd i6 (1 : Int32); have r := rng32 (i6 + (1 : Int32)); have r2 := rng32 p3; have e1 : (1 : Int32).toInt = 1 := rfl; omega
          have hR2 : RD p2 i3 ((xs.take hh).drop (ii + 1)) ((j4 * (10 : Int64)) + ((xv - (48 : Int32))).toInt64) = R := by rw [RD, if_neg c2, if_neg c3] at hR; exact hR
          exact ih T _ ((j4 * (10 : Int64)) + ((xv - (48 : Int32))).toInt64) (i6 + (1 : Int32)) (.val (.int (xv - (48 : Int32)))) (ii + 1) X0 N0 Z0 e0 (Or.inr ⟨_, rfl⟩) (by omega) hip (by omega) hR2
    · refine Done.step (fun t k => XS.icmpYes X0.here hx rfl (pc0 := 49) (pc' := 95) rfl (hb hby d2_49) rfl (flt c1).2.1 (by decide) (by decide) k) ?_
      show Done p e below s _ _ _ (T.setTop (mkF m 95 #[.val (.ref a1), .val (.int p2), .val (.int p3), .val (.int i3), .val (.long j4), .second, .val (.int i6), s7] []))
      refine Done.step (fun t k => XS.iloadN X0.here hx rfl (hb hby d2_95) rfl k) ?_
      show Done p e below s _ _ _ (T.setTop (mkF m 96 #[.val (.ref a1), .val (.int p2), .val (.int p3), .val (.int i3), .val (.long j4), .second, .val (.int i6), s7] [(.int i3)]))
      refine Done.step (fun t k => XS.iloadN X0.here hx rfl (hb hby d2_96) rfl k) ?_
      show Done p e below s _ _ _ (T.setTop (mkF m 97 #[.val (.ref a1), .val (.int p2), .val (.int p3), .val (.int i3), .val (.long j4), .second, .val (.int i6), s7] [(.int p2), (.int i3)]))
      by_cases c4 : p2 < i3
      · refine Done.step (fun t k => XS.icmpNo X0.here hx rfl (hb hby d2_97) rfl (tlt c4).2.2.2 k) ?_
        show Done p e below s _ _ _ (T.setTop (mkF m 100 #[.val (.ref a1), .val (.int p2), .val (.int p3), .val (.int i3), .val (.long j4), .second, .val (.int i6), s7] []))
        refine Done.step (fun t k => XS.lload X0.here hx rfl (hb hby d2_100) rfl k) ?_
        show Done p e below s _ _ _ (T.setTop (mkF m 102 #[.val (.ref a1), .val (.int p2), .val (.int p3), .val (.int i3), .val (.long j4), .second, .val (.int i6), s7] [(.long j4)]))
        refine Done.step (fun t k => XS.lneg X0.here hx rfl (hb hby d2_102) rfl k) ?_
        show Done p e below s _ _ _ (T.setTop (mkF m 103 #[.val (.ref a1), .val (.int p2), .val (.int p3), .val (.int i3), .val (.long j4), .second, .val (.int i6), s7] [(.long (-j4))]))
        refine Done.step (fun t k => XS.goto X0.here hx rfl (pc0 := 103) (pc' := 108) rfl (hb hby d2_103) (by decide) (by decide) k) ?_
        show Done p e below s _ _ _ (T.setTop (mkF m 108 #[.val (.ref a1), .val (.int p2), .val (.int p3), .val (.int i3), .val (.long j4), .second, .val (.int i6), s7] [(.long (-j4))]))
        have hge : hh ≤ ii := by have := Int.not_lt.mp (fun q => c1 (Int32.lt_iff_toInt_lt.mpr q)); omega
        rw [List.drop_eq_nil_of_le (by rw [List.length_take]; omega), RD, if_pos c4] at hR
        exact Done.long X0 hx hlk hret (hb hby d2_108) (by decide) (by decide) ⟨by rw [← hR], N0, e0⟩
      · refine Done.step (fun t k => XS.icmpYes X0.here hx rfl (pc0 := 97) (pc' := 106) rfl (hb hby d2_97) rfl (flt c4).2.2.2 (by decide) (by decide) k) ?_
        show Done p e below s _ _ _ (T.setTop (mkF m 106 #[.val (.ref a1), .val (.int p2), .val (.int p3), .val (.int i3), .val (.long j4), .second, .val (.int i6), s7] []))
        refine Done.step (fun t k => XS.lload X0.here hx rfl (hb hby d2_106) rfl k) ?_
        show Done p e below s _ _ _ (T.setTop (mkF m 108 #[.val (.ref a1), .val (.int p2), .val (.int p3), .val (.int i3), .val (.long j4), .second, .val (.int i6), s7] [(.long j4)]))
        have hge : hh ≤ ii := by have := Int.not_lt.mp (fun q => c1 (Int32.lt_iff_toInt_lt.mpr q)); omega
        rw [List.drop_eq_nil_of_le (by rw [List.length_take]; omega), RD, if_neg c4] at hR
        exact Done.long X0 hx hlk hret (hb hby d2_108) (by decide) (by decide) ⟨by rw [← hR], N0, e0⟩
theorem d2_0 : decode prog_166_method_7_code 0 = .ok (.iload_n 2, 1) := by decide +kernel
theorem d2_1 : decode prog_166_method_7_code 1 = .ok (.iload_n 1, 1) := by decide +kernel
theorem d2_2 : decode prog_166_method_7_code 2 = .ok (.isub, 1) := by decide +kernel
theorem d2_3 : decode prog_166_method_7_code 3 = .ok (.iconst 1, 1) := by decide +kernel
theorem d2_4 : decode prog_166_method_7_code 4 = .ok (.if_icmp .le 17, 3) := by decide +kernel
theorem d2_7 : decode prog_166_method_7_code 7 = .ok (.aload_n 0, 1) := by decide +kernel
theorem d2_8 : decode prog_166_method_7_code 8 = .ok (.iload_n 1, 1) := by decide +kernel
theorem d2_9 : decode prog_166_method_7_code 9 = .ok (.baload, 1) := by decide +kernel
theorem d2_10 : decode prog_166_method_7_code 10 = .ok (.bipush 45, 2) := by decide +kernel
theorem d2_12 : decode prog_166_method_7_code 12 = .ok (.if_icmp .ne 9, 3) := by decide +kernel
theorem d2_15 : decode prog_166_method_7_code 15 = .ok (.iload_n 1, 1) := by decide +kernel
theorem d2_16 : decode prog_166_method_7_code 16 = .ok (.iconst 1, 1) := by decide +kernel
theorem d2_17 : decode prog_166_method_7_code 17 = .ok (.iadd, 1) := by decide +kernel
theorem d2_18 : decode prog_166_method_7_code 18 = .ok (.goto 4, 3) := by decide +kernel
theorem d2_21 : decode prog_166_method_7_code 21 = .ok (.iload_n 1, 1) := by decide +kernel
theorem d2_22 : decode prog_166_method_7_code 22 = .ok (.istore_n 3, 1) := by decide +kernel
theorem d2_23 : decode prog_166_method_7_code 23 = .ok (.iload_n 2, 1) := by decide +kernel
theorem d2_24 : decode prog_166_method_7_code 24 = .ok (.iload_n 1, 1) := by decide +kernel
theorem d2_25 : decode prog_166_method_7_code 25 = .ok (.if_icmp .eq 11, 3) := by decide +kernel
theorem d2_28 : decode prog_166_method_7_code 28 = .ok (.iload_n 2, 1) := by decide +kernel
theorem d2_29 : decode prog_166_method_7_code 29 = .ok (.iload_n 3, 1) := by decide +kernel
theorem d2_30 : decode prog_166_method_7_code 30 = .ok (.isub, 1) := by decide +kernel
theorem d2_31 : decode prog_166_method_7_code 31 = .ok (.bipush 18, 2) := by decide +kernel
theorem d2_33 : decode prog_166_method_7_code 33 = .ok (.if_icmp .le 7, 3) := by decide +kernel
theorem d2_36 : decode prog_166_method_7_code 36 = .ok (.ldc2_w 15, 3) := by decide +kernel
theorem d2_39 : decode prog_166_method_7_code 39 = .ok (.lreturn, 1) := by decide +kernel
theorem d2_40 : decode prog_166_method_7_code 40 = .ok (.lconst 0, 1) := by decide +kernel
theorem d2_41 : decode prog_166_method_7_code 41 = .ok (.lstore 4, 2) := by decide +kernel
theorem d2_43 : decode prog_166_method_7_code 43 = .ok (.iload_n 3, 1) := by decide +kernel
theorem d2_44 : decode prog_166_method_7_code 44 = .ok (.istore 6, 2) := by decide +kernel
def SW (xs : List Int32) (hh : Nat) (p2 p3 : Int32) : Int64 := (if (1 : Int32) < (p3 - p2) then (if (xs.getD p2.toNatClampNeg (0 : Int32)) = (45 : Int32) then (if p3 = p2 then (-9223372036854775808 : Int64)
      else (if (18 : Int32) < (p3 - (p2 + (1 : Int32))) then (-9223372036854775808 : Int64)
        else (RD p2 (p2 + (1 : Int32)) ((xs.take hh).drop ((p2 + (1 : Int32))).toNatClampNeg) (0 : Int64))))
    else (if p3 = p2 then (-9223372036854775808 : Int64)
      else (if (18 : Int32) < (p3 - p2) then (-9223372036854775808 : Int64)
        else (RD p2 p2 ((xs.take hh).drop (p2).toNatClampNeg) (0 : Int64)))))
  else (if p3 = p2 then (-9223372036854775808 : Int64)
    else (if (18 : Int32) < (p3 - p2) then (-9223372036854775808 : Int64)
      else (RD p2 p2 ((xs.take hh).drop (p2).toNatClampNeg) (0 : Int64)))))
theorem pn_2 : plainName "weirstream/engine/WrittenNumber" = true := by first | (simp [plainName, overriddenIn]; done) | decide +kernel
theorem ef_2 (m : MethodId) (a1 : Addr) (p2 : Int32) (p3 : Int32) : entryFrame m #[(.ref a1), (.int p2), (.int p3)] 8 = mkF m 0 #[.val (.ref a1), .val (.int p2), .val (.int p3), .unset, .unset, .unset, .unset, .unset] [] := by first | (simp [entryFrame, mkF, argsToLocals, Value.category]; done) | rfl
def Qrm2 (Z : State) (a1 : Addr) (p2 : Int32) (p3 : Int32) (xs : List Int32) (hh ll : Nat) (h0 : Heap) (n0 : Nat) : Option Value → Heap → List Loc → Prop := fun v h L => v = some (.long (SW xs hh p2 p3)) ∧ Fr n0 L ∧ h = h0
set_option maxRecDepth 65536 in
set_option maxHeartbeats 40000000 in
theorem rm2 (l : Launch) (Z : State) (a0 : Array Value) (hw : ∀ d ∈ tables_1, d.before a0 Z = true) (ws : List Jvm.Cond) (a1 : Addr) (p2 : Int32) (p3 : Int32) (xs : List Int32) (hh ll : Nat) (h0 : Heap) (n0 : Nat) (Z0 : n0 ≤ h0.size) (A1 : Ax Z h0 a1 .byte (xs.map Value.int)) (hp3 : p3.toInt = (hh : Int)) (hhl : hh ≤ xs.length) (hp2 : p2.toInt = (ll : Int)) (hll : ll ≤ hh) :
    MetFree l (⟨"weirstream/engine/WrittenNumber", "shortWhole", "([BII)J"⟩ : MethodName) (head1 (Jvm.Cond.code (⟨"weirstream/engine/WrittenNumber", "shortWhole", "([BII)J"⟩ : MethodName) prog_166_method_7_code 8 (some .long) :: ws) ({ frames := 0, cells := 0, slots := 0, locals := 0 } : Room)) (fun a U => a = #[(.ref a1), (.int p2), (.int p3)] ∧ Z.Warmed39 U.vm ∧ U.heap = h0) (fun _ _ _ _ _ => True) (fun _ U o U' => ∃ v L, o = .returned v ∧ Qrm2 Z a1 p2 p3 xs hh ll h0 n0 v U'.heap L ∧ FrameEnd U o U' L ({ frames := 0, cells := 0, slots := 0, locals := 0 } : Room).cells ({ frames := 0, cells := 0, slots := 0, locals := 0 } : Room).slots) := by
  refine MetFree.of_bodySF (plainFor_of_name pn_2) hisR ?_
  intro p e s m args below meth c s₁ Bd hml0 hP hK
  obtain ⟨rfl, hZ, hhp⟩ := hP
  have hx := Bd.exec
  have hby := Bd.bytes
  have hml : c.maxLocals = 8 := hml0
  have hown : s.vm.findClass "weirstream/engine/WrittenNumber" = some m.cls := findClass_of_methodNamed Bd.named
  have hnm := (name_of_methodNamed Bd.named Bd.method).1
  have hlk : meth.locks = false := BodyLoose.notSynchronized Bd
  have hret := Bd.returns
  have X0 : Stand p l e ({ frames := 0, cells := 0, slots := 0, locals := 0 } : Room) s m #[(.ref a1), (.int p2), (.int p3)] below meth c s₁ [] 0 0 := Stand.of_body Bd
  have e0 : s₁.heap = h0 := by rw [← hhp, Bd.state]; rfl
  have N0 := Fr.nil n0
  show Done p e below s (Qrm2 Z a1 p2 p3 xs hh ll h0 n0) ({ frames := 0, cells := 0, slots := 0, locals := 0 } : Room).cells ({ frames := 0, cells := 0, slots := 0, locals := 0 } : Room).slots (s₁.setTop (entryFrame m #[(.ref a1), (.int p2), (.int p3)] 8))
  refine Done.step (fun t k => castTop (ef_2 m a1 p2 p3) k) ?_
  show Done p e below s _ _ _ (s₁.setTop (mkF m 0 #[.val (.ref a1), .val (.int p2), .val (.int p3), .unset, .unset, .unset, .unset, .unset] []))
  refine Done.step (fun t k => XS.iloadN X0.here hx rfl (hb hby d2_0) rfl k) ?_
  show Done p e below s _ _ _ (s₁.setTop (mkF m 1 #[.val (.ref a1), .val (.int p2), .val (.int p3), .unset, .unset, .unset, .unset, .unset] [(.int p3)]))
  refine Done.step (fun t k => XS.iloadN X0.here hx rfl (hb hby d2_1) rfl k) ?_
  show Done p e below s _ _ _ (s₁.setTop (mkF m 2 #[.val (.ref a1), .val (.int p2), .val (.int p3), .unset, .unset, .unset, .unset, .unset] [(.int p2), (.int p3)]))
  refine Done.step (fun t k => XS.isub X0.here hx rfl (hb hby d2_2) rfl k) ?_
  show Done p e below s _ _ _ (s₁.setTop (mkF m 3 #[.val (.ref a1), .val (.int p2), .val (.int p3), .unset, .unset, .unset, .unset, .unset] [(.int (p3 - p2))]))
  refine Done.step (fun t k => XS.iconst X0.here hx rfl (hb hby d2_3) k) ?_
  show Done p e below s _ _ _ (s₁.setTop (mkF m 4 #[.val (.ref a1), .val (.int p2), .val (.int p3), .unset, .unset, .unset, .unset, .unset] [(.int (1 : Int32)), (.int (p3 - p2))]))
  by_cases c1 : (1 : Int32) < (p3 - p2)
  · refine Done.step (fun t k => XS.icmpNo X0.here hx rfl (hb hby d2_4) rfl (tlt c1).2.2.2 k) ?_
    show Done p e below s _ _ _ (s₁.setTop (mkF m 7 #[.val (.ref a1), .val (.int p2), .val (.int p3), .unset, .unset, .unset, .unset, .unset] []))
    refine Done.step (fun t k => XS.aloadN X0.here hx rfl (hb hby d2_7) rfl rfl k) ?_
    show Done p e below s _ _ _ (s₁.setTop (mkF m 8 #[.val (.ref a1), .val (.int p2), .val (.int p3), .unset, .unset, .unset, .unset, .unset] [(.ref a1)]))
    refine Done.step (fun t k => XS.iloadN X0.here hx rfl (hb hby d2_8) rfl k) ?_
    show Done p e below s _ _ _ (s₁.setTop (mkF m 9 #[.val (.ref a1), .val (.int p2), .val (.int p3), .unset, .unset, .unset, .unset, .unset] [(.int p2), (.ref a1)]))
    have h12 : 1 < p3.toInt - p2.toInt := by have q := Int32.lt_iff_toInt_lt.mp c1; have a := c_isub p3 p2; have e1 : (1 : Int32).toInt = 1 := rfl; have r1 := rng32 p3; have r2 := rng32 p2; have r3 := rng32 (p3 - p2); omega
    have h9 := own_idx (m := xs.length) hp2 (by omega)
    refine Done.step (ldB X0 hx hZ e0 A1 (j := p2) (x := (.int (xs.getD p2.toNatClampNeg (0 : Int32)))) (own_nneg h9.1) (by rw [List.getElem?_map, List.getElem?_eq_getElem h9.2.2, List.getD_eq_getElem?_getD, List.getElem?_eq_getElem h9.2.2]; rfl) (g := (mkF m 9 #[.val (.ref a1), .val (.int p2), .val (.int p3), .unset, .unset, .unset, .unset, .unset] [(.int p2), (.ref a1)])) rfl rfl (hb hby d2_9)) ?_
    show Done p e below s _ _ _ (s₁.setTop (mkF m 10 #[.val (.ref a1), .val (.int p2), .val (.int p3), .unset, .unset, .unset, .unset, .unset] [(.int (xs.getD p2.toNatClampNeg (0 : Int32)))]))
    refine Done.step (fun t k => XS.bipush X0.here hx rfl (hb hby d2_10) k) ?_
    show Done p e below s _ _ _ (s₁.setTop (mkF m 12 #[.val (.ref a1), .val (.int p2), .val (.int p3), .unset, .unset, .unset, .unset, .unset] [(.int (45 : Int32)), (.int (xs.getD p2.toNatClampNeg (0 : Int32)))]))
    by_cases c2 : (xs.getD p2.toNatClampNeg (0 : Int32)) = (45 : Int32)
    · refine Done.step (fun t k => XS.icmpNo X0.here hx rfl (hb hby d2_12) rfl (teq c2).2 k) ?_
      show Done p e below s _ _ _ (s₁.setTop (mkF m 15 #[.val (.ref a1), .val (.int p2), .val (.int p3), .unset, .unset, .unset, .unset, .unset] []))
      refine Done.step (fun t k => XS.iloadN X0.here hx rfl (hb hby d2_15) rfl k) ?_
      show Done p e below s _ _ _ (s₁.setTop (mkF m 16 #[.val (.ref a1), .val (.int p2), .val (.int p3), .unset, .unset, .unset, .unset, .unset] [(.int p2)]))
      refine Done.step (fun t k => XS.iconst X0.here hx rfl (hb hby d2_16) k) ?_
      show Done p e below s _ _ _ (s₁.setTop (mkF m 17 #[.val (.ref a1), .val (.int p2), .val (.int p3), .unset, .unset, .unset, .unset, .unset] [(.int (1 : Int32)), (.int p2)]))
      refine Done.step (fun t k => XS.iadd X0.here hx rfl (hb hby d2_17) rfl k) ?_
      show Done p e below s _ _ _ (s₁.setTop (mkF m 18 #[.val (.ref a1), .val (.int p2), .val (.int p3), .unset, .unset, .unset, .unset, .unset] [(.int (p2 + (1 : Int32)))]))
      refine Done.step (fun t k => XS.goto X0.here hx rfl (pc0 := 18) (pc' := 22) rfl (hb hby d2_18) (by decide) (by decide) k) ?_
      show Done p e below s _ _ _ (s₁.setTop (mkF m 22 #[.val (.ref a1), .val (.int p2), .val (.int p3), .unset, .unset, .unset, .unset, .unset] [(.int (p2 + (1 : Int32)))]))
      refine Done.step (fun t k => XS.istoreN X0.here hx rfl (hb hby d2_22) rfl (l' := #[.val (.ref a1), .val (.int p2), .val (.int p3), .val (.int (p2 + (1 : Int32))), .unset, .unset, .unset, .unset]) rfl k) ?_
      show Done p e below s _ _ _ (s₁.setTop (mkF m 23 #[.val (.ref a1), .val (.int p2), .val (.int p3), .val (.int (p2 + (1 : Int32))), .unset, .unset, .unset, .unset] []))
      refine Done.step (fun t k => XS.iloadN X0.here hx rfl (hb hby d2_23) rfl k) ?_
      show Done p e below s _ _ _ (s₁.setTop (mkF m 24 #[.val (.ref a1), .val (.int p2), .val (.int p3), .val (.int (p2 + (1 : Int32))), .unset, .unset, .unset, .unset] [(.int p3)]))
      refine Done.step (fun t k => XS.iloadN X0.here hx rfl (hb hby d2_24) rfl k) ?_
      show Done p e below s _ _ _ (s₁.setTop (mkF m 25 #[.val (.ref a1), .val (.int p2), .val (.int p3), .val (.int (p2 + (1 : Int32))), .unset, .unset, .unset, .unset] [(.int p2), (.int p3)]))
      by_cases c3 : p3 = p2
      · refine Done.step (fun t k => XS.icmpYes X0.here hx rfl (pc0 := 25) (pc' := 36) rfl (hb hby d2_25) rfl (teq c3).1 (by decide) (by decide) k) ?_
        show Done p e below s _ _ _ (s₁.setTop (mkF m 36 #[.val (.ref a1), .val (.int p2), .val (.int p3), .val (.int (p2 + (1 : Int32))), .unset, .unset, .unset, .unset] []))
        refine Done.step (X0.ldc2Long hx hown (mvT hZ (hw _ (List.mem_of_getElem? (i := 10) rfl))) (g := (mkF m 36 #[.val (.ref a1), .val (.int p2), .val (.int p3), .val (.int (p2 + (1 : Int32))), .unset, .unset, .unset, .unset] [])) rfl (hb hby d2_36)) ?_
        show Done p e below s _ _ _ (s₁.setTop (mkF m 39 #[.val (.ref a1), .val (.int p2), .val (.int p3), .val (.int (p2 + (1 : Int32))), .unset, .unset, .unset, .unset] [(.long (-9223372036854775808 : Int64))]))
        exact Done.long X0 hx hlk hret (hb hby d2_39) (by decide) (by decide) ⟨by rw [show SW xs hh p2 p3 = (-9223372036854775808 : Int64) from by unfold SW; rw [if_pos c1, if_pos c2, if_pos c3]], N0, e0⟩
      · refine Done.step (fun t k => XS.icmpNo X0.here hx rfl (hb hby d2_25) rfl (feq c3).1 k) ?_
        show Done p e below s _ _ _ (s₁.setTop (mkF m 28 #[.val (.ref a1), .val (.int p2), .val (.int p3), .val (.int (p2 + (1 : Int32))), .unset, .unset, .unset, .unset] []))
        refine Done.step (fun t k => XS.iloadN X0.here hx rfl (hb hby d2_28) rfl k) ?_
        show Done p e below s _ _ _ (s₁.setTop (mkF m 29 #[.val (.ref a1), .val (.int p2), .val (.int p3), .val (.int (p2 + (1 : Int32))), .unset, .unset, .unset, .unset] [(.int p3)]))
        refine Done.step (fun t k => XS.iloadN X0.here hx rfl (hb hby d2_29) rfl k) ?_
        show Done p e below s _ _ _ (s₁.setTop (mkF m 30 #[.val (.ref a1), .val (.int p2), .val (.int p3), .val (.int (p2 + (1 : Int32))), .unset, .unset, .unset, .unset] [(.int (p2 + (1 : Int32))), (.int p3)]))
        refine Done.step (fun t k => XS.isub X0.here hx rfl (hb hby d2_30) rfl k) ?_
        show Done p e below s _ _ _ (s₁.setTop (mkF m 31 #[.val (.ref a1), .val (.int p2), .val (.int p3), .val (.int (p2 + (1 : Int32))), .unset, .unset, .unset, .unset] [(.int (p3 - (p2 + (1 : Int32))))]))
        refine Done.step (fun t k => XS.bipush X0.here hx rfl (hb hby d2_31) k) ?_
        show Done p e below s _ _ _ (s₁.setTop (mkF m 33 #[.val (.ref a1), .val (.int p2), .val (.int p3), .val (.int (p2 + (1 : Int32))), .unset, .unset, .unset, .unset] [(.int (18 : Int32)), (.int (p3 - (p2 + (1 : Int32))))]))
        by_cases c4 : (18 : Int32) < (p3 - (p2 + (1 : Int32)))
        · refine Done.step (fun t k => XS.icmpNo X0.here hx rfl (hb hby d2_33) rfl (tlt c4).2.2.2 k) ?_
          show Done p e below s _ _ _ (s₁.setTop (mkF m 36 #[.val (.ref a1), .val (.int p2), .val (.int p3), .val (.int (p2 + (1 : Int32))), .unset, .unset, .unset, .unset] []))
          refine Done.step (X0.ldc2Long hx hown (mvT hZ (hw _ (List.mem_of_getElem? (i := 10) rfl))) (g := (mkF m 36 #[.val (.ref a1), .val (.int p2), .val (.int p3), .val (.int (p2 + (1 : Int32))), .unset, .unset, .unset, .unset] [])) rfl (hb hby d2_36)) ?_
          show Done p e below s _ _ _ (s₁.setTop (mkF m 39 #[.val (.ref a1), .val (.int p2), .val (.int p3), .val (.int (p2 + (1 : Int32))), .unset, .unset, .unset, .unset] [(.long (-9223372036854775808 : Int64))]))
          exact Done.long X0 hx hlk hret (hb hby d2_39) (by decide) (by decide) ⟨by rw [show SW xs hh p2 p3 = (-9223372036854775808 : Int64) from by unfold SW; rw [if_pos c1, if_pos c2, if_neg c3, if_pos c4]], N0, e0⟩
        · refine Done.step (fun t k => XS.icmpYes X0.here hx rfl (pc0 := 33) (pc' := 40) rfl (hb hby d2_33) rfl (flt c4).2.2.2 (by decide) (by decide) k) ?_
          show Done p e below s _ _ _ (s₁.setTop (mkF m 40 #[.val (.ref a1), .val (.int p2), .val (.int p3), .val (.int (p2 + (1 : Int32))), .unset, .unset, .unset, .unset] []))
          refine Done.step (fun t k => XS.lconst X0.here hx rfl (hb hby d2_40) k) ?_
          show Done p e below s _ _ _ (s₁.setTop (mkF m 41 #[.val (.ref a1), .val (.int p2), .val (.int p3), .val (.int (p2 + (1 : Int32))), .unset, .unset, .unset, .unset] [(.long (0 : Int64))]))
          refine Done.step (fun t k => XS.lstore X0.here hx rfl (hb hby d2_41) rfl (l' := #[.val (.ref a1), .val (.int p2), .val (.int p3), .val (.int (p2 + (1 : Int32))), .val (.long (0 : Int64)), .second, .unset, .unset]) rfl k) ?_
          show Done p e below s _ _ _ (s₁.setTop (mkF m 43 #[.val (.ref a1), .val (.int p2), .val (.int p3), .val (.int (p2 + (1 : Int32))), .val (.long (0 : Int64)), .second, .unset, .unset] []))
          refine Done.step (fun t k => XS.iloadN X0.here hx rfl (hb hby d2_43) rfl k) ?_
          show Done p e below s _ _ _ (s₁.setTop (mkF m 44 #[.val (.ref a1), .val (.int p2), .val (.int p3), .val (.int (p2 + (1 : Int32))), .val (.long (0 : Int64)), .second, .unset, .unset] [(.int (p2 + (1 : Int32)))]))
          refine Done.step (fun t k => XS.istore X0.here hx rfl (hb hby d2_44) rfl (l' := #[.val (.ref a1), .val (.int p2), .val (.int p3), .val (.int (p2 + (1 : Int32))), .val (.long (0 : Int64)), .second, .val (.int (p2 + (1 : Int32))), .unset]) rfl k) ?_
          show Done p e below s _ _ _ (s₁.setTop (mkF m 46 #[.val (.ref a1), .val (.int p2), .val (.int p3), .val (.int (p2 + (1 : Int32))), .val (.long (0 : Int64)), .second, .val (.int (p2 + (1 : Int32))), .unset] []))
          have hs3 : ((p2 + (1 : Int32))).toInt = ((ll + 1 : Nat) : Int) := by have a := c_iadd p2 (1 : Int32); have r := rng32 (p2 + (1 : Int32)); have r2 := rng32 p2; have r3 := rng32 p3; have e1 : (1 : Int32).toInt = 1 := rfl; omega
          have hc3 : ((p2 + (1 : Int32))).toNatClampNeg = ll + 1 := by rw [Int32.toNatClampNeg]; omega
          exact lp46 a1 p2 p3 (p2 + (1 : Int32)) xs hh (SW xs hh p2 p3) hx hZ hw hby hml hown hlk hret hnm A1 hp3 hhl (hh + 1)  s₁ _ (0 : Int64) (p2 + (1 : Int32)) .unset (ll + 1) X0 N0 Z0 e0 (Or.inl rfl) (by omega) hs3 (by omega) (by rw [show SW xs hh p2 p3 = (RD p2 (p2 + (1 : Int32)) ((xs.take hh).drop ((p2 + (1 : Int32))).toNatClampNeg) (0 : Int64)) from by unfold SW; rw [if_pos c1, if_pos c2, if_neg c3, if_neg c4], hc3])
    · refine Done.step (fun t k => XS.icmpYes X0.here hx rfl (pc0 := 12) (pc' := 21) rfl (hb hby d2_12) rfl (feq c2).2 (by decide) (by decide) k) ?_
      show Done p e below s _ _ _ (s₁.setTop (mkF m 21 #[.val (.ref a1), .val (.int p2), .val (.int p3), .unset, .unset, .unset, .unset, .unset] []))
      refine Done.step (fun t k => XS.iloadN X0.here hx rfl (hb hby d2_21) rfl k) ?_
      show Done p e below s _ _ _ (s₁.setTop (mkF m 22 #[.val (.ref a1), .val (.int p2), .val (.int p3), .unset, .unset, .unset, .unset, .unset] [(.int p2)]))
      refine Done.step (fun t k => XS.istoreN X0.here hx rfl (hb hby d2_22) rfl (l' := #[.val (.ref a1), .val (.int p2), .val (.int p3), .val (.int p2), .unset, .unset, .unset, .unset]) rfl k) ?_
      show Done p e below s _ _ _ (s₁.setTop (mkF m 23 #[.val (.ref a1), .val (.int p2), .val (.int p3), .val (.int p2), .unset, .unset, .unset, .unset] []))
      refine Done.step (fun t k => XS.iloadN X0.here hx rfl (hb hby d2_23) rfl k) ?_
      show Done p e below s _ _ _ (s₁.setTop (mkF m 24 #[.val (.ref a1), .val (.int p2), .val (.int p3), .val (.int p2), .unset, .unset, .unset, .unset] [(.int p3)]))
      refine Done.step (fun t k => XS.iloadN X0.here hx rfl (hb hby d2_24) rfl k) ?_
      show Done p e below s _ _ _ (s₁.setTop (mkF m 25 #[.val (.ref a1), .val (.int p2), .val (.int p3), .val (.int p2), .unset, .unset, .unset, .unset] [(.int p2), (.int p3)]))
      by_cases c5 : p3 = p2
      · refine Done.step (fun t k => XS.icmpYes X0.here hx rfl (pc0 := 25) (pc' := 36) rfl (hb hby d2_25) rfl (teq c5).1 (by decide) (by decide) k) ?_
        show Done p e below s _ _ _ (s₁.setTop (mkF m 36 #[.val (.ref a1), .val (.int p2), .val (.int p3), .val (.int p2), .unset, .unset, .unset, .unset] []))
        refine Done.step (X0.ldc2Long hx hown (mvT hZ (hw _ (List.mem_of_getElem? (i := 10) rfl))) (g := (mkF m 36 #[.val (.ref a1), .val (.int p2), .val (.int p3), .val (.int p2), .unset, .unset, .unset, .unset] [])) rfl (hb hby d2_36)) ?_
        show Done p e below s _ _ _ (s₁.setTop (mkF m 39 #[.val (.ref a1), .val (.int p2), .val (.int p3), .val (.int p2), .unset, .unset, .unset, .unset] [(.long (-9223372036854775808 : Int64))]))
        exact Done.long X0 hx hlk hret (hb hby d2_39) (by decide) (by decide) ⟨by rw [show SW xs hh p2 p3 = (-9223372036854775808 : Int64) from by unfold SW; rw [if_pos c1, if_neg c2, if_pos c5]], N0, e0⟩
      · refine Done.step (fun t k => XS.icmpNo X0.here hx rfl (hb hby d2_25) rfl (feq c5).1 k) ?_
        show Done p e below s _ _ _ (s₁.setTop (mkF m 28 #[.val (.ref a1), .val (.int p2), .val (.int p3), .val (.int p2), .unset, .unset, .unset, .unset] []))
        refine Done.step (fun t k => XS.iloadN X0.here hx rfl (hb hby d2_28) rfl k) ?_
        show Done p e below s _ _ _ (s₁.setTop (mkF m 29 #[.val (.ref a1), .val (.int p2), .val (.int p3), .val (.int p2), .unset, .unset, .unset, .unset] [(.int p3)]))
        refine Done.step (fun t k => XS.iloadN X0.here hx rfl (hb hby d2_29) rfl k) ?_
        show Done p e below s _ _ _ (s₁.setTop (mkF m 30 #[.val (.ref a1), .val (.int p2), .val (.int p3), .val (.int p2), .unset, .unset, .unset, .unset] [(.int p2), (.int p3)]))
        refine Done.step (fun t k => XS.isub X0.here hx rfl (hb hby d2_30) rfl k) ?_
        show Done p e below s _ _ _ (s₁.setTop (mkF m 31 #[.val (.ref a1), .val (.int p2), .val (.int p3), .val (.int p2), .unset, .unset, .unset, .unset] [(.int (p3 - p2))]))
        refine Done.step (fun t k => XS.bipush X0.here hx rfl (hb hby d2_31) k) ?_
        show Done p e below s _ _ _ (s₁.setTop (mkF m 33 #[.val (.ref a1), .val (.int p2), .val (.int p3), .val (.int p2), .unset, .unset, .unset, .unset] [(.int (18 : Int32)), (.int (p3 - p2))]))
        by_cases c6 : (18 : Int32) < (p3 - p2)
        · refine Done.step (fun t k => XS.icmpNo X0.here hx rfl (hb hby d2_33) rfl (tlt c6).2.2.2 k) ?_
          show Done p e below s _ _ _ (s₁.setTop (mkF m 36 #[.val (.ref a1), .val (.int p2), .val (.int p3), .val (.int p2), .unset, .unset, .unset, .unset] []))
          refine Done.step (X0.ldc2Long hx hown (mvT hZ (hw _ (List.mem_of_getElem? (i := 10) rfl))) (g := (mkF m 36 #[.val (.ref a1), .val (.int p2), .val (.int p3), .val (.int p2), .unset, .unset, .unset, .unset] [])) rfl (hb hby d2_36)) ?_
          show Done p e below s _ _ _ (s₁.setTop (mkF m 39 #[.val (.ref a1), .val (.int p2), .val (.int p3), .val (.int p2), .unset, .unset, .unset, .unset] [(.long (-9223372036854775808 : Int64))]))
          exact Done.long X0 hx hlk hret (hb hby d2_39) (by decide) (by decide) ⟨by rw [show SW xs hh p2 p3 = (-9223372036854775808 : Int64) from by unfold SW; rw [if_pos c1, if_neg c2, if_neg c5, if_pos c6]], N0, e0⟩
        · refine Done.step (fun t k => XS.icmpYes X0.here hx rfl (pc0 := 33) (pc' := 40) rfl (hb hby d2_33) rfl (flt c6).2.2.2 (by decide) (by decide) k) ?_
          show Done p e below s _ _ _ (s₁.setTop (mkF m 40 #[.val (.ref a1), .val (.int p2), .val (.int p3), .val (.int p2), .unset, .unset, .unset, .unset] []))
          refine Done.step (fun t k => XS.lconst X0.here hx rfl (hb hby d2_40) k) ?_
          show Done p e below s _ _ _ (s₁.setTop (mkF m 41 #[.val (.ref a1), .val (.int p2), .val (.int p3), .val (.int p2), .unset, .unset, .unset, .unset] [(.long (0 : Int64))]))
          refine Done.step (fun t k => XS.lstore X0.here hx rfl (hb hby d2_41) rfl (l' := #[.val (.ref a1), .val (.int p2), .val (.int p3), .val (.int p2), .val (.long (0 : Int64)), .second, .unset, .unset]) rfl k) ?_
          show Done p e below s _ _ _ (s₁.setTop (mkF m 43 #[.val (.ref a1), .val (.int p2), .val (.int p3), .val (.int p2), .val (.long (0 : Int64)), .second, .unset, .unset] []))
          refine Done.step (fun t k => XS.iloadN X0.here hx rfl (hb hby d2_43) rfl k) ?_
          show Done p e below s _ _ _ (s₁.setTop (mkF m 44 #[.val (.ref a1), .val (.int p2), .val (.int p3), .val (.int p2), .val (.long (0 : Int64)), .second, .unset, .unset] [(.int p2)]))
          refine Done.step (fun t k => XS.istore X0.here hx rfl (hb hby d2_44) rfl (l' := #[.val (.ref a1), .val (.int p2), .val (.int p3), .val (.int p2), .val (.long (0 : Int64)), .second, .val (.int p2), .unset]) rfl k) ?_
          show Done p e below s _ _ _ (s₁.setTop (mkF m 46 #[.val (.ref a1), .val (.int p2), .val (.int p3), .val (.int p2), .val (.long (0 : Int64)), .second, .val (.int p2), .unset] []))
          have hs3 : p2.toInt = ((ll : Nat) : Int) := hp2
          have hc3 : (p2).toNatClampNeg = ll := by rw [Int32.toNatClampNeg]; omega
          exact lp46 a1 p2 p3 p2 xs hh (SW xs hh p2 p3) hx hZ hw hby hml hown hlk hret hnm A1 hp3 hhl (hh + 1)  s₁ _ (0 : Int64) p2 .unset (ll) X0 N0 Z0 e0 (Or.inl rfl) (by omega) hs3 (by omega) (by rw [show SW xs hh p2 p3 = (RD p2 p2 ((xs.take hh).drop (p2).toNatClampNeg) (0 : Int64)) from by unfold SW; rw [if_pos c1, if_neg c2, if_neg c5, if_neg c6], hc3])
  · refine Done.step (fun t k => XS.icmpYes X0.here hx rfl (pc0 := 4) (pc' := 21) rfl (hb hby d2_4) rfl (flt c1).2.2.2 (by decide) (by decide) k) ?_
    show Done p e below s _ _ _ (s₁.setTop (mkF m 21 #[.val (.ref a1), .val (.int p2), .val (.int p3), .unset, .unset, .unset, .unset, .unset] []))
    refine Done.step (fun t k => XS.iloadN X0.here hx rfl (hb hby d2_21) rfl k) ?_
    show Done p e below s _ _ _ (s₁.setTop (mkF m 22 #[.val (.ref a1), .val (.int p2), .val (.int p3), .unset, .unset, .unset, .unset, .unset] [(.int p2)]))
    refine Done.step (fun t k => XS.istoreN X0.here hx rfl (hb hby d2_22) rfl (l' := #[.val (.ref a1), .val (.int p2), .val (.int p3), .val (.int p2), .unset, .unset, .unset, .unset]) rfl k) ?_
    show Done p e below s _ _ _ (s₁.setTop (mkF m 23 #[.val (.ref a1), .val (.int p2), .val (.int p3), .val (.int p2), .unset, .unset, .unset, .unset] []))
    refine Done.step (fun t k => XS.iloadN X0.here hx rfl (hb hby d2_23) rfl k) ?_
    show Done p e below s _ _ _ (s₁.setTop (mkF m 24 #[.val (.ref a1), .val (.int p2), .val (.int p3), .val (.int p2), .unset, .unset, .unset, .unset] [(.int p3)]))
    refine Done.step (fun t k => XS.iloadN X0.here hx rfl (hb hby d2_24) rfl k) ?_
    show Done p e below s _ _ _ (s₁.setTop (mkF m 25 #[.val (.ref a1), .val (.int p2), .val (.int p3), .val (.int p2), .unset, .unset, .unset, .unset] [(.int p2), (.int p3)]))
    by_cases c7 : p3 = p2
    · refine Done.step (fun t k => XS.icmpYes X0.here hx rfl (pc0 := 25) (pc' := 36) rfl (hb hby d2_25) rfl (teq c7).1 (by decide) (by decide) k) ?_
      show Done p e below s _ _ _ (s₁.setTop (mkF m 36 #[.val (.ref a1), .val (.int p2), .val (.int p3), .val (.int p2), .unset, .unset, .unset, .unset] []))
      refine Done.step (X0.ldc2Long hx hown (mvT hZ (hw _ (List.mem_of_getElem? (i := 10) rfl))) (g := (mkF m 36 #[.val (.ref a1), .val (.int p2), .val (.int p3), .val (.int p2), .unset, .unset, .unset, .unset] [])) rfl (hb hby d2_36)) ?_
      show Done p e below s _ _ _ (s₁.setTop (mkF m 39 #[.val (.ref a1), .val (.int p2), .val (.int p3), .val (.int p2), .unset, .unset, .unset, .unset] [(.long (-9223372036854775808 : Int64))]))
      exact Done.long X0 hx hlk hret (hb hby d2_39) (by decide) (by decide) ⟨by rw [show SW xs hh p2 p3 = (-9223372036854775808 : Int64) from by unfold SW; rw [if_neg c1, if_pos c7]], N0, e0⟩
    · refine Done.step (fun t k => XS.icmpNo X0.here hx rfl (hb hby d2_25) rfl (feq c7).1 k) ?_
      show Done p e below s _ _ _ (s₁.setTop (mkF m 28 #[.val (.ref a1), .val (.int p2), .val (.int p3), .val (.int p2), .unset, .unset, .unset, .unset] []))
      refine Done.step (fun t k => XS.iloadN X0.here hx rfl (hb hby d2_28) rfl k) ?_
      show Done p e below s _ _ _ (s₁.setTop (mkF m 29 #[.val (.ref a1), .val (.int p2), .val (.int p3), .val (.int p2), .unset, .unset, .unset, .unset] [(.int p3)]))
      refine Done.step (fun t k => XS.iloadN X0.here hx rfl (hb hby d2_29) rfl k) ?_
      show Done p e below s _ _ _ (s₁.setTop (mkF m 30 #[.val (.ref a1), .val (.int p2), .val (.int p3), .val (.int p2), .unset, .unset, .unset, .unset] [(.int p2), (.int p3)]))
      refine Done.step (fun t k => XS.isub X0.here hx rfl (hb hby d2_30) rfl k) ?_
      show Done p e below s _ _ _ (s₁.setTop (mkF m 31 #[.val (.ref a1), .val (.int p2), .val (.int p3), .val (.int p2), .unset, .unset, .unset, .unset] [(.int (p3 - p2))]))
      refine Done.step (fun t k => XS.bipush X0.here hx rfl (hb hby d2_31) k) ?_
      show Done p e below s _ _ _ (s₁.setTop (mkF m 33 #[.val (.ref a1), .val (.int p2), .val (.int p3), .val (.int p2), .unset, .unset, .unset, .unset] [(.int (18 : Int32)), (.int (p3 - p2))]))
      by_cases c8 : (18 : Int32) < (p3 - p2)
      · refine Done.step (fun t k => XS.icmpNo X0.here hx rfl (hb hby d2_33) rfl (tlt c8).2.2.2 k) ?_
        show Done p e below s _ _ _ (s₁.setTop (mkF m 36 #[.val (.ref a1), .val (.int p2), .val (.int p3), .val (.int p2), .unset, .unset, .unset, .unset] []))
        refine Done.step (X0.ldc2Long hx hown (mvT hZ (hw _ (List.mem_of_getElem? (i := 10) rfl))) (g := (mkF m 36 #[.val (.ref a1), .val (.int p2), .val (.int p3), .val (.int p2), .unset, .unset, .unset, .unset] [])) rfl (hb hby d2_36)) ?_
        show Done p e below s _ _ _ (s₁.setTop (mkF m 39 #[.val (.ref a1), .val (.int p2), .val (.int p3), .val (.int p2), .unset, .unset, .unset, .unset] [(.long (-9223372036854775808 : Int64))]))
        exact Done.long X0 hx hlk hret (hb hby d2_39) (by decide) (by decide) ⟨by rw [show SW xs hh p2 p3 = (-9223372036854775808 : Int64) from by unfold SW; rw [if_neg c1, if_neg c7, if_pos c8]], N0, e0⟩
      · refine Done.step (fun t k => XS.icmpYes X0.here hx rfl (pc0 := 33) (pc' := 40) rfl (hb hby d2_33) rfl (flt c8).2.2.2 (by decide) (by decide) k) ?_
        show Done p e below s _ _ _ (s₁.setTop (mkF m 40 #[.val (.ref a1), .val (.int p2), .val (.int p3), .val (.int p2), .unset, .unset, .unset, .unset] []))
        refine Done.step (fun t k => XS.lconst X0.here hx rfl (hb hby d2_40) k) ?_
        show Done p e below s _ _ _ (s₁.setTop (mkF m 41 #[.val (.ref a1), .val (.int p2), .val (.int p3), .val (.int p2), .unset, .unset, .unset, .unset] [(.long (0 : Int64))]))
        refine Done.step (fun t k => XS.lstore X0.here hx rfl (hb hby d2_41) rfl (l' := #[.val (.ref a1), .val (.int p2), .val (.int p3), .val (.int p2), .val (.long (0 : Int64)), .second, .unset, .unset]) rfl k) ?_
        show Done p e below s _ _ _ (s₁.setTop (mkF m 43 #[.val (.ref a1), .val (.int p2), .val (.int p3), .val (.int p2), .val (.long (0 : Int64)), .second, .unset, .unset] []))
        refine Done.step (fun t k => XS.iloadN X0.here hx rfl (hb hby d2_43) rfl k) ?_
        show Done p e below s _ _ _ (s₁.setTop (mkF m 44 #[.val (.ref a1), .val (.int p2), .val (.int p3), .val (.int p2), .val (.long (0 : Int64)), .second, .unset, .unset] [(.int p2)]))
        refine Done.step (fun t k => XS.istore X0.here hx rfl (hb hby d2_44) rfl (l' := #[.val (.ref a1), .val (.int p2), .val (.int p3), .val (.int p2), .val (.long (0 : Int64)), .second, .val (.int p2), .unset]) rfl k) ?_
        show Done p e below s _ _ _ (s₁.setTop (mkF m 46 #[.val (.ref a1), .val (.int p2), .val (.int p3), .val (.int p2), .val (.long (0 : Int64)), .second, .val (.int p2), .unset] []))
        have hs3 : p2.toInt = ((ll : Nat) : Int) := hp2
        have hc3 : (p2).toNatClampNeg = ll := by rw [Int32.toNatClampNeg]; omega
        exact lp46 a1 p2 p3 p2 xs hh (SW xs hh p2 p3) hx hZ hw hby hml hown hlk hret hnm A1 hp3 hhl (hh + 1)  s₁ _ (0 : Int64) p2 .unset (ll) X0 N0 Z0 e0 (Or.inl rfl) (by omega) hs3 (by omega) (by rw [show SW xs hh p2 p3 = (RD p2 p2 ((xs.take hh).drop (p2).toNatClampNeg) (0 : Int64)) from by unfold SW; rw [if_neg c1, if_neg c7, if_neg c8], hc3])
theorem tb48 : (48 : Int32).toInt = 48 := rfl
theorem tb57 : (57 : Int32).toInt = 57 := rfl
theorem tb9 : (9 : Int32).toInt = 9 := rfl
theorem tb0 : (0 : Int32).toInt = 0 := rfl
theorem tbm : (-1 : Int32).toInt = -1 := rfl
theorem own_byte {x : Int32} (h : nar .byte x = x) : -128 ≤ x.toInt ∧ x.toInt < 128 := by
  have q := c_i2b x
  have e : x.toInt8.toInt32 = x := h
  rw [e] at q; exact q.2
theorem rd_cons (lo s x : Int32) (t : List Int32) (v : Int64) (hx : nar .byte x = x) : RD lo s (x :: t) v = if (F4 x) < (0 : Int32) then (-9223372036854775808 : Int64) else RD lo s t ((v * (10 : Int64)) + ((F4 x)).toInt64) := by
  have r := own_byte hx
  have a := c_isub x (48 : Int32)
  have r2 := rng32 (x - (48 : Int32))
  rw [tb48] at a
  have e : (x - (48 : Int32)).toInt = x.toInt - 48 := by omega
  rw [RD]
  unfold F4
  by_cases h1 : x < (48 : Int32)
  · rw [if_pos h1, if_pos (show (-1 : Int32) < 0 by decide), if_pos]
    rw [Int32.lt_iff_toInt_lt, e, tb0]; have := Int32.lt_iff_toInt_lt.mp h1; rw [tb48] at this; omega
  · have g1 := Int.not_lt.mp (fun q => h1 (Int32.lt_iff_toInt_lt.mpr q))
    rw [tb48] at g1
    have n1 : ¬ (x - (48 : Int32)) < (0 : Int32) := by rw [Int32.lt_iff_toInt_lt, e, tb0]; omega
    rw [if_neg h1, if_neg n1]
    by_cases h2 : (57 : Int32) < x
    · rw [if_pos h2, if_pos (show (-1 : Int32) < 0 by decide), if_pos]
      rw [Int32.lt_iff_toInt_lt, e, tb9]; have := Int32.lt_iff_toInt_lt.mp h2; rw [tb57] at this; omega
    · have g2 := Int.not_lt.mp (fun q => h2 (Int32.lt_iff_toInt_lt.mpr q))
      rw [tb57] at g2
      rw [if_neg h2, if_neg n1, if_neg]
      rw [Int32.lt_iff_toInt_lt, e, tb9]; omega
def pw : Nat → Int64
  | 0 => 1
  | k + 1 => 10 * pw k
def rp : Nat → Int64
  | 0 => 0
  | k + 1 => pw k + rp k
theorem own_tab : ∀ i : Fin 19, F6 (Int32.ofNat i.1) = pw i.1 ∧ (pw i.1 - (1 : Int64)) / (9 : Int64) = rp i.1 := by decide +kernel
theorem own_tab' (k : Int32) (kk : Nat) (h : k.toInt = (kk : Int)) (hk : kk ≤ 18) : F6 k = pw kk ∧ ((F6 k) - (1 : Int64)) / (9 : Int64) = rp kk := by
  have q := own_tab ⟨kk, by omega⟩
  have e : Int32.ofNat kk = k := by
    apply Int32.toInt_inj.mp
    rw [Int32.toInt_ofNat_of_lt (by omega), h]
  dsimp only at q
  rw [e] at q
  exact ⟨q.1, by rw [q.1]; exact q.2⟩
theorem rd_rep (lo s f : Int32) (hf : nar .byte f = f) (hd : ¬ (F4 f) < (0 : Int32)) (k : Nat) : ∀ v, RD lo s (List.replicate k f) v = RD lo s [] ((v * pw k) + (((F4 f)).toInt64 * rp k)) := by
  induction k with
  | zero => intro v; congr 1; show v = v * 1 + _ * 0; grind
  | succ k ih =>
    intro v
    rw [List.replicate_succ, rd_cons lo s f _ v hf, if_neg hd, ih]
    congr 1
    show ((v * (10 : Int64)) + ((F4 f)).toInt64) * pw k + ((F4 f)).toInt64 * rp k = v * (10 * pw k) + ((F4 f)).toInt64 * (pw k + rp k)
    grind
theorem rd_nil (lo s c9 : Int32) (hc : lo < s ↔ ¬ c9 = (0 : Int32)) (v : Int64) (a b c d : Int32) (hi i8 i10 i13 i14 : Int32) : RD lo s [] v = X3_287 a b c d lo hi i8 c9 i10 v i13 i14 := by
  rw [RD]
  unfold X3_287
  by_cases h : c9 = (0 : Int32)
  · rw [if_pos h, if_neg (fun q => hc.mp q h)]
  · rw [if_neg h, if_pos (hc.mpr h)]
theorem own_239 (lo s c9 : Int32) (hc : lo < s ↔ ¬ c9 = (0 : Int32)) (a b c f hi i8 i10 i13 k : Int32) (hf : nar .byte f = f) (kk : Nat) (hk : k.toInt = (kk : Int)) (hk2 : kk ≤ 18) (v : Int64) : RD lo s (List.replicate kk f) v = X3_239 a b c f lo hi i8 c9 i10 v i13 k := by
  unfold X3_239
  by_cases h : (0 : Int32) < k
  · have h' := Int32.lt_iff_toInt_lt.mp h
    rw [tb0] at h'
    rw [if_pos h]
    by_cases hd : (F4 f) < (0 : Int32)
    · rw [if_pos hd]
      obtain ⟨j, rfl⟩ : ∃ j, kk = j + 1 := ⟨kk - 1, by omega⟩
      rw [List.replicate_succ, rd_cons lo s f _ v hf, if_pos hd]
    · rw [if_neg hd, rd_rep lo s f hf hd kk v, (own_tab' k kk hk hk2).2, (own_tab' k kk hk hk2).1]
      exact rd_nil lo s c9 hc _ _ _ _ _ _ _ _ _ _
  · have h' := Int.not_lt.mp (fun q => h (Int32.lt_iff_toInt_lt.mpr q))
    rw [tb0] at h'
    obtain rfl : kk = 0 := by omega
    rw [if_neg h]
    exact rd_nil lo s c9 hc _ _ _ _ _ _ _ _ _ _
theorem own_215 (lo s c9 : Int32) (hc : lo < s ↔ ¬ c9 = (0 : Int32)) (a b c f hi i8 : Int32) (hf : nar .byte f = f) (ss hh : Nat) (hs : s.toInt = (ss : Int)) (hhi : hi.toInt = (hh : Int)) (h20 : hh ≤ 20) (hsh : ss ≤ hh) (v : Int64) : RD lo s (List.replicate (hh - max ss 3) f) v = X3_215 a b c f lo hi i8 c9 s v := by
  have e3 : (3 : Int32).toInt = 3 := rfl
  have em : (F5 s (3 : Int32)).toInt = ((max ss 3 : Nat) : Int) := by
    unfold F5
    by_cases h : s < (3 : Int32)
    · rw [if_pos h, e3]; have := Int32.lt_iff_toInt_lt.mp h; rw [e3] at this; omega
    · rw [if_neg h]; have := Int.not_lt.mp (fun q => h (Int32.lt_iff_toInt_lt.mpr q)); rw [e3] at this; omega
  unfold X3_215
  by_cases h : (F5 s (3 : Int32)) < hi
  · rw [if_pos h]
    have h' := Int32.lt_iff_toInt_lt.mp h
    refine own_239 lo s c9 hc a b c f hi i8 s _ _ hf _ ?_ (by omega) v
    have q := c_isub hi (F5 s (3 : Int32))
    have r := rng32 (hi - (F5 s (3 : Int32)))
    omega
  · rw [if_neg h]
    have h' := Int.not_lt.mp (fun q => h (Int32.lt_iff_toInt_lt.mpr q))
    refine own_239 lo s c9 hc a b c f hi i8 s _ _ hf _ ?_ (by omega) v
    rw [tb0]; omega
theorem own_177 (lo s c9 : Int32) (hc : lo < s ↔ ¬ c9 = (0 : Int32)) (a b c f hi i8 : Int32) (hf : nar .byte f = f) (hb : nar .byte c = c) (ss hh : Nat) (hs : s.toInt = (ss : Int)) (hhi : hi.toInt = (hh : Int)) (h20 : hh ≤ 20) (hsh : ss ≤ hh) (v : Int64) : RD lo s ((if ss ≤ 2 ∧ 2 < hh then [c] else []) ++ List.replicate (hh - max ss 3) f) v = X3_177 a b c f lo hi i8 c9 s v := by
  have e2 : (2 : Int32).toInt = 2 := rfl
  unfold X3_177
  by_cases h1 : (2 : Int32) < s
  · have g := Int32.lt_iff_toInt_lt.mp h1; rw [e2] at g
    rw [if_pos h1, if_neg (by omega)]
    exact own_215 lo s c9 hc a b c f hi i8 hf ss hh hs hhi h20 hsh v
  · have g := Int.not_lt.mp (fun q => h1 (Int32.lt_iff_toInt_lt.mpr q)); rw [e2] at g
    rw [if_neg h1]
    by_cases h2 : (2 : Int32) < hi
    · have g2 := Int32.lt_iff_toInt_lt.mp h2; rw [e2] at g2
      rw [if_pos h2, if_pos (by omega), List.singleton_append, rd_cons lo s c _ v hb]
      by_cases hd : (F4 c) < (0 : Int32)
      · rw [if_pos hd, if_pos hd]
      · rw [if_neg hd, if_neg hd]
        exact own_215 lo s c9 hc a b c f hi i8 hf ss hh hs hhi h20 hsh _
    · have g2 := Int.not_lt.mp (fun q => h2 (Int32.lt_iff_toInt_lt.mpr q)); rw [e2] at g2
      rw [if_neg h2, if_neg (by omega)]
      exact own_215 lo s c9 hc a b c f hi i8 hf ss hh hs hhi h20 hsh v
theorem own_139 (lo s c9 : Int32) (hc : lo < s ↔ ¬ c9 = (0 : Int32)) (a b c f hi i8 : Int32) (hf : nar .byte f = f) (hb : nar .byte c = c) (hb1 : nar .byte b = b) (ss hh : Nat) (hs : s.toInt = (ss : Int)) (hhi : hi.toInt = (hh : Int)) (h20 : hh ≤ 20) (hsh : ss ≤ hh) (v : Int64) : RD lo s ((if ss ≤ 1 ∧ 1 < hh then [b] else []) ++ ((if ss ≤ 2 ∧ 2 < hh then [c] else []) ++ List.replicate (hh - max ss 3) f)) v = X3_139 a b c f lo hi i8 c9 s v := by
  have e1 : (1 : Int32).toInt = 1 := rfl
  unfold X3_139
  by_cases h1 : (1 : Int32) < s
  · have g := Int32.lt_iff_toInt_lt.mp h1; rw [e1] at g
    rw [if_pos h1, if_neg (by omega)]
    exact own_177 lo s c9 hc a b c f hi i8 hf hb ss hh hs hhi h20 hsh v
  · have g := Int.not_lt.mp (fun q => h1 (Int32.lt_iff_toInt_lt.mpr q)); rw [e1] at g
    rw [if_neg h1]
    by_cases h2 : (1 : Int32) < hi
    · have g2 := Int32.lt_iff_toInt_lt.mp h2; rw [e1] at g2
      rw [if_pos h2, if_pos (show ss ≤ 1 ∧ 1 < hh by omega), List.singleton_append, rd_cons lo s b _ v hb1]
      by_cases hd : (F4 b) < (0 : Int32)
      · rw [if_pos hd, if_pos hd]
      · rw [if_neg hd, if_neg hd]
        exact own_177 lo s c9 hc a b c f hi i8 hf hb ss hh hs hhi h20 hsh _
    · have g2 := Int.not_lt.mp (fun q => h2 (Int32.lt_iff_toInt_lt.mpr q)); rw [e1] at g2
      rw [if_neg h2, if_neg (show ¬ (ss ≤ 1 ∧ 1 < hh) by omega)]
      exact own_177 lo s c9 hc a b c f hi i8 hf hb ss hh hs hhi h20 hsh v
def IDX : List Nat := [0, 1, 2, 3, 3, 3, 3, 3, 3, 3, 3, 3, 3, 3, 3, 3, 3, 3, 3, 3]
theorem own_sl : ∀ s h : Fin 21, (IDX.take h.1).drop s.1 = (if s.1 ≤ 0 ∧ 0 < h.1 then [0] else []) ++ ((if s.1 ≤ 1 ∧ 1 < h.1 then [1] else []) ++ ((if s.1 ≤ 2 ∧ 2 < h.1 then [2] else []) ++ List.replicate (h.1 - max s.1 3) 3)) := by decide +kernel
def GG (a b c f : Int32) (i : Nat) : Int32 := if i = 0 then a else if i = 1 then b else if i = 2 then c else f
theorem own_xs (a b c f : Int32) : ([a, b, c, f, f, f, f, f, f, f, f, f, f, f, f, f, f, f, f, f] : List Int32) = IDX.map (GG a b c f) := rfl
theorem own_slc (a b c f : Int32) (ss hh : Nat) (h20 : hh ≤ 20) (hsh : ss ≤ hh) : (([a, b, c, f, f, f, f, f, f, f, f, f, f, f, f, f, f, f, f, f] : List Int32).take hh).drop ss = (if ss ≤ 0 ∧ 0 < hh then [a] else []) ++ ((if ss ≤ 1 ∧ 1 < hh then [b] else []) ++ ((if ss ≤ 2 ∧ 2 < hh then [c] else []) ++ List.replicate (hh - max ss 3) f)) := by
  have q := own_sl ⟨ss, by omega⟩ ⟨hh, by omega⟩
  dsimp only at q
  rw [own_xs, ← List.map_take, ← List.map_drop, q]
  simp only [List.map_append, List.map_replicate]
  congr 1
  · split <;> rfl
  · congr 1
    · split <;> rfl
    · congr 1
      split <;> rfl
theorem own_84 (lo s c9 : Int32) (hc : lo < s ↔ ¬ c9 = (0 : Int32)) (a b c f hi i8 : Int32) (hf : nar .byte f = f) (hb : nar .byte c = c) (hb1 : nar .byte b = b) (hb0 : nar .byte a = a) (ss hh : Nat) (hs : s.toInt = (ss : Int)) (hhi : hi.toInt = (hh : Int)) (h20 : hh ≤ 20) (hsh : ss ≤ hh) : X3_84 a b c f lo hi i8 c9 s = if (18 : Int32) < (hi - s) then (-9223372036854775808 : Int64) else RD lo s ((([a, b, c, f, f, f, f, f, f, f, f, f, f, f, f, f, f, f, f, f] : List Int32).take hh).drop (s).toNatClampNeg) (0 : Int64) := by
  have hcl : s.toNatClampNeg = ss := by rw [Int32.toNatClampNeg]; omega
  rw [hcl, own_slc a b c f ss hh h20 hsh]
  unfold X3_84
  by_cases h18 : (18 : Int32) < (hi - s)
  · rw [if_pos h18, if_pos h18]
  · rw [if_neg h18, if_neg h18]
    by_cases h1 : (0 : Int32) < s
    · have g := Int32.lt_iff_toInt_lt.mp h1; rw [tb0] at g
      rw [if_pos h1, if_neg (show ¬ (ss ≤ 0 ∧ 0 < hh) by omega)]
      exact (own_139 lo s c9 hc a b c f hi i8 hf hb hb1 ss hh hs hhi h20 hsh _).symm
    · have g := Int.not_lt.mp (fun q => h1 (Int32.lt_iff_toInt_lt.mpr q)); rw [tb0] at g
      rw [if_neg h1]
      by_cases h2 : (0 : Int32) < hi
      · have g2 := Int32.lt_iff_toInt_lt.mp h2; rw [tb0] at g2
        rw [if_pos h2, if_pos (show ss ≤ 0 ∧ 0 < hh by omega), List.singleton_append, rd_cons lo s a _ _ hb0]
        by_cases hd : (F4 a) < (0 : Int32)
        · rw [if_pos hd, if_pos hd]
        · rw [if_neg hd, if_neg hd]
          exact (own_139 lo s c9 hc a b c f hi i8 hf hb hb1 ss hh hs hhi h20 hsh _).symm
      · have g2 := Int.not_lt.mp (fun q => h2 (Int32.lt_iff_toInt_lt.mpr q)); rw [tb0] at g2
        rw [if_neg h2, if_neg (show ¬ (ss ≤ 0 ∧ 0 < hh) by omega)]
        exact (own_139 lo s c9 hc a b c f hi i8 hf hb hb1 ss hh hs hhi h20 hsh _).symm
theorem own_gd (a b c f : Int32) : ∀ i : Nat, i < 20 → ([a, b, c, f, f, f, f, f, f, f, f, f, f, f, f, f, f, f, f, f] : List Int32).getD i (0 : Int32) = GG a b c f i := by
  intro i hi
  rw [own_xs, List.getD_eq_getElem?_getD, List.getElem?_map]
  have q : ∀ j : Fin 20, IDX[j.1]? = some (min j.1 3) := by decide
  have := q ⟨i, hi⟩
  dsimp only at this
  rw [this]
  show GG a b c f (min i 3) = GG a b c f i
  unfold GG
  by_cases h : i < 3
  · rw [Nat.min_eq_left (by omega)]
  · rw [Nat.min_eq_right (by omega), if_neg (by omega), if_neg (by omega), if_neg (by omega), if_neg (by omega), if_neg (by omega), if_neg (by omega)]
theorem own_45 (a b c f lo hi t0 : Int32) (hf : nar .byte f = f) (hb : nar .byte c = c) (hb1 : nar .byte b = b) (hb0 : nar .byte a = a) (ll hh : Nat) (hlo : lo.toInt = (ll : Int)) (hhi : hi.toInt = (hh : Int)) (h20 : hh ≤ 20) (hlh : ll ≤ hh) (hne : ¬ hi = lo) (ht : (1 : Int32) < (hi - lo) → ([a, b, c, f, f, f, f, f, f, f, f, f, f, f, f, f, f, f, f, f] : List Int32).getD lo.toNatClampNeg (0 : Int32) = t0) : SW [a, b, c, f, f, f, f, f, f, f, f, f, f, f, f, f, f, f, f, f] hh lo hi = X3_45 a b c f lo hi t0 := by
  have irr : ¬ lo < lo := by rw [Int32.lt_iff_toInt_lt]; omega
  have z : X3_68 a b c f lo hi t0 (0 : Int32) = if (18 : Int32) < (hi - lo) then (-9223372036854775808 : Int64) else RD lo lo ((([a, b, c, f, f, f, f, f, f, f, f, f, f, f, f, f, f, f, f, f] : List Int32).take hh).drop (lo).toNatClampNeg) (0 : Int64) := by
    unfold X3_68
    rw [if_pos rfl]
    exact own_84 lo lo 0 ⟨fun q => absurd q irr, fun q => absurd rfl q⟩ a b c f hi t0 hf hb hb1 hb0 ll hh hlo hhi h20 hlh
  unfold SW X3_45
  by_cases h1 : (1 : Int32) < (hi - lo)
  · have e1 : (1 : Int32).toInt = 1 := rfl
    have g := Int32.lt_iff_toInt_lt.mp h1
    have q := c_isub hi lo
    have r := rng32 (hi - lo)
    rw [e1] at g
    have q2 := c_iadd lo (1 : Int32)
    have r2 := rng32 (lo + (1 : Int32))
    rw [e1] at q2
    rw [if_pos h1, if_pos h1, ht h1]
    by_cases h2 : t0 = (45 : Int32)
    · rw [if_pos h2, if_pos h2, if_neg hne]
      unfold X3_68
      rw [if_neg (show ¬ (1 : Int32) = 0 by decide)]
      have hlt : lo < (lo + (1 : Int32)) := by rw [Int32.lt_iff_toInt_lt]; omega
      exact (own_84 lo (lo + (1 : Int32)) 1 ⟨fun _ => by decide, fun _ => hlt⟩ a b c f hi t0 hf hb hb1 hb0 (ll + 1) hh (by omega) hhi h20 (by omega)).symm
    · rw [if_neg h2, if_neg h2, if_neg hne, z]
  · rw [if_neg h1, if_neg h1, if_neg hne, z]
theorem own_law {a b c f lo hi : Int32} {ll hh : Nat} (hb0 : nar .byte a = a) (hb1 : nar .byte b = b) (hb : nar .byte c = c) (hf : nar .byte f = f) (hlo : lo.toInt = (ll : Int)) (hlh : ll ≤ hh) (hhi : hi.toInt = (hh : Int)) (h20 : hh ≤ 20) : SW [a, b, c, f, f, f, f, f, f, f, f, f, f, f, f, f, f, f, f, f] hh lo hi = FE a b c f lo hi := by
  have e1 : (1 : Int32).toInt = 1 := rfl
  have e2 : (2 : Int32).toInt = 2 := rfl
  have hcl : lo.toNatClampNeg = ll := by rw [Int32.toNatClampNeg]; omega
  have hin : (1 : Int32) < (hi - lo) → ll < 20 := fun h => by
    have g := Int32.lt_iff_toInt_lt.mp h
    have q := c_isub hi lo
    have r := rng32 (hi - lo)
    rw [e1] at g; omega
  unfold FE
  by_cases hne : hi = lo
  · have irr : ¬ (1 : Int32) < (hi - lo) := by rw [hne, Int32.lt_iff_toInt_lt, Int32.sub_self]; decide
    rw [if_pos hne]
    unfold SW
    rw [if_neg irr, if_pos hne]
  · rw [if_neg hne]
    by_cases l0 : lo = (0 : Int32)
    · rw [if_pos l0]
      refine own_45 a b c f lo hi a hf hb hb1 hb0 ll hh hlo hhi h20 hlh hne (fun h => ?_)
      rw [own_gd a b c f _ (by rw [hcl]; exact hin h), hcl]
      rw [l0, tb0] at hlo
      obtain rfl : ll = 0 := by omega
      rfl
    · rw [if_neg l0]
      by_cases l1 : lo = (1 : Int32)
      · rw [if_pos l1]
        refine own_45 a b c f lo hi b hf hb hb1 hb0 ll hh hlo hhi h20 hlh hne (fun h => ?_)
        rw [own_gd a b c f _ (by rw [hcl]; exact hin h), hcl]
        rw [l1, e1] at hlo
        obtain rfl : ll = 1 := by omega
        rfl
      · rw [if_neg l1]
        by_cases l2 : lo = (2 : Int32)
        · rw [if_pos l2]
          refine own_45 a b c f lo hi c hf hb hb1 hb0 ll hh hlo hhi h20 hlh hne (fun h => ?_)
          rw [own_gd a b c f _ (by rw [hcl]; exact hin h), hcl]
          rw [l2, e2] at hlo
          obtain rfl : ll = 2 := by omega
          rfl
        · rw [if_neg l2]
          refine own_45 a b c f lo hi f hf hb hb1 hb0 ll hh hlo hhi h20 hlh hne (fun h => ?_)
          rw [own_gd a b c f _ (by rw [hcl]; exact hin h), hcl]
          have k0 : ¬ ll = 0 := fun q => l0 (Int32.toInt_inj.mp (by rw [hlo, q]; rfl))
          have k1 : ¬ ll = 1 := fun q => l1 (Int32.toInt_inj.mp (by rw [hlo, q]; rfl))
          have k2 : ¬ ll = 2 := fun q => l2 (Int32.toInt_inj.mp (by rw [hlo, q]; rfl))
          unfold GG
          rw [if_neg k0, if_neg k1, if_neg k2]
theorem own_lo (p x : Int32) (h : ((p &&& (2147483647 : Int32)) % (21 : Int32)) = x) : ∃ ll : Nat, x.toInt = (ll : Int) ∧ ll ≤ 20 := by
  have m := c_mask p (2147483647 : Int32) 31 (by decide) (by decide)
  have r := (c_irem (p &&& (2147483647 : Int32)) (21 : Int32) 21 (by decide)).1 (by omega)
  rw [h] at r
  exact ⟨x.toInt.toNat, by omega, by omega⟩
theorem own_m21 {x : Int32} {ll : Nat} (h : x.toInt = (ll : Int)) (hl : ll ≤ 20) : ((21 : Int32) - x).toInt = 21 - (ll : Int) := by
  have a := c_isub (21 : Int32) x
  have r := rng32 ((21 : Int32) - x)
  have e : (21 : Int32).toInt = 21 := rfl
  omega
theorem own_m0 {x : Int32} {ll : Nat} (h : x.toInt = (ll : Int)) (hl : ll ≤ 20) : ¬ ((21 : Int32) - x) = (0 : Int32) := by
  intro q
  have a := own_m21 h hl
  rw [q, tb0] at a; omega
theorem own_hi (p x y : Int32) {ll : Nat} (hx : x.toInt = (ll : Int)) (hl : ll ≤ 20) (h : (x + ((p &&& (2147483647 : Int32)) % ((21 : Int32) - x))) = y) : ∃ hh : Nat, y.toInt = (hh : Int) ∧ ll ≤ hh ∧ hh ≤ 20 := by
  have m := c_mask p (2147483647 : Int32) 31 (by decide) (by decide)
  have e := own_m21 hx hl
  have r := (c_irem (p &&& (2147483647 : Int32)) ((21 : Int32) - x) (21 - (ll : Int)) e).1 (by omega)
  have l1 := Int.emod_nonneg (p &&& (2147483647 : Int32)).toInt (b := 21 - (ll : Int)) (by omega)
  have l2 := Int.emod_lt_of_pos (p &&& (2147483647 : Int32)).toInt (b := 21 - (ll : Int)) (by omega)
  have a := c_iadd x ((p &&& (2147483647 : Int32)) % ((21 : Int32) - x))
  have ry := rng32 y
  rw [h] at a
  exact ⟨y.toInt.toNat, by omega, by omega, by omega⟩
theorem own_pick (p c x : Int32) (h : (F1 p c) = x) : nar .byte x = x := by
  have k : ∀ z : Int32, nar .byte (nar .byte z) = nar .byte z := fun z => by
    show (z.toInt8.toInt32).toInt8.toInt32 = z.toInt8.toInt32
    rw [Int8.toInt8_toInt32]
  subst h
  unfold F1
  split <;> exact k _
set_option maxRecDepth 65536 in
set_option maxHeartbeats 40000000 in
theorem blk78 {p : Program} {l : Launch} {e : Env} {s : State} {m : MethodId} {args : Array Value} {below : List Frame} {meth : Method} {c : Code} {T : State} {locs : List Loc} {Z : State} {a0 : Array Value} {h0 : Heap} {n0 : Nat} (p1 p2 p3 p4 x4 x5 x6 x7 : Int32)
    (X0 : Stand p l e room_1 s m args below meth c T locs 0 0) (hx : p.tables.exec = Jvm.exec) (hZ : Z.Warmed39 s.vm) (hw : ∀ d ∈ tables_1, d.before a0 Z = true) (hby : c.code = code) (hml : c.maxLocals = 13) (hown : s.vm.findClass "weirstream/engine/WrittenNumberShortWholePinLaw" = some m.cls) (hlk : meth.locks = false) (hret : meth.sig.returnType = ret) (hnm : meth.name = "law") (N0 : Fr n0 locs) (Z0 : n0 ≤ h0.size) (e0 : T.heap = h0) (hb4 : nar .byte x4 = x4) (hb5 : nar .byte x5 = x5) (hb6 : nar .byte x6 = x6) (hb7 : nar .byte x7 = x7) :
    Done p e below s (fun v h L => v = some (.int 1) ∧ Fr n0 L) room_1.cells room_1.slots (T.setTop (mkF m 78 #[.val (.int p1), .val (.int p2), .val (.int p3), .val (.int p4), .val (.int x4), .val (.int x5), .val (.int x6), .val (.int x7), .unset, .unset, .unset, .unset, .unset] [])) := by
  show Done p e below s _ _ _ (T.setTop (mkF m 78 #[.val (.int p1), .val (.int p2), .val (.int p3), .val (.int p4), .val (.int x4), .val (.int x5), .val (.int x6), .val (.int x7), .unset, .unset, .unset, .unset, .unset] []))
  refine Done.step (fun t k => XS.bipush X0.here hx rfl (hb hby at_78) k) ?_
  show Done p e below s _ _ _ (T.setTop (mkF m 80 #[.val (.int p1), .val (.int p2), .val (.int p3), .val (.int p4), .val (.int x4), .val (.int x5), .val (.int x6), .val (.int x7), .unset, .unset, .unset, .unset, .unset] [(.int (20 : Int32))]))
  obtain ⟨T101, h101, k101, X101, e101, E101, A101, B101, st101⟩ := newPE X0 hx hZ (hw _ (List.mem_of_getElem? (i := 4) rfl)) e0 (g := (mkF m 80 #[.val (.int p1), .val (.int p2), .val (.int p3), .val (.int p4), .val (.int x4), .val (.int x5), .val (.int x6), .val (.int x7), .unset, .unset, .unset, .unset, .unset] [(.int (20 : Int32))])) rfl (hb hby at_80) rfl (by decide) (cap := 20) (by decide) (by decide) (by decide) (by decide) (ad := "[B") (by decide)
  obtain ⟨b101, gq101⟩ : ∃ z, z = h0.size := ⟨_, rfl⟩
  rw [← gq101] at A101 B101 st101
  have g_b101 : n0 ≤ b101 := Nat.le_trans Z0 (Nat.le_of_eq gq101.symm)
  have Z101 : n0 ≤ h101.size := Nat.le_trans Z0 E101.1
  have f102 : Ax Z h101 b101 .byte [(.int (0 : Int32)), (.int (0 : Int32)), (.int (0 : Int32)), (.int (0 : Int32)), (.int (0 : Int32)), (.int (0 : Int32)), (.int (0 : Int32)), (.int (0 : Int32)), (.int (0 : Int32)), (.int (0 : Int32)), (.int (0 : Int32)), (.int (0 : Int32)), (.int (0 : Int32)), (.int (0 : Int32)), (.int (0 : Int32)), (.int (0 : Int32)), (.int (0 : Int32)), (.int (0 : Int32)), (.int (0 : Int32)), (.int (0 : Int32))] := Ax.new (ty := .byte) (i := 20) A101 (by decide)
  refine Done.step st101 ?_
  show Done p e below s _ _ _ (T101.setTop (mkF m 82 #[.val (.int p1), .val (.int p2), .val (.int p3), .val (.int p4), .val (.int x4), .val (.int x5), .val (.int x6), .val (.int x7), .unset, .unset, .unset, .unset, .unset] [(.ref b101)]))
  refine Done.step (fun t k => XS.dup X101.here hx rfl (hb hby at_82) rfl rfl k) ?_
  show Done p e below s _ _ _ (T101.setTop (mkF m 83 #[.val (.int p1), .val (.int p2), .val (.int p3), .val (.int p4), .val (.int x4), .val (.int x5), .val (.int x6), .val (.int x7), .unset, .unset, .unset, .unset, .unset] [(.ref b101), (.ref b101)]))
  refine Done.step (fun t k => XS.iconst X101.here hx rfl (hb hby at_83) k) ?_
  show Done p e below s _ _ _ (T101.setTop (mkF m 84 #[.val (.int p1), .val (.int p2), .val (.int p3), .val (.int p4), .val (.int x4), .val (.int x5), .val (.int x6), .val (.int x7), .unset, .unset, .unset, .unset, .unset] [(.int (0 : Int32)), (.ref b101), (.ref b101)]))
  refine Done.step (fun t k => XS.iload X101.here hx rfl (hb hby at_84) rfl k) ?_
  show Done p e below s _ _ _ (T101.setTop (mkF m 86 #[.val (.int p1), .val (.int p2), .val (.int p3), .val (.int p4), .val (.int x4), .val (.int x5), .val (.int x6), .val (.int x7), .unset, .unset, .unset, .unset, .unset] [(.int x4), (.int (0 : Int32)), (.ref b101), (.ref b101)]))
  obtain ⟨T103, h103, X103, e103, W103, A103, st103⟩ := stoB X101 hx hZ e101 f102 (j := (0 : Int32)) (by decide) (i := 0) (by decide) (Nat.le_of_ble_eq_true rfl) (g := (mkF m 86 #[.val (.int p1), .val (.int p2), .val (.int p3), .val (.int p4), .val (.int x4), .val (.int x5), .val (.int x6), .val (.int x7), .unset, .unset, .unset, .unset, .unset] [(.int x4), (.int (0 : Int32)), (.ref b101), (.ref b101)])) rfl rfl (hb hby at_86)
  have f104 : Exa Z h103 b101 "[B" := B101.wr W103
  have f105 : Ax Z h103 b101 .byte [(.int (nar .byte x4)), (.int (0 : Int32)), (.int (0 : Int32)), (.int (0 : Int32)), (.int (0 : Int32)), (.int (0 : Int32)), (.int (0 : Int32)), (.int (0 : Int32)), (.int (0 : Int32)), (.int (0 : Int32)), (.int (0 : Int32)), (.int (0 : Int32)), (.int (0 : Int32)), (.int (0 : Int32)), (.int (0 : Int32)), (.int (0 : Int32)), (.int (0 : Int32)), (.int (0 : Int32)), (.int (0 : Int32)), (.int (0 : Int32))] := A103
  have Z103 : n0 ≤ h103.size := Nat.le_trans Z101 (Keep.of_wr W103).1
  have N103 := Fr.snoc X103 N0 g_b101
  refine Done.step st103 ?_
  show Done p e below s _ _ _ (T103.setTop (mkF m 87 #[.val (.int p1), .val (.int p2), .val (.int p3), .val (.int p4), .val (.int x4), .val (.int x5), .val (.int x6), .val (.int x7), .unset, .unset, .unset, .unset, .unset] [(.ref b101)]))
  refine Done.step (fun t k => XS.dup X103.here hx rfl (hb hby at_87) rfl rfl k) ?_
  show Done p e below s _ _ _ (T103.setTop (mkF m 88 #[.val (.int p1), .val (.int p2), .val (.int p3), .val (.int p4), .val (.int x4), .val (.int x5), .val (.int x6), .val (.int x7), .unset, .unset, .unset, .unset, .unset] [(.ref b101), (.ref b101)]))
  refine Done.step (fun t k => XS.iconst X103.here hx rfl (hb hby at_88) k) ?_
  show Done p e below s _ _ _ (T103.setTop (mkF m 89 #[.val (.int p1), .val (.int p2), .val (.int p3), .val (.int p4), .val (.int x4), .val (.int x5), .val (.int x6), .val (.int x7), .unset, .unset, .unset, .unset, .unset] [(.int (1 : Int32)), (.ref b101), (.ref b101)]))
  refine Done.step (fun t k => XS.iload X103.here hx rfl (hb hby at_89) rfl k) ?_
  show Done p e below s _ _ _ (T103.setTop (mkF m 91 #[.val (.int p1), .val (.int p2), .val (.int p3), .val (.int p4), .val (.int x4), .val (.int x5), .val (.int x6), .val (.int x7), .unset, .unset, .unset, .unset, .unset] [(.int x5), (.int (1 : Int32)), (.ref b101), (.ref b101)]))
  obtain ⟨T106, h106, X106, e106, W106, A106, st106⟩ := stoB X103 hx hZ e103 f105 (j := (1 : Int32)) (by decide) (i := 1) (by decide) (Nat.le_of_ble_eq_true rfl) (g := (mkF m 91 #[.val (.int p1), .val (.int p2), .val (.int p3), .val (.int p4), .val (.int x4), .val (.int x5), .val (.int x6), .val (.int x7), .unset, .unset, .unset, .unset, .unset] [(.int x5), (.int (1 : Int32)), (.ref b101), (.ref b101)])) rfl rfl (hb hby at_91)
  have f107 : Exa Z h106 b101 "[B" := f104.wr W106
  have f108 : Ax Z h106 b101 .byte [(.int (nar .byte x4)), (.int (nar .byte x5)), (.int (0 : Int32)), (.int (0 : Int32)), (.int (0 : Int32)), (.int (0 : Int32)), (.int (0 : Int32)), (.int (0 : Int32)), (.int (0 : Int32)), (.int (0 : Int32)), (.int (0 : Int32)), (.int (0 : Int32)), (.int (0 : Int32)), (.int (0 : Int32)), (.int (0 : Int32)), (.int (0 : Int32)), (.int (0 : Int32)), (.int (0 : Int32)), (.int (0 : Int32)), (.int (0 : Int32))] := A106
  have Z106 : n0 ≤ h106.size := Nat.le_trans Z103 (Keep.of_wr W106).1
  have N106 := Fr.snoc X106 N103 g_b101
  refine Done.step st106 ?_
  show Done p e below s _ _ _ (T106.setTop (mkF m 92 #[.val (.int p1), .val (.int p2), .val (.int p3), .val (.int p4), .val (.int x4), .val (.int x5), .val (.int x6), .val (.int x7), .unset, .unset, .unset, .unset, .unset] [(.ref b101)]))
  refine Done.step (fun t k => XS.dup X106.here hx rfl (hb hby at_92) rfl rfl k) ?_
  show Done p e below s _ _ _ (T106.setTop (mkF m 93 #[.val (.int p1), .val (.int p2), .val (.int p3), .val (.int p4), .val (.int x4), .val (.int x5), .val (.int x6), .val (.int x7), .unset, .unset, .unset, .unset, .unset] [(.ref b101), (.ref b101)]))
  refine Done.step (fun t k => XS.iconst X106.here hx rfl (hb hby at_93) k) ?_
  show Done p e below s _ _ _ (T106.setTop (mkF m 94 #[.val (.int p1), .val (.int p2), .val (.int p3), .val (.int p4), .val (.int x4), .val (.int x5), .val (.int x6), .val (.int x7), .unset, .unset, .unset, .unset, .unset] [(.int (2 : Int32)), (.ref b101), (.ref b101)]))
  refine Done.step (fun t k => XS.iload X106.here hx rfl (hb hby at_94) rfl k) ?_
  show Done p e below s _ _ _ (T106.setTop (mkF m 96 #[.val (.int p1), .val (.int p2), .val (.int p3), .val (.int p4), .val (.int x4), .val (.int x5), .val (.int x6), .val (.int x7), .unset, .unset, .unset, .unset, .unset] [(.int x6), (.int (2 : Int32)), (.ref b101), (.ref b101)]))
  obtain ⟨T109, h109, X109, e109, W109, A109, st109⟩ := stoB X106 hx hZ e106 f108 (j := (2 : Int32)) (by decide) (i := 2) (by decide) (Nat.le_of_ble_eq_true rfl) (g := (mkF m 96 #[.val (.int p1), .val (.int p2), .val (.int p3), .val (.int p4), .val (.int x4), .val (.int x5), .val (.int x6), .val (.int x7), .unset, .unset, .unset, .unset, .unset] [(.int x6), (.int (2 : Int32)), (.ref b101), (.ref b101)])) rfl rfl (hb hby at_96)
  have f110 : Exa Z h109 b101 "[B" := f107.wr W109
  have f111 : Ax Z h109 b101 .byte [(.int (nar .byte x4)), (.int (nar .byte x5)), (.int (nar .byte x6)), (.int (0 : Int32)), (.int (0 : Int32)), (.int (0 : Int32)), (.int (0 : Int32)), (.int (0 : Int32)), (.int (0 : Int32)), (.int (0 : Int32)), (.int (0 : Int32)), (.int (0 : Int32)), (.int (0 : Int32)), (.int (0 : Int32)), (.int (0 : Int32)), (.int (0 : Int32)), (.int (0 : Int32)), (.int (0 : Int32)), (.int (0 : Int32)), (.int (0 : Int32))] := A109
  have Z109 : n0 ≤ h109.size := Nat.le_trans Z106 (Keep.of_wr W109).1
  have N109 := Fr.snoc X109 N106 g_b101
  refine Done.step st109 ?_
  show Done p e below s _ _ _ (T109.setTop (mkF m 97 #[.val (.int p1), .val (.int p2), .val (.int p3), .val (.int p4), .val (.int x4), .val (.int x5), .val (.int x6), .val (.int x7), .unset, .unset, .unset, .unset, .unset] [(.ref b101)]))
  refine Done.step (fun t k => XS.dup X109.here hx rfl (hb hby at_97) rfl rfl k) ?_
  show Done p e below s _ _ _ (T109.setTop (mkF m 98 #[.val (.int p1), .val (.int p2), .val (.int p3), .val (.int p4), .val (.int x4), .val (.int x5), .val (.int x6), .val (.int x7), .unset, .unset, .unset, .unset, .unset] [(.ref b101), (.ref b101)]))
  refine Done.step (fun t k => XS.iconst X109.here hx rfl (hb hby at_98) k) ?_
  show Done p e below s _ _ _ (T109.setTop (mkF m 99 #[.val (.int p1), .val (.int p2), .val (.int p3), .val (.int p4), .val (.int x4), .val (.int x5), .val (.int x6), .val (.int x7), .unset, .unset, .unset, .unset, .unset] [(.int (3 : Int32)), (.ref b101), (.ref b101)]))
  refine Done.step (fun t k => XS.iload X109.here hx rfl (hb hby at_99) rfl k) ?_
  show Done p e below s _ _ _ (T109.setTop (mkF m 101 #[.val (.int p1), .val (.int p2), .val (.int p3), .val (.int p4), .val (.int x4), .val (.int x5), .val (.int x6), .val (.int x7), .unset, .unset, .unset, .unset, .unset] [(.int x7), (.int (3 : Int32)), (.ref b101), (.ref b101)]))
  obtain ⟨T112, h112, X112, e112, W112, A112, st112⟩ := stoB X109 hx hZ e109 f111 (j := (3 : Int32)) (by decide) (i := 3) (by decide) (Nat.le_of_ble_eq_true rfl) (g := (mkF m 101 #[.val (.int p1), .val (.int p2), .val (.int p3), .val (.int p4), .val (.int x4), .val (.int x5), .val (.int x6), .val (.int x7), .unset, .unset, .unset, .unset, .unset] [(.int x7), (.int (3 : Int32)), (.ref b101), (.ref b101)])) rfl rfl (hb hby at_101)
  have f113 : Exa Z h112 b101 "[B" := f110.wr W112
  have f114 : Ax Z h112 b101 .byte [(.int (nar .byte x4)), (.int (nar .byte x5)), (.int (nar .byte x6)), (.int (nar .byte x7)), (.int (0 : Int32)), (.int (0 : Int32)), (.int (0 : Int32)), (.int (0 : Int32)), (.int (0 : Int32)), (.int (0 : Int32)), (.int (0 : Int32)), (.int (0 : Int32)), (.int (0 : Int32)), (.int (0 : Int32)), (.int (0 : Int32)), (.int (0 : Int32)), (.int (0 : Int32)), (.int (0 : Int32)), (.int (0 : Int32)), (.int (0 : Int32))] := A112
  have Z112 : n0 ≤ h112.size := Nat.le_trans Z109 (Keep.of_wr W112).1
  have N112 := Fr.snoc X112 N109 g_b101
  refine Done.step st112 ?_
  show Done p e below s _ _ _ (T112.setTop (mkF m 102 #[.val (.int p1), .val (.int p2), .val (.int p3), .val (.int p4), .val (.int x4), .val (.int x5), .val (.int x6), .val (.int x7), .unset, .unset, .unset, .unset, .unset] [(.ref b101)]))
  refine Done.step (fun t k => XS.dup X112.here hx rfl (hb hby at_102) rfl rfl k) ?_
  show Done p e below s _ _ _ (T112.setTop (mkF m 103 #[.val (.int p1), .val (.int p2), .val (.int p3), .val (.int p4), .val (.int x4), .val (.int x5), .val (.int x6), .val (.int x7), .unset, .unset, .unset, .unset, .unset] [(.ref b101), (.ref b101)]))
  refine Done.step (fun t k => XS.iconst X112.here hx rfl (hb hby at_103) k) ?_
  show Done p e below s _ _ _ (T112.setTop (mkF m 104 #[.val (.int p1), .val (.int p2), .val (.int p3), .val (.int p4), .val (.int x4), .val (.int x5), .val (.int x6), .val (.int x7), .unset, .unset, .unset, .unset, .unset] [(.int (4 : Int32)), (.ref b101), (.ref b101)]))
  refine Done.step (fun t k => XS.iload X112.here hx rfl (hb hby at_104) rfl k) ?_
  show Done p e below s _ _ _ (T112.setTop (mkF m 106 #[.val (.int p1), .val (.int p2), .val (.int p3), .val (.int p4), .val (.int x4), .val (.int x5), .val (.int x6), .val (.int x7), .unset, .unset, .unset, .unset, .unset] [(.int x7), (.int (4 : Int32)), (.ref b101), (.ref b101)]))
  obtain ⟨T115, h115, X115, e115, W115, A115, st115⟩ := stoB X112 hx hZ e112 f114 (j := (4 : Int32)) (by decide) (i := 4) (by decide) (Nat.le_of_ble_eq_true rfl) (g := (mkF m 106 #[.val (.int p1), .val (.int p2), .val (.int p3), .val (.int p4), .val (.int x4), .val (.int x5), .val (.int x6), .val (.int x7), .unset, .unset, .unset, .unset, .unset] [(.int x7), (.int (4 : Int32)), (.ref b101), (.ref b101)])) rfl rfl (hb hby at_106)
  have f116 : Exa Z h115 b101 "[B" := f113.wr W115
  have f117 : Ax Z h115 b101 .byte [(.int (nar .byte x4)), (.int (nar .byte x5)), (.int (nar .byte x6)), (.int (nar .byte x7)), (.int (nar .byte x7)), (.int (0 : Int32)), (.int (0 : Int32)), (.int (0 : Int32)), (.int (0 : Int32)), (.int (0 : Int32)), (.int (0 : Int32)), (.int (0 : Int32)), (.int (0 : Int32)), (.int (0 : Int32)), (.int (0 : Int32)), (.int (0 : Int32)), (.int (0 : Int32)), (.int (0 : Int32)), (.int (0 : Int32)), (.int (0 : Int32))] := A115
  have Z115 : n0 ≤ h115.size := Nat.le_trans Z112 (Keep.of_wr W115).1
  have N115 := Fr.snoc X115 N112 g_b101
  refine Done.step st115 ?_
  show Done p e below s _ _ _ (T115.setTop (mkF m 107 #[.val (.int p1), .val (.int p2), .val (.int p3), .val (.int p4), .val (.int x4), .val (.int x5), .val (.int x6), .val (.int x7), .unset, .unset, .unset, .unset, .unset] [(.ref b101)]))
  refine Done.step (fun t k => XS.dup X115.here hx rfl (hb hby at_107) rfl rfl k) ?_
  show Done p e below s _ _ _ (T115.setTop (mkF m 108 #[.val (.int p1), .val (.int p2), .val (.int p3), .val (.int p4), .val (.int x4), .val (.int x5), .val (.int x6), .val (.int x7), .unset, .unset, .unset, .unset, .unset] [(.ref b101), (.ref b101)]))
  refine Done.step (fun t k => XS.iconst X115.here hx rfl (hb hby at_108) k) ?_
  show Done p e below s _ _ _ (T115.setTop (mkF m 109 #[.val (.int p1), .val (.int p2), .val (.int p3), .val (.int p4), .val (.int x4), .val (.int x5), .val (.int x6), .val (.int x7), .unset, .unset, .unset, .unset, .unset] [(.int (5 : Int32)), (.ref b101), (.ref b101)]))
  refine Done.step (fun t k => XS.iload X115.here hx rfl (hb hby at_109) rfl k) ?_
  show Done p e below s _ _ _ (T115.setTop (mkF m 111 #[.val (.int p1), .val (.int p2), .val (.int p3), .val (.int p4), .val (.int x4), .val (.int x5), .val (.int x6), .val (.int x7), .unset, .unset, .unset, .unset, .unset] [(.int x7), (.int (5 : Int32)), (.ref b101), (.ref b101)]))
  obtain ⟨T118, h118, X118, e118, W118, A118, st118⟩ := stoB X115 hx hZ e115 f117 (j := (5 : Int32)) (by decide) (i := 5) (by decide) (Nat.le_of_ble_eq_true rfl) (g := (mkF m 111 #[.val (.int p1), .val (.int p2), .val (.int p3), .val (.int p4), .val (.int x4), .val (.int x5), .val (.int x6), .val (.int x7), .unset, .unset, .unset, .unset, .unset] [(.int x7), (.int (5 : Int32)), (.ref b101), (.ref b101)])) rfl rfl (hb hby at_111)
  have f119 : Exa Z h118 b101 "[B" := f116.wr W118
  have f120 : Ax Z h118 b101 .byte [(.int (nar .byte x4)), (.int (nar .byte x5)), (.int (nar .byte x6)), (.int (nar .byte x7)), (.int (nar .byte x7)), (.int (nar .byte x7)), (.int (0 : Int32)), (.int (0 : Int32)), (.int (0 : Int32)), (.int (0 : Int32)), (.int (0 : Int32)), (.int (0 : Int32)), (.int (0 : Int32)), (.int (0 : Int32)), (.int (0 : Int32)), (.int (0 : Int32)), (.int (0 : Int32)), (.int (0 : Int32)), (.int (0 : Int32)), (.int (0 : Int32))] := A118
  have Z118 : n0 ≤ h118.size := Nat.le_trans Z115 (Keep.of_wr W118).1
  have N118 := Fr.snoc X118 N115 g_b101
  refine Done.step st118 ?_
  show Done p e below s _ _ _ (T118.setTop (mkF m 112 #[.val (.int p1), .val (.int p2), .val (.int p3), .val (.int p4), .val (.int x4), .val (.int x5), .val (.int x6), .val (.int x7), .unset, .unset, .unset, .unset, .unset] [(.ref b101)]))
  refine Done.step (fun t k => XS.dup X118.here hx rfl (hb hby at_112) rfl rfl k) ?_
  show Done p e below s _ _ _ (T118.setTop (mkF m 113 #[.val (.int p1), .val (.int p2), .val (.int p3), .val (.int p4), .val (.int x4), .val (.int x5), .val (.int x6), .val (.int x7), .unset, .unset, .unset, .unset, .unset] [(.ref b101), (.ref b101)]))
  refine Done.step (fun t k => XS.bipush X118.here hx rfl (hb hby at_113) k) ?_
  show Done p e below s _ _ _ (T118.setTop (mkF m 115 #[.val (.int p1), .val (.int p2), .val (.int p3), .val (.int p4), .val (.int x4), .val (.int x5), .val (.int x6), .val (.int x7), .unset, .unset, .unset, .unset, .unset] [(.int (6 : Int32)), (.ref b101), (.ref b101)]))
  refine Done.step (fun t k => XS.iload X118.here hx rfl (hb hby at_115) rfl k) ?_
  show Done p e below s _ _ _ (T118.setTop (mkF m 117 #[.val (.int p1), .val (.int p2), .val (.int p3), .val (.int p4), .val (.int x4), .val (.int x5), .val (.int x6), .val (.int x7), .unset, .unset, .unset, .unset, .unset] [(.int x7), (.int (6 : Int32)), (.ref b101), (.ref b101)]))
  obtain ⟨T121, h121, X121, e121, W121, A121, st121⟩ := stoB X118 hx hZ e118 f120 (j := (6 : Int32)) (by decide) (i := 6) (by decide) (Nat.le_of_ble_eq_true rfl) (g := (mkF m 117 #[.val (.int p1), .val (.int p2), .val (.int p3), .val (.int p4), .val (.int x4), .val (.int x5), .val (.int x6), .val (.int x7), .unset, .unset, .unset, .unset, .unset] [(.int x7), (.int (6 : Int32)), (.ref b101), (.ref b101)])) rfl rfl (hb hby at_117)
  have f122 : Exa Z h121 b101 "[B" := f119.wr W121
  have f123 : Ax Z h121 b101 .byte [(.int (nar .byte x4)), (.int (nar .byte x5)), (.int (nar .byte x6)), (.int (nar .byte x7)), (.int (nar .byte x7)), (.int (nar .byte x7)), (.int (nar .byte x7)), (.int (0 : Int32)), (.int (0 : Int32)), (.int (0 : Int32)), (.int (0 : Int32)), (.int (0 : Int32)), (.int (0 : Int32)), (.int (0 : Int32)), (.int (0 : Int32)), (.int (0 : Int32)), (.int (0 : Int32)), (.int (0 : Int32)), (.int (0 : Int32)), (.int (0 : Int32))] := A121
  have Z121 : n0 ≤ h121.size := Nat.le_trans Z118 (Keep.of_wr W121).1
  have N121 := Fr.snoc X121 N118 g_b101
  refine Done.step st121 ?_
  show Done p e below s _ _ _ (T121.setTop (mkF m 118 #[.val (.int p1), .val (.int p2), .val (.int p3), .val (.int p4), .val (.int x4), .val (.int x5), .val (.int x6), .val (.int x7), .unset, .unset, .unset, .unset, .unset] [(.ref b101)]))
  refine Done.step (fun t k => XS.dup X121.here hx rfl (hb hby at_118) rfl rfl k) ?_
  show Done p e below s _ _ _ (T121.setTop (mkF m 119 #[.val (.int p1), .val (.int p2), .val (.int p3), .val (.int p4), .val (.int x4), .val (.int x5), .val (.int x6), .val (.int x7), .unset, .unset, .unset, .unset, .unset] [(.ref b101), (.ref b101)]))
  refine Done.step (fun t k => XS.bipush X121.here hx rfl (hb hby at_119) k) ?_
  show Done p e below s _ _ _ (T121.setTop (mkF m 121 #[.val (.int p1), .val (.int p2), .val (.int p3), .val (.int p4), .val (.int x4), .val (.int x5), .val (.int x6), .val (.int x7), .unset, .unset, .unset, .unset, .unset] [(.int (7 : Int32)), (.ref b101), (.ref b101)]))
  refine Done.step (fun t k => XS.iload X121.here hx rfl (hb hby at_121) rfl k) ?_
  show Done p e below s _ _ _ (T121.setTop (mkF m 123 #[.val (.int p1), .val (.int p2), .val (.int p3), .val (.int p4), .val (.int x4), .val (.int x5), .val (.int x6), .val (.int x7), .unset, .unset, .unset, .unset, .unset] [(.int x7), (.int (7 : Int32)), (.ref b101), (.ref b101)]))
  obtain ⟨T124, h124, X124, e124, W124, A124, st124⟩ := stoB X121 hx hZ e121 f123 (j := (7 : Int32)) (by decide) (i := 7) (by decide) (Nat.le_of_ble_eq_true rfl) (g := (mkF m 123 #[.val (.int p1), .val (.int p2), .val (.int p3), .val (.int p4), .val (.int x4), .val (.int x5), .val (.int x6), .val (.int x7), .unset, .unset, .unset, .unset, .unset] [(.int x7), (.int (7 : Int32)), (.ref b101), (.ref b101)])) rfl rfl (hb hby at_123)
  have f125 : Exa Z h124 b101 "[B" := f122.wr W124
  have f126 : Ax Z h124 b101 .byte [(.int (nar .byte x4)), (.int (nar .byte x5)), (.int (nar .byte x6)), (.int (nar .byte x7)), (.int (nar .byte x7)), (.int (nar .byte x7)), (.int (nar .byte x7)), (.int (nar .byte x7)), (.int (0 : Int32)), (.int (0 : Int32)), (.int (0 : Int32)), (.int (0 : Int32)), (.int (0 : Int32)), (.int (0 : Int32)), (.int (0 : Int32)), (.int (0 : Int32)), (.int (0 : Int32)), (.int (0 : Int32)), (.int (0 : Int32)), (.int (0 : Int32))] := A124
  have Z124 : n0 ≤ h124.size := Nat.le_trans Z121 (Keep.of_wr W124).1
  have N124 := Fr.snoc X124 N121 g_b101
  refine Done.step st124 ?_
  show Done p e below s _ _ _ (T124.setTop (mkF m 124 #[.val (.int p1), .val (.int p2), .val (.int p3), .val (.int p4), .val (.int x4), .val (.int x5), .val (.int x6), .val (.int x7), .unset, .unset, .unset, .unset, .unset] [(.ref b101)]))
  refine Done.step (fun t k => XS.dup X124.here hx rfl (hb hby at_124) rfl rfl k) ?_
  show Done p e below s _ _ _ (T124.setTop (mkF m 125 #[.val (.int p1), .val (.int p2), .val (.int p3), .val (.int p4), .val (.int x4), .val (.int x5), .val (.int x6), .val (.int x7), .unset, .unset, .unset, .unset, .unset] [(.ref b101), (.ref b101)]))
  refine Done.step (fun t k => XS.bipush X124.here hx rfl (hb hby at_125) k) ?_
  show Done p e below s _ _ _ (T124.setTop (mkF m 127 #[.val (.int p1), .val (.int p2), .val (.int p3), .val (.int p4), .val (.int x4), .val (.int x5), .val (.int x6), .val (.int x7), .unset, .unset, .unset, .unset, .unset] [(.int (8 : Int32)), (.ref b101), (.ref b101)]))
  refine Done.step (fun t k => XS.iload X124.here hx rfl (hb hby at_127) rfl k) ?_
  show Done p e below s _ _ _ (T124.setTop (mkF m 129 #[.val (.int p1), .val (.int p2), .val (.int p3), .val (.int p4), .val (.int x4), .val (.int x5), .val (.int x6), .val (.int x7), .unset, .unset, .unset, .unset, .unset] [(.int x7), (.int (8 : Int32)), (.ref b101), (.ref b101)]))
  obtain ⟨T127, h127, X127, e127, W127, A127, st127⟩ := stoB X124 hx hZ e124 f126 (j := (8 : Int32)) (by decide) (i := 8) (by decide) (Nat.le_of_ble_eq_true rfl) (g := (mkF m 129 #[.val (.int p1), .val (.int p2), .val (.int p3), .val (.int p4), .val (.int x4), .val (.int x5), .val (.int x6), .val (.int x7), .unset, .unset, .unset, .unset, .unset] [(.int x7), (.int (8 : Int32)), (.ref b101), (.ref b101)])) rfl rfl (hb hby at_129)
  have f128 : Exa Z h127 b101 "[B" := f125.wr W127
  have f129 : Ax Z h127 b101 .byte [(.int (nar .byte x4)), (.int (nar .byte x5)), (.int (nar .byte x6)), (.int (nar .byte x7)), (.int (nar .byte x7)), (.int (nar .byte x7)), (.int (nar .byte x7)), (.int (nar .byte x7)), (.int (nar .byte x7)), (.int (0 : Int32)), (.int (0 : Int32)), (.int (0 : Int32)), (.int (0 : Int32)), (.int (0 : Int32)), (.int (0 : Int32)), (.int (0 : Int32)), (.int (0 : Int32)), (.int (0 : Int32)), (.int (0 : Int32)), (.int (0 : Int32))] := A127
  have Z127 : n0 ≤ h127.size := Nat.le_trans Z124 (Keep.of_wr W127).1
  have N127 := Fr.snoc X127 N124 g_b101
  refine Done.step st127 ?_
  show Done p e below s _ _ _ (T127.setTop (mkF m 130 #[.val (.int p1), .val (.int p2), .val (.int p3), .val (.int p4), .val (.int x4), .val (.int x5), .val (.int x6), .val (.int x7), .unset, .unset, .unset, .unset, .unset] [(.ref b101)]))
  refine Done.step (fun t k => XS.dup X127.here hx rfl (hb hby at_130) rfl rfl k) ?_
  show Done p e below s _ _ _ (T127.setTop (mkF m 131 #[.val (.int p1), .val (.int p2), .val (.int p3), .val (.int p4), .val (.int x4), .val (.int x5), .val (.int x6), .val (.int x7), .unset, .unset, .unset, .unset, .unset] [(.ref b101), (.ref b101)]))
  refine Done.step (fun t k => XS.bipush X127.here hx rfl (hb hby at_131) k) ?_
  show Done p e below s _ _ _ (T127.setTop (mkF m 133 #[.val (.int p1), .val (.int p2), .val (.int p3), .val (.int p4), .val (.int x4), .val (.int x5), .val (.int x6), .val (.int x7), .unset, .unset, .unset, .unset, .unset] [(.int (9 : Int32)), (.ref b101), (.ref b101)]))
  refine Done.step (fun t k => XS.iload X127.here hx rfl (hb hby at_133) rfl k) ?_
  show Done p e below s _ _ _ (T127.setTop (mkF m 135 #[.val (.int p1), .val (.int p2), .val (.int p3), .val (.int p4), .val (.int x4), .val (.int x5), .val (.int x6), .val (.int x7), .unset, .unset, .unset, .unset, .unset] [(.int x7), (.int (9 : Int32)), (.ref b101), (.ref b101)]))
  obtain ⟨T130, h130, X130, e130, W130, A130, st130⟩ := stoB X127 hx hZ e127 f129 (j := (9 : Int32)) (by decide) (i := 9) (by decide) (Nat.le_of_ble_eq_true rfl) (g := (mkF m 135 #[.val (.int p1), .val (.int p2), .val (.int p3), .val (.int p4), .val (.int x4), .val (.int x5), .val (.int x6), .val (.int x7), .unset, .unset, .unset, .unset, .unset] [(.int x7), (.int (9 : Int32)), (.ref b101), (.ref b101)])) rfl rfl (hb hby at_135)
  have f131 : Exa Z h130 b101 "[B" := f128.wr W130
  have f132 : Ax Z h130 b101 .byte [(.int (nar .byte x4)), (.int (nar .byte x5)), (.int (nar .byte x6)), (.int (nar .byte x7)), (.int (nar .byte x7)), (.int (nar .byte x7)), (.int (nar .byte x7)), (.int (nar .byte x7)), (.int (nar .byte x7)), (.int (nar .byte x7)), (.int (0 : Int32)), (.int (0 : Int32)), (.int (0 : Int32)), (.int (0 : Int32)), (.int (0 : Int32)), (.int (0 : Int32)), (.int (0 : Int32)), (.int (0 : Int32)), (.int (0 : Int32)), (.int (0 : Int32))] := A130
  have Z130 : n0 ≤ h130.size := Nat.le_trans Z127 (Keep.of_wr W130).1
  have N130 := Fr.snoc X130 N127 g_b101
  refine Done.step st130 ?_
  show Done p e below s _ _ _ (T130.setTop (mkF m 136 #[.val (.int p1), .val (.int p2), .val (.int p3), .val (.int p4), .val (.int x4), .val (.int x5), .val (.int x6), .val (.int x7), .unset, .unset, .unset, .unset, .unset] [(.ref b101)]))
  refine Done.step (fun t k => XS.dup X130.here hx rfl (hb hby at_136) rfl rfl k) ?_
  show Done p e below s _ _ _ (T130.setTop (mkF m 137 #[.val (.int p1), .val (.int p2), .val (.int p3), .val (.int p4), .val (.int x4), .val (.int x5), .val (.int x6), .val (.int x7), .unset, .unset, .unset, .unset, .unset] [(.ref b101), (.ref b101)]))
  refine Done.step (fun t k => XS.bipush X130.here hx rfl (hb hby at_137) k) ?_
  show Done p e below s _ _ _ (T130.setTop (mkF m 139 #[.val (.int p1), .val (.int p2), .val (.int p3), .val (.int p4), .val (.int x4), .val (.int x5), .val (.int x6), .val (.int x7), .unset, .unset, .unset, .unset, .unset] [(.int (10 : Int32)), (.ref b101), (.ref b101)]))
  refine Done.step (fun t k => XS.iload X130.here hx rfl (hb hby at_139) rfl k) ?_
  show Done p e below s _ _ _ (T130.setTop (mkF m 141 #[.val (.int p1), .val (.int p2), .val (.int p3), .val (.int p4), .val (.int x4), .val (.int x5), .val (.int x6), .val (.int x7), .unset, .unset, .unset, .unset, .unset] [(.int x7), (.int (10 : Int32)), (.ref b101), (.ref b101)]))
  obtain ⟨T133, h133, X133, e133, W133, A133, st133⟩ := stoB X130 hx hZ e130 f132 (j := (10 : Int32)) (by decide) (i := 10) (by decide) (Nat.le_of_ble_eq_true rfl) (g := (mkF m 141 #[.val (.int p1), .val (.int p2), .val (.int p3), .val (.int p4), .val (.int x4), .val (.int x5), .val (.int x6), .val (.int x7), .unset, .unset, .unset, .unset, .unset] [(.int x7), (.int (10 : Int32)), (.ref b101), (.ref b101)])) rfl rfl (hb hby at_141)
  have f134 : Exa Z h133 b101 "[B" := f131.wr W133
  have f135 : Ax Z h133 b101 .byte [(.int (nar .byte x4)), (.int (nar .byte x5)), (.int (nar .byte x6)), (.int (nar .byte x7)), (.int (nar .byte x7)), (.int (nar .byte x7)), (.int (nar .byte x7)), (.int (nar .byte x7)), (.int (nar .byte x7)), (.int (nar .byte x7)), (.int (nar .byte x7)), (.int (0 : Int32)), (.int (0 : Int32)), (.int (0 : Int32)), (.int (0 : Int32)), (.int (0 : Int32)), (.int (0 : Int32)), (.int (0 : Int32)), (.int (0 : Int32)), (.int (0 : Int32))] := A133
  have Z133 : n0 ≤ h133.size := Nat.le_trans Z130 (Keep.of_wr W133).1
  have N133 := Fr.snoc X133 N130 g_b101
  refine Done.step st133 ?_
  show Done p e below s _ _ _ (T133.setTop (mkF m 142 #[.val (.int p1), .val (.int p2), .val (.int p3), .val (.int p4), .val (.int x4), .val (.int x5), .val (.int x6), .val (.int x7), .unset, .unset, .unset, .unset, .unset] [(.ref b101)]))
  refine Done.step (fun t k => XS.dup X133.here hx rfl (hb hby at_142) rfl rfl k) ?_
  show Done p e below s _ _ _ (T133.setTop (mkF m 143 #[.val (.int p1), .val (.int p2), .val (.int p3), .val (.int p4), .val (.int x4), .val (.int x5), .val (.int x6), .val (.int x7), .unset, .unset, .unset, .unset, .unset] [(.ref b101), (.ref b101)]))
  refine Done.step (fun t k => XS.bipush X133.here hx rfl (hb hby at_143) k) ?_
  show Done p e below s _ _ _ (T133.setTop (mkF m 145 #[.val (.int p1), .val (.int p2), .val (.int p3), .val (.int p4), .val (.int x4), .val (.int x5), .val (.int x6), .val (.int x7), .unset, .unset, .unset, .unset, .unset] [(.int (11 : Int32)), (.ref b101), (.ref b101)]))
  refine Done.step (fun t k => XS.iload X133.here hx rfl (hb hby at_145) rfl k) ?_
  show Done p e below s _ _ _ (T133.setTop (mkF m 147 #[.val (.int p1), .val (.int p2), .val (.int p3), .val (.int p4), .val (.int x4), .val (.int x5), .val (.int x6), .val (.int x7), .unset, .unset, .unset, .unset, .unset] [(.int x7), (.int (11 : Int32)), (.ref b101), (.ref b101)]))
  obtain ⟨T136, h136, X136, e136, W136, A136, st136⟩ := stoB X133 hx hZ e133 f135 (j := (11 : Int32)) (by decide) (i := 11) (by decide) (Nat.le_of_ble_eq_true rfl) (g := (mkF m 147 #[.val (.int p1), .val (.int p2), .val (.int p3), .val (.int p4), .val (.int x4), .val (.int x5), .val (.int x6), .val (.int x7), .unset, .unset, .unset, .unset, .unset] [(.int x7), (.int (11 : Int32)), (.ref b101), (.ref b101)])) rfl rfl (hb hby at_147)
  have f137 : Exa Z h136 b101 "[B" := f134.wr W136
  have f138 : Ax Z h136 b101 .byte [(.int (nar .byte x4)), (.int (nar .byte x5)), (.int (nar .byte x6)), (.int (nar .byte x7)), (.int (nar .byte x7)), (.int (nar .byte x7)), (.int (nar .byte x7)), (.int (nar .byte x7)), (.int (nar .byte x7)), (.int (nar .byte x7)), (.int (nar .byte x7)), (.int (nar .byte x7)), (.int (0 : Int32)), (.int (0 : Int32)), (.int (0 : Int32)), (.int (0 : Int32)), (.int (0 : Int32)), (.int (0 : Int32)), (.int (0 : Int32)), (.int (0 : Int32))] := A136
  have Z136 : n0 ≤ h136.size := Nat.le_trans Z133 (Keep.of_wr W136).1
  have N136 := Fr.snoc X136 N133 g_b101
  refine Done.step st136 ?_
  show Done p e below s _ _ _ (T136.setTop (mkF m 148 #[.val (.int p1), .val (.int p2), .val (.int p3), .val (.int p4), .val (.int x4), .val (.int x5), .val (.int x6), .val (.int x7), .unset, .unset, .unset, .unset, .unset] [(.ref b101)]))
  refine Done.step (fun t k => XS.dup X136.here hx rfl (hb hby at_148) rfl rfl k) ?_
  show Done p e below s _ _ _ (T136.setTop (mkF m 149 #[.val (.int p1), .val (.int p2), .val (.int p3), .val (.int p4), .val (.int x4), .val (.int x5), .val (.int x6), .val (.int x7), .unset, .unset, .unset, .unset, .unset] [(.ref b101), (.ref b101)]))
  refine Done.step (fun t k => XS.bipush X136.here hx rfl (hb hby at_149) k) ?_
  show Done p e below s _ _ _ (T136.setTop (mkF m 151 #[.val (.int p1), .val (.int p2), .val (.int p3), .val (.int p4), .val (.int x4), .val (.int x5), .val (.int x6), .val (.int x7), .unset, .unset, .unset, .unset, .unset] [(.int (12 : Int32)), (.ref b101), (.ref b101)]))
  refine Done.step (fun t k => XS.iload X136.here hx rfl (hb hby at_151) rfl k) ?_
  show Done p e below s _ _ _ (T136.setTop (mkF m 153 #[.val (.int p1), .val (.int p2), .val (.int p3), .val (.int p4), .val (.int x4), .val (.int x5), .val (.int x6), .val (.int x7), .unset, .unset, .unset, .unset, .unset] [(.int x7), (.int (12 : Int32)), (.ref b101), (.ref b101)]))
  obtain ⟨T139, h139, X139, e139, W139, A139, st139⟩ := stoB X136 hx hZ e136 f138 (j := (12 : Int32)) (by decide) (i := 12) (by decide) (Nat.le_of_ble_eq_true rfl) (g := (mkF m 153 #[.val (.int p1), .val (.int p2), .val (.int p3), .val (.int p4), .val (.int x4), .val (.int x5), .val (.int x6), .val (.int x7), .unset, .unset, .unset, .unset, .unset] [(.int x7), (.int (12 : Int32)), (.ref b101), (.ref b101)])) rfl rfl (hb hby at_153)
  have f140 : Exa Z h139 b101 "[B" := f137.wr W139
  have f141 : Ax Z h139 b101 .byte [(.int (nar .byte x4)), (.int (nar .byte x5)), (.int (nar .byte x6)), (.int (nar .byte x7)), (.int (nar .byte x7)), (.int (nar .byte x7)), (.int (nar .byte x7)), (.int (nar .byte x7)), (.int (nar .byte x7)), (.int (nar .byte x7)), (.int (nar .byte x7)), (.int (nar .byte x7)), (.int (nar .byte x7)), (.int (0 : Int32)), (.int (0 : Int32)), (.int (0 : Int32)), (.int (0 : Int32)), (.int (0 : Int32)), (.int (0 : Int32)), (.int (0 : Int32))] := A139
  have Z139 : n0 ≤ h139.size := Nat.le_trans Z136 (Keep.of_wr W139).1
  have N139 := Fr.snoc X139 N136 g_b101
  refine Done.step st139 ?_
  show Done p e below s _ _ _ (T139.setTop (mkF m 154 #[.val (.int p1), .val (.int p2), .val (.int p3), .val (.int p4), .val (.int x4), .val (.int x5), .val (.int x6), .val (.int x7), .unset, .unset, .unset, .unset, .unset] [(.ref b101)]))
  refine Done.step (fun t k => XS.dup X139.here hx rfl (hb hby at_154) rfl rfl k) ?_
  show Done p e below s _ _ _ (T139.setTop (mkF m 155 #[.val (.int p1), .val (.int p2), .val (.int p3), .val (.int p4), .val (.int x4), .val (.int x5), .val (.int x6), .val (.int x7), .unset, .unset, .unset, .unset, .unset] [(.ref b101), (.ref b101)]))
  refine Done.step (fun t k => XS.bipush X139.here hx rfl (hb hby at_155) k) ?_
  show Done p e below s _ _ _ (T139.setTop (mkF m 157 #[.val (.int p1), .val (.int p2), .val (.int p3), .val (.int p4), .val (.int x4), .val (.int x5), .val (.int x6), .val (.int x7), .unset, .unset, .unset, .unset, .unset] [(.int (13 : Int32)), (.ref b101), (.ref b101)]))
  refine Done.step (fun t k => XS.iload X139.here hx rfl (hb hby at_157) rfl k) ?_
  show Done p e below s _ _ _ (T139.setTop (mkF m 159 #[.val (.int p1), .val (.int p2), .val (.int p3), .val (.int p4), .val (.int x4), .val (.int x5), .val (.int x6), .val (.int x7), .unset, .unset, .unset, .unset, .unset] [(.int x7), (.int (13 : Int32)), (.ref b101), (.ref b101)]))
  obtain ⟨T142, h142, X142, e142, W142, A142, st142⟩ := stoB X139 hx hZ e139 f141 (j := (13 : Int32)) (by decide) (i := 13) (by decide) (Nat.le_of_ble_eq_true rfl) (g := (mkF m 159 #[.val (.int p1), .val (.int p2), .val (.int p3), .val (.int p4), .val (.int x4), .val (.int x5), .val (.int x6), .val (.int x7), .unset, .unset, .unset, .unset, .unset] [(.int x7), (.int (13 : Int32)), (.ref b101), (.ref b101)])) rfl rfl (hb hby at_159)
  have f143 : Exa Z h142 b101 "[B" := f140.wr W142
  have f144 : Ax Z h142 b101 .byte [(.int (nar .byte x4)), (.int (nar .byte x5)), (.int (nar .byte x6)), (.int (nar .byte x7)), (.int (nar .byte x7)), (.int (nar .byte x7)), (.int (nar .byte x7)), (.int (nar .byte x7)), (.int (nar .byte x7)), (.int (nar .byte x7)), (.int (nar .byte x7)), (.int (nar .byte x7)), (.int (nar .byte x7)), (.int (nar .byte x7)), (.int (0 : Int32)), (.int (0 : Int32)), (.int (0 : Int32)), (.int (0 : Int32)), (.int (0 : Int32)), (.int (0 : Int32))] := A142
  have Z142 : n0 ≤ h142.size := Nat.le_trans Z139 (Keep.of_wr W142).1
  have N142 := Fr.snoc X142 N139 g_b101
  refine Done.step st142 ?_
  show Done p e below s _ _ _ (T142.setTop (mkF m 160 #[.val (.int p1), .val (.int p2), .val (.int p3), .val (.int p4), .val (.int x4), .val (.int x5), .val (.int x6), .val (.int x7), .unset, .unset, .unset, .unset, .unset] [(.ref b101)]))
  refine Done.step (fun t k => XS.dup X142.here hx rfl (hb hby at_160) rfl rfl k) ?_
  show Done p e below s _ _ _ (T142.setTop (mkF m 161 #[.val (.int p1), .val (.int p2), .val (.int p3), .val (.int p4), .val (.int x4), .val (.int x5), .val (.int x6), .val (.int x7), .unset, .unset, .unset, .unset, .unset] [(.ref b101), (.ref b101)]))
  refine Done.step (fun t k => XS.bipush X142.here hx rfl (hb hby at_161) k) ?_
  show Done p e below s _ _ _ (T142.setTop (mkF m 163 #[.val (.int p1), .val (.int p2), .val (.int p3), .val (.int p4), .val (.int x4), .val (.int x5), .val (.int x6), .val (.int x7), .unset, .unset, .unset, .unset, .unset] [(.int (14 : Int32)), (.ref b101), (.ref b101)]))
  refine Done.step (fun t k => XS.iload X142.here hx rfl (hb hby at_163) rfl k) ?_
  show Done p e below s _ _ _ (T142.setTop (mkF m 165 #[.val (.int p1), .val (.int p2), .val (.int p3), .val (.int p4), .val (.int x4), .val (.int x5), .val (.int x6), .val (.int x7), .unset, .unset, .unset, .unset, .unset] [(.int x7), (.int (14 : Int32)), (.ref b101), (.ref b101)]))
  obtain ⟨T145, h145, X145, e145, W145, A145, st145⟩ := stoB X142 hx hZ e142 f144 (j := (14 : Int32)) (by decide) (i := 14) (by decide) (Nat.le_of_ble_eq_true rfl) (g := (mkF m 165 #[.val (.int p1), .val (.int p2), .val (.int p3), .val (.int p4), .val (.int x4), .val (.int x5), .val (.int x6), .val (.int x7), .unset, .unset, .unset, .unset, .unset] [(.int x7), (.int (14 : Int32)), (.ref b101), (.ref b101)])) rfl rfl (hb hby at_165)
  have f146 : Exa Z h145 b101 "[B" := f143.wr W145
  have f147 : Ax Z h145 b101 .byte [(.int (nar .byte x4)), (.int (nar .byte x5)), (.int (nar .byte x6)), (.int (nar .byte x7)), (.int (nar .byte x7)), (.int (nar .byte x7)), (.int (nar .byte x7)), (.int (nar .byte x7)), (.int (nar .byte x7)), (.int (nar .byte x7)), (.int (nar .byte x7)), (.int (nar .byte x7)), (.int (nar .byte x7)), (.int (nar .byte x7)), (.int (nar .byte x7)), (.int (0 : Int32)), (.int (0 : Int32)), (.int (0 : Int32)), (.int (0 : Int32)), (.int (0 : Int32))] := A145
  have Z145 : n0 ≤ h145.size := Nat.le_trans Z142 (Keep.of_wr W145).1
  have N145 := Fr.snoc X145 N142 g_b101
  refine Done.step st145 ?_
  show Done p e below s _ _ _ (T145.setTop (mkF m 166 #[.val (.int p1), .val (.int p2), .val (.int p3), .val (.int p4), .val (.int x4), .val (.int x5), .val (.int x6), .val (.int x7), .unset, .unset, .unset, .unset, .unset] [(.ref b101)]))
  refine Done.step (fun t k => XS.dup X145.here hx rfl (hb hby at_166) rfl rfl k) ?_
  show Done p e below s _ _ _ (T145.setTop (mkF m 167 #[.val (.int p1), .val (.int p2), .val (.int p3), .val (.int p4), .val (.int x4), .val (.int x5), .val (.int x6), .val (.int x7), .unset, .unset, .unset, .unset, .unset] [(.ref b101), (.ref b101)]))
  refine Done.step (fun t k => XS.bipush X145.here hx rfl (hb hby at_167) k) ?_
  show Done p e below s _ _ _ (T145.setTop (mkF m 169 #[.val (.int p1), .val (.int p2), .val (.int p3), .val (.int p4), .val (.int x4), .val (.int x5), .val (.int x6), .val (.int x7), .unset, .unset, .unset, .unset, .unset] [(.int (15 : Int32)), (.ref b101), (.ref b101)]))
  refine Done.step (fun t k => XS.iload X145.here hx rfl (hb hby at_169) rfl k) ?_
  show Done p e below s _ _ _ (T145.setTop (mkF m 171 #[.val (.int p1), .val (.int p2), .val (.int p3), .val (.int p4), .val (.int x4), .val (.int x5), .val (.int x6), .val (.int x7), .unset, .unset, .unset, .unset, .unset] [(.int x7), (.int (15 : Int32)), (.ref b101), (.ref b101)]))
  obtain ⟨T148, h148, X148, e148, W148, A148, st148⟩ := stoB X145 hx hZ e145 f147 (j := (15 : Int32)) (by decide) (i := 15) (by decide) (Nat.le_of_ble_eq_true rfl) (g := (mkF m 171 #[.val (.int p1), .val (.int p2), .val (.int p3), .val (.int p4), .val (.int x4), .val (.int x5), .val (.int x6), .val (.int x7), .unset, .unset, .unset, .unset, .unset] [(.int x7), (.int (15 : Int32)), (.ref b101), (.ref b101)])) rfl rfl (hb hby at_171)
  have f149 : Exa Z h148 b101 "[B" := f146.wr W148
  have f150 : Ax Z h148 b101 .byte [(.int (nar .byte x4)), (.int (nar .byte x5)), (.int (nar .byte x6)), (.int (nar .byte x7)), (.int (nar .byte x7)), (.int (nar .byte x7)), (.int (nar .byte x7)), (.int (nar .byte x7)), (.int (nar .byte x7)), (.int (nar .byte x7)), (.int (nar .byte x7)), (.int (nar .byte x7)), (.int (nar .byte x7)), (.int (nar .byte x7)), (.int (nar .byte x7)), (.int (nar .byte x7)), (.int (0 : Int32)), (.int (0 : Int32)), (.int (0 : Int32)), (.int (0 : Int32))] := A148
  have Z148 : n0 ≤ h148.size := Nat.le_trans Z145 (Keep.of_wr W148).1
  have N148 := Fr.snoc X148 N145 g_b101
  refine Done.step st148 ?_
  show Done p e below s _ _ _ (T148.setTop (mkF m 172 #[.val (.int p1), .val (.int p2), .val (.int p3), .val (.int p4), .val (.int x4), .val (.int x5), .val (.int x6), .val (.int x7), .unset, .unset, .unset, .unset, .unset] [(.ref b101)]))
  refine Done.step (fun t k => XS.dup X148.here hx rfl (hb hby at_172) rfl rfl k) ?_
  show Done p e below s _ _ _ (T148.setTop (mkF m 173 #[.val (.int p1), .val (.int p2), .val (.int p3), .val (.int p4), .val (.int x4), .val (.int x5), .val (.int x6), .val (.int x7), .unset, .unset, .unset, .unset, .unset] [(.ref b101), (.ref b101)]))
  refine Done.step (fun t k => XS.bipush X148.here hx rfl (hb hby at_173) k) ?_
  show Done p e below s _ _ _ (T148.setTop (mkF m 175 #[.val (.int p1), .val (.int p2), .val (.int p3), .val (.int p4), .val (.int x4), .val (.int x5), .val (.int x6), .val (.int x7), .unset, .unset, .unset, .unset, .unset] [(.int (16 : Int32)), (.ref b101), (.ref b101)]))
  refine Done.step (fun t k => XS.iload X148.here hx rfl (hb hby at_175) rfl k) ?_
  show Done p e below s _ _ _ (T148.setTop (mkF m 177 #[.val (.int p1), .val (.int p2), .val (.int p3), .val (.int p4), .val (.int x4), .val (.int x5), .val (.int x6), .val (.int x7), .unset, .unset, .unset, .unset, .unset] [(.int x7), (.int (16 : Int32)), (.ref b101), (.ref b101)]))
  obtain ⟨T151, h151, X151, e151, W151, A151, st151⟩ := stoB X148 hx hZ e148 f150 (j := (16 : Int32)) (by decide) (i := 16) (by decide) (Nat.le_of_ble_eq_true rfl) (g := (mkF m 177 #[.val (.int p1), .val (.int p2), .val (.int p3), .val (.int p4), .val (.int x4), .val (.int x5), .val (.int x6), .val (.int x7), .unset, .unset, .unset, .unset, .unset] [(.int x7), (.int (16 : Int32)), (.ref b101), (.ref b101)])) rfl rfl (hb hby at_177)
  have f152 : Exa Z h151 b101 "[B" := f149.wr W151
  have f153 : Ax Z h151 b101 .byte [(.int (nar .byte x4)), (.int (nar .byte x5)), (.int (nar .byte x6)), (.int (nar .byte x7)), (.int (nar .byte x7)), (.int (nar .byte x7)), (.int (nar .byte x7)), (.int (nar .byte x7)), (.int (nar .byte x7)), (.int (nar .byte x7)), (.int (nar .byte x7)), (.int (nar .byte x7)), (.int (nar .byte x7)), (.int (nar .byte x7)), (.int (nar .byte x7)), (.int (nar .byte x7)), (.int (nar .byte x7)), (.int (0 : Int32)), (.int (0 : Int32)), (.int (0 : Int32))] := A151
  have Z151 : n0 ≤ h151.size := Nat.le_trans Z148 (Keep.of_wr W151).1
  have N151 := Fr.snoc X151 N148 g_b101
  refine Done.step st151 ?_
  show Done p e below s _ _ _ (T151.setTop (mkF m 178 #[.val (.int p1), .val (.int p2), .val (.int p3), .val (.int p4), .val (.int x4), .val (.int x5), .val (.int x6), .val (.int x7), .unset, .unset, .unset, .unset, .unset] [(.ref b101)]))
  refine Done.step (fun t k => XS.dup X151.here hx rfl (hb hby at_178) rfl rfl k) ?_
  show Done p e below s _ _ _ (T151.setTop (mkF m 179 #[.val (.int p1), .val (.int p2), .val (.int p3), .val (.int p4), .val (.int x4), .val (.int x5), .val (.int x6), .val (.int x7), .unset, .unset, .unset, .unset, .unset] [(.ref b101), (.ref b101)]))
  refine Done.step (fun t k => XS.bipush X151.here hx rfl (hb hby at_179) k) ?_
  show Done p e below s _ _ _ (T151.setTop (mkF m 181 #[.val (.int p1), .val (.int p2), .val (.int p3), .val (.int p4), .val (.int x4), .val (.int x5), .val (.int x6), .val (.int x7), .unset, .unset, .unset, .unset, .unset] [(.int (17 : Int32)), (.ref b101), (.ref b101)]))
  refine Done.step (fun t k => XS.iload X151.here hx rfl (hb hby at_181) rfl k) ?_
  show Done p e below s _ _ _ (T151.setTop (mkF m 183 #[.val (.int p1), .val (.int p2), .val (.int p3), .val (.int p4), .val (.int x4), .val (.int x5), .val (.int x6), .val (.int x7), .unset, .unset, .unset, .unset, .unset] [(.int x7), (.int (17 : Int32)), (.ref b101), (.ref b101)]))
  obtain ⟨T154, h154, X154, e154, W154, A154, st154⟩ := stoB X151 hx hZ e151 f153 (j := (17 : Int32)) (by decide) (i := 17) (by decide) (Nat.le_of_ble_eq_true rfl) (g := (mkF m 183 #[.val (.int p1), .val (.int p2), .val (.int p3), .val (.int p4), .val (.int x4), .val (.int x5), .val (.int x6), .val (.int x7), .unset, .unset, .unset, .unset, .unset] [(.int x7), (.int (17 : Int32)), (.ref b101), (.ref b101)])) rfl rfl (hb hby at_183)
  have f155 : Exa Z h154 b101 "[B" := f152.wr W154
  have f156 : Ax Z h154 b101 .byte [(.int (nar .byte x4)), (.int (nar .byte x5)), (.int (nar .byte x6)), (.int (nar .byte x7)), (.int (nar .byte x7)), (.int (nar .byte x7)), (.int (nar .byte x7)), (.int (nar .byte x7)), (.int (nar .byte x7)), (.int (nar .byte x7)), (.int (nar .byte x7)), (.int (nar .byte x7)), (.int (nar .byte x7)), (.int (nar .byte x7)), (.int (nar .byte x7)), (.int (nar .byte x7)), (.int (nar .byte x7)), (.int (nar .byte x7)), (.int (0 : Int32)), (.int (0 : Int32))] := A154
  have Z154 : n0 ≤ h154.size := Nat.le_trans Z151 (Keep.of_wr W154).1
  have N154 := Fr.snoc X154 N151 g_b101
  refine Done.step st154 ?_
  show Done p e below s _ _ _ (T154.setTop (mkF m 184 #[.val (.int p1), .val (.int p2), .val (.int p3), .val (.int p4), .val (.int x4), .val (.int x5), .val (.int x6), .val (.int x7), .unset, .unset, .unset, .unset, .unset] [(.ref b101)]))
  refine Done.step (fun t k => XS.dup X154.here hx rfl (hb hby at_184) rfl rfl k) ?_
  show Done p e below s _ _ _ (T154.setTop (mkF m 185 #[.val (.int p1), .val (.int p2), .val (.int p3), .val (.int p4), .val (.int x4), .val (.int x5), .val (.int x6), .val (.int x7), .unset, .unset, .unset, .unset, .unset] [(.ref b101), (.ref b101)]))
  refine Done.step (fun t k => XS.bipush X154.here hx rfl (hb hby at_185) k) ?_
  show Done p e below s _ _ _ (T154.setTop (mkF m 187 #[.val (.int p1), .val (.int p2), .val (.int p3), .val (.int p4), .val (.int x4), .val (.int x5), .val (.int x6), .val (.int x7), .unset, .unset, .unset, .unset, .unset] [(.int (18 : Int32)), (.ref b101), (.ref b101)]))
  refine Done.step (fun t k => XS.iload X154.here hx rfl (hb hby at_187) rfl k) ?_
  show Done p e below s _ _ _ (T154.setTop (mkF m 189 #[.val (.int p1), .val (.int p2), .val (.int p3), .val (.int p4), .val (.int x4), .val (.int x5), .val (.int x6), .val (.int x7), .unset, .unset, .unset, .unset, .unset] [(.int x7), (.int (18 : Int32)), (.ref b101), (.ref b101)]))
  obtain ⟨T157, h157, X157, e157, W157, A157, st157⟩ := stoB X154 hx hZ e154 f156 (j := (18 : Int32)) (by decide) (i := 18) (by decide) (Nat.le_of_ble_eq_true rfl) (g := (mkF m 189 #[.val (.int p1), .val (.int p2), .val (.int p3), .val (.int p4), .val (.int x4), .val (.int x5), .val (.int x6), .val (.int x7), .unset, .unset, .unset, .unset, .unset] [(.int x7), (.int (18 : Int32)), (.ref b101), (.ref b101)])) rfl rfl (hb hby at_189)
  have f158 : Exa Z h157 b101 "[B" := f155.wr W157
  have f159 : Ax Z h157 b101 .byte [(.int (nar .byte x4)), (.int (nar .byte x5)), (.int (nar .byte x6)), (.int (nar .byte x7)), (.int (nar .byte x7)), (.int (nar .byte x7)), (.int (nar .byte x7)), (.int (nar .byte x7)), (.int (nar .byte x7)), (.int (nar .byte x7)), (.int (nar .byte x7)), (.int (nar .byte x7)), (.int (nar .byte x7)), (.int (nar .byte x7)), (.int (nar .byte x7)), (.int (nar .byte x7)), (.int (nar .byte x7)), (.int (nar .byte x7)), (.int (nar .byte x7)), (.int (0 : Int32))] := A157
  have Z157 : n0 ≤ h157.size := Nat.le_trans Z154 (Keep.of_wr W157).1
  have N157 := Fr.snoc X157 N154 g_b101
  refine Done.step st157 ?_
  show Done p e below s _ _ _ (T157.setTop (mkF m 190 #[.val (.int p1), .val (.int p2), .val (.int p3), .val (.int p4), .val (.int x4), .val (.int x5), .val (.int x6), .val (.int x7), .unset, .unset, .unset, .unset, .unset] [(.ref b101)]))
  refine Done.step (fun t k => XS.dup X157.here hx rfl (hb hby at_190) rfl rfl k) ?_
  show Done p e below s _ _ _ (T157.setTop (mkF m 191 #[.val (.int p1), .val (.int p2), .val (.int p3), .val (.int p4), .val (.int x4), .val (.int x5), .val (.int x6), .val (.int x7), .unset, .unset, .unset, .unset, .unset] [(.ref b101), (.ref b101)]))
  refine Done.step (fun t k => XS.bipush X157.here hx rfl (hb hby at_191) k) ?_
  show Done p e below s _ _ _ (T157.setTop (mkF m 193 #[.val (.int p1), .val (.int p2), .val (.int p3), .val (.int p4), .val (.int x4), .val (.int x5), .val (.int x6), .val (.int x7), .unset, .unset, .unset, .unset, .unset] [(.int (19 : Int32)), (.ref b101), (.ref b101)]))
  refine Done.step (fun t k => XS.iload X157.here hx rfl (hb hby at_193) rfl k) ?_
  show Done p e below s _ _ _ (T157.setTop (mkF m 195 #[.val (.int p1), .val (.int p2), .val (.int p3), .val (.int p4), .val (.int x4), .val (.int x5), .val (.int x6), .val (.int x7), .unset, .unset, .unset, .unset, .unset] [(.int x7), (.int (19 : Int32)), (.ref b101), (.ref b101)]))
  obtain ⟨T160, h160, X160, e160, W160, A160, st160⟩ := stoB X157 hx hZ e157 f159 (j := (19 : Int32)) (by decide) (i := 19) (by decide) (Nat.le_of_ble_eq_true rfl) (g := (mkF m 195 #[.val (.int p1), .val (.int p2), .val (.int p3), .val (.int p4), .val (.int x4), .val (.int x5), .val (.int x6), .val (.int x7), .unset, .unset, .unset, .unset, .unset] [(.int x7), (.int (19 : Int32)), (.ref b101), (.ref b101)])) rfl rfl (hb hby at_195)
  have f161 : Exa Z h160 b101 "[B" := f158.wr W160
  have f162 : Ax Z h160 b101 .byte [(.int (nar .byte x4)), (.int (nar .byte x5)), (.int (nar .byte x6)), (.int (nar .byte x7)), (.int (nar .byte x7)), (.int (nar .byte x7)), (.int (nar .byte x7)), (.int (nar .byte x7)), (.int (nar .byte x7)), (.int (nar .byte x7)), (.int (nar .byte x7)), (.int (nar .byte x7)), (.int (nar .byte x7)), (.int (nar .byte x7)), (.int (nar .byte x7)), (.int (nar .byte x7)), (.int (nar .byte x7)), (.int (nar .byte x7)), (.int (nar .byte x7)), (.int (nar .byte x7))] := A160
  have Z160 : n0 ≤ h160.size := Nat.le_trans Z157 (Keep.of_wr W160).1
  have N160 := Fr.snoc X160 N157 g_b101
  refine Done.step st160 ?_
  show Done p e below s _ _ _ (T160.setTop (mkF m 196 #[.val (.int p1), .val (.int p2), .val (.int p3), .val (.int p4), .val (.int x4), .val (.int x5), .val (.int x6), .val (.int x7), .unset, .unset, .unset, .unset, .unset] [(.ref b101)]))
  refine Done.step (fun t k => XS.astore X160.here hx rfl (hb hby at_196) rfl rfl (l' := #[.val (.int p1), .val (.int p2), .val (.int p3), .val (.int p4), .val (.int x4), .val (.int x5), .val (.int x6), .val (.int x7), .val (.ref b101), .unset, .unset, .unset, .unset]) rfl k) ?_
  show Done p e below s _ _ _ (T160.setTop (mkF m 198 #[.val (.int p1), .val (.int p2), .val (.int p3), .val (.int p4), .val (.int x4), .val (.int x5), .val (.int x6), .val (.int x7), .val (.ref b101), .unset, .unset, .unset, .unset] []))
  refine Done.step (fun t k => XS.iloadN X160.here hx rfl (hb hby at_198) rfl k) ?_
  show Done p e below s _ _ _ (T160.setTop (mkF m 199 #[.val (.int p1), .val (.int p2), .val (.int p3), .val (.int p4), .val (.int x4), .val (.int x5), .val (.int x6), .val (.int x7), .val (.ref b101), .unset, .unset, .unset, .unset] [(.int p3)]))
  refine Done.step (X160.ldcInt hx hown (mvT hZ (hw _ (List.mem_of_getElem? (i := 5) rfl))) (g := (mkF m 199 #[.val (.int p1), .val (.int p2), .val (.int p3), .val (.int p4), .val (.int x4), .val (.int x5), .val (.int x6), .val (.int x7), .val (.ref b101), .unset, .unset, .unset, .unset] [(.int p3)])) rfl (hb hby at_199)) ?_
  show Done p e below s _ _ _ (T160.setTop (mkF m 201 #[.val (.int p1), .val (.int p2), .val (.int p3), .val (.int p4), .val (.int x4), .val (.int x5), .val (.int x6), .val (.int x7), .val (.ref b101), .unset, .unset, .unset, .unset] [(.int (2147483647 : Int32)), (.int p3)]))
  refine Done.step (fun t k => XS.iand X160.here hx rfl (hb hby at_201) rfl k) ?_
  show Done p e below s _ _ _ (T160.setTop (mkF m 202 #[.val (.int p1), .val (.int p2), .val (.int p3), .val (.int p4), .val (.int x4), .val (.int x5), .val (.int x6), .val (.int x7), .val (.ref b101), .unset, .unset, .unset, .unset] [(.int (p3 &&& (2147483647 : Int32)))]))
  refine Done.step (fun t k => XS.bipush X160.here hx rfl (hb hby at_202) k) ?_
  show Done p e below s _ _ _ (T160.setTop (mkF m 204 #[.val (.int p1), .val (.int p2), .val (.int p3), .val (.int p4), .val (.int x4), .val (.int x5), .val (.int x6), .val (.int x7), .val (.ref b101), .unset, .unset, .unset, .unset] [(.int (21 : Int32)), (.int (p3 &&& (2147483647 : Int32)))]))
  refine Done.step (fun t k => iremM X160 hx rfl (hb hby at_204) rfl (by decide) k) ?_
  show Done p e below s _ _ _ (T160.setTop (mkF m 205 #[.val (.int p1), .val (.int p2), .val (.int p3), .val (.int p4), .val (.int x4), .val (.int x5), .val (.int x6), .val (.int x7), .val (.ref b101), .unset, .unset, .unset, .unset] [(.int ((p3 &&& (2147483647 : Int32)) % (21 : Int32)))]))
  generalize dx163 : ((p3 &&& (2147483647 : Int32)) % (21 : Int32)) = x163
  show Done p e below s _ _ _ (T160.setTop (mkF m 205 #[.val (.int p1), .val (.int p2), .val (.int p3), .val (.int p4), .val (.int x4), .val (.int x5), .val (.int x6), .val (.int x7), .val (.ref b101), .unset, .unset, .unset, .unset] [(.int x163)]))
  refine Done.step (fun t k => XS.istore X160.here hx rfl (hb hby at_205) rfl (l' := #[.val (.int p1), .val (.int p2), .val (.int p3), .val (.int p4), .val (.int x4), .val (.int x5), .val (.int x6), .val (.int x7), .val (.ref b101), .val (.int x163), .unset, .unset, .unset]) rfl k) ?_
  show Done p e below s _ _ _ (T160.setTop (mkF m 207 #[.val (.int p1), .val (.int p2), .val (.int p3), .val (.int p4), .val (.int x4), .val (.int x5), .val (.int x6), .val (.int x7), .val (.ref b101), .val (.int x163), .unset, .unset, .unset] []))
  refine Done.step (fun t k => XS.iload X160.here hx rfl (hb hby at_207) rfl k) ?_
  show Done p e below s _ _ _ (T160.setTop (mkF m 209 #[.val (.int p1), .val (.int p2), .val (.int p3), .val (.int p4), .val (.int x4), .val (.int x5), .val (.int x6), .val (.int x7), .val (.ref b101), .val (.int x163), .unset, .unset, .unset] [(.int x163)]))
  refine Done.step (fun t k => XS.iloadN X160.here hx rfl (hb hby at_209) rfl k) ?_
  show Done p e below s _ _ _ (T160.setTop (mkF m 210 #[.val (.int p1), .val (.int p2), .val (.int p3), .val (.int p4), .val (.int x4), .val (.int x5), .val (.int x6), .val (.int x7), .val (.ref b101), .val (.int x163), .unset, .unset, .unset] [(.int p4), (.int x163)]))
  refine Done.step (X160.ldcInt hx hown (mvT hZ (hw _ (List.mem_of_getElem? (i := 5) rfl))) (g := (mkF m 210 #[.val (.int p1), .val (.int p2), .val (.int p3), .val (.int p4), .val (.int x4), .val (.int x5), .val (.int x6), .val (.int x7), .val (.ref b101), .val (.int x163), .unset, .unset, .unset] [(.int p4), (.int x163)])) rfl (hb hby at_210)) ?_
  show Done p e below s _ _ _ (T160.setTop (mkF m 212 #[.val (.int p1), .val (.int p2), .val (.int p3), .val (.int p4), .val (.int x4), .val (.int x5), .val (.int x6), .val (.int x7), .val (.ref b101), .val (.int x163), .unset, .unset, .unset] [(.int (2147483647 : Int32)), (.int p4), (.int x163)]))
  refine Done.step (fun t k => XS.iand X160.here hx rfl (hb hby at_212) rfl k) ?_
  show Done p e below s _ _ _ (T160.setTop (mkF m 213 #[.val (.int p1), .val (.int p2), .val (.int p3), .val (.int p4), .val (.int x4), .val (.int x5), .val (.int x6), .val (.int x7), .val (.ref b101), .val (.int x163), .unset, .unset, .unset] [(.int (p4 &&& (2147483647 : Int32))), (.int x163)]))
  refine Done.step (fun t k => XS.bipush X160.here hx rfl (hb hby at_213) k) ?_
  show Done p e below s _ _ _ (T160.setTop (mkF m 215 #[.val (.int p1), .val (.int p2), .val (.int p3), .val (.int p4), .val (.int x4), .val (.int x5), .val (.int x6), .val (.int x7), .val (.ref b101), .val (.int x163), .unset, .unset, .unset] [(.int (21 : Int32)), (.int (p4 &&& (2147483647 : Int32))), (.int x163)]))
  refine Done.step (fun t k => XS.iload X160.here hx rfl (hb hby at_215) rfl k) ?_
  show Done p e below s _ _ _ (T160.setTop (mkF m 217 #[.val (.int p1), .val (.int p2), .val (.int p3), .val (.int p4), .val (.int x4), .val (.int x5), .val (.int x6), .val (.int x7), .val (.ref b101), .val (.int x163), .unset, .unset, .unset] [(.int x163), (.int (21 : Int32)), (.int (p4 &&& (2147483647 : Int32))), (.int x163)]))
  refine Done.step (fun t k => XS.isub X160.here hx rfl (hb hby at_217) rfl k) ?_
  show Done p e below s _ _ _ (T160.setTop (mkF m 218 #[.val (.int p1), .val (.int p2), .val (.int p3), .val (.int p4), .val (.int x4), .val (.int x5), .val (.int x6), .val (.int x7), .val (.ref b101), .val (.int x163), .unset, .unset, .unset] [(.int ((21 : Int32) - x163)), (.int (p4 &&& (2147483647 : Int32))), (.int x163)]))
  obtain ⟨ll, hlo, hll⟩ := own_lo p3 x163 dx163
  have hm0 : ¬ ((21 : Int32) - x163) = (0 : Int32) := own_m0 hlo hll
  refine Done.step (fun t k => iremM X160 hx rfl (hb hby at_218) rfl hm0 k) ?_
  show Done p e below s _ _ _ (T160.setTop (mkF m 219 #[.val (.int p1), .val (.int p2), .val (.int p3), .val (.int p4), .val (.int x4), .val (.int x5), .val (.int x6), .val (.int x7), .val (.ref b101), .val (.int x163), .unset, .unset, .unset] [(.int ((p4 &&& (2147483647 : Int32)) % ((21 : Int32) - x163))), (.int x163)]))
  refine Done.step (fun t k => XS.iadd X160.here hx rfl (hb hby at_219) rfl k) ?_
  show Done p e below s _ _ _ (T160.setTop (mkF m 220 #[.val (.int p1), .val (.int p2), .val (.int p3), .val (.int p4), .val (.int x4), .val (.int x5), .val (.int x6), .val (.int x7), .val (.ref b101), .val (.int x163), .unset, .unset, .unset] [(.int (x163 + ((p4 &&& (2147483647 : Int32)) % ((21 : Int32) - x163))))]))
  generalize dx164 : (x163 + ((p4 &&& (2147483647 : Int32)) % ((21 : Int32) - x163))) = x164
  show Done p e below s _ _ _ (T160.setTop (mkF m 220 #[.val (.int p1), .val (.int p2), .val (.int p3), .val (.int p4), .val (.int x4), .val (.int x5), .val (.int x6), .val (.int x7), .val (.ref b101), .val (.int x163), .unset, .unset, .unset] [(.int x164)]))
  refine Done.step (fun t k => XS.istore X160.here hx rfl (hb hby at_220) rfl (l' := #[.val (.int p1), .val (.int p2), .val (.int p3), .val (.int p4), .val (.int x4), .val (.int x5), .val (.int x6), .val (.int x7), .val (.ref b101), .val (.int x163), .val (.int x164), .unset, .unset]) rfl k) ?_
  show Done p e below s _ _ _ (T160.setTop (mkF m 222 #[.val (.int p1), .val (.int p2), .val (.int p3), .val (.int p4), .val (.int x4), .val (.int x5), .val (.int x6), .val (.int x7), .val (.ref b101), .val (.int x163), .val (.int x164), .unset, .unset] []))
  obtain ⟨hh, hhi, hlh, hh20⟩ := own_hi p4 x163 x164 hlo hll dx164
  have Axx : Ax Z h160 b101 .byte ([x4, x5, x6, x7, x7, x7, x7, x7, x7, x7, x7, x7, x7, x7, x7, x7, x7, x7, x7, x7].map Value.int) := by have q := f162; rw [hb4, hb5, hb6, hb7] at q; exact q
  refine Done.step (fun t k => XS.aload X160.here hx rfl (hb hby at_222) rfl rfl k) ?_
  show Done p e below s _ _ _ (T160.setTop (mkF m 224 #[.val (.int p1), .val (.int p2), .val (.int p3), .val (.int p4), .val (.int x4), .val (.int x5), .val (.int x6), .val (.int x7), .val (.ref b101), .val (.int x163), .val (.int x164), .unset, .unset] [(.ref b101)]))
  refine Done.step (fun t k => XS.iload X160.here hx rfl (hb hby at_224) rfl k) ?_
  show Done p e below s _ _ _ (T160.setTop (mkF m 226 #[.val (.int p1), .val (.int p2), .val (.int p3), .val (.int p4), .val (.int x4), .val (.int x5), .val (.int x6), .val (.int x7), .val (.ref b101), .val (.int x163), .val (.int x164), .unset, .unset] [(.int x163), (.ref b101)]))
  refine Done.step (fun t k => XS.iload X160.here hx rfl (hb hby at_226) rfl k) ?_
  show Done p e below s _ _ _ (T160.setTop (mkF m 228 #[.val (.int p1), .val (.int p2), .val (.int p3), .val (.int p4), .val (.int x4), .val (.int x5), .val (.int x6), .val (.int x7), .val (.ref b101), .val (.int x163), .val (.int x164), .unset, .unset] [(.int x164), (.int x163), (.ref b101)]))
  obtain ⟨v165, _, ⟨T165, L165, k165, n165⟩, -, X165, ⟨Lc165, hQ165, l165, y165, z165⟩, st165⟩ := Jvm.LawKit.callS X160 hx (y := (⟨"weirstream/engine/WrittenNumber", "shortWhole", "([BII)J"⟩ : MethodName)) hown (mvT hZ (hw _ (List.mem_of_getElem? (i := 6) rfl))) (mvT hZ (hw _ (List.mem_of_getElem? (i := 7) rfl))) (mvT hZ (hw _ (List.mem_of_getElem? (i := 8) rfl))) (mvT hZ (hw _ (List.mem_of_getElem? (i := 9) rfl))) (by decide) (backOf (W := 0) (rm2 l Z a0 hw [] b101 x163 x164 [x4, x5, x6, x7, x7, x7, x7, x7, x7, x7, x7, x7, x7, x7, x7, x7, x7, x7, x7, x7] hh ll h160 n0 Z160 Axx hhi (by simp; omega) hlo hlh) hZ (hw _ (List.mem_of_getElem? (i := 9) rfl)) (hw _ (List.mem_of_getElem? (i := 8) rfl)) (by decide) (by decide)) (g := (mkF m 228 #[.val (.int p1), .val (.int p2), .val (.int p3), .val (.int p4), .val (.int x4), .val (.int x5), .val (.int x6), .val (.int x7), .val (.ref b101), .val (.int x163), .val (.int x164), .unset, .unset] [(.int x164), (.int x163), (.ref b101)])) rfl (by rw [hml]; rfl) (argsL := [(.ref b101), (.int x163), (.int x164)]) (rest := []) (lenOf pd_3 rfl) rfl (by show 2 * 0 + _ ≤ _; exact Nat.le_of_eq rfl) (hb hby at_228) (fun _ _ => ⟨rfl, e160, (by decide : 1 + 0 ≤ _), (by decide : 20 + 0 ≤ _)⟩)
  dsimp only [Pt.U, Pt.locs, Pt.cells, Pt.slots] at X165 l165 y165 z165 st165 hQ165
  subst l165 y165 z165
  refine Done.step st165 ?_
  obtain ⟨rfl, N165q, e165⟩ := hQ165
  have N165 := Fr.app N160 N165q
  show Done p e below s _ _ _ (T165.setTop (mkF m 231 #[.val (.int p1), .val (.int p2), .val (.int p3), .val (.int p4), .val (.int x4), .val (.int x5), .val (.int x6), .val (.int x7), .val (.ref b101), .val (.int x163), .val (.int x164), .unset, .unset] [(.long (SW [x4, x5, x6, x7, x7, x7, x7, x7, x7, x7, x7, x7, x7, x7, x7, x7, x7, x7, x7, x7] hh x163 x164))]))
  generalize dx166 : (SW [x4, x5, x6, x7, x7, x7, x7, x7, x7, x7, x7, x7, x7, x7, x7, x7, x7, x7, x7, x7] hh x163 x164) = x166
  show Done p e below s _ _ _ (T165.setTop (mkF m 231 #[.val (.int p1), .val (.int p2), .val (.int p3), .val (.int p4), .val (.int x4), .val (.int x5), .val (.int x6), .val (.int x7), .val (.ref b101), .val (.int x163), .val (.int x164), .unset, .unset] [(.long x166)]))
  refine Done.step (fun t k => XS.lstore X165.here hx rfl (hb hby at_231) rfl (l' := #[.val (.int p1), .val (.int p2), .val (.int p3), .val (.int p4), .val (.int x4), .val (.int x5), .val (.int x6), .val (.int x7), .val (.ref b101), .val (.int x163), .val (.int x164), .val (.long x166), .second]) rfl k) ?_
  show Done p e below s _ _ _ (T165.setTop (mkF m 233 #[.val (.int p1), .val (.int p2), .val (.int p3), .val (.int p4), .val (.int x4), .val (.int x5), .val (.int x6), .val (.int x7), .val (.ref b101), .val (.int x163), .val (.int x164), .val (.long x166), .second] []))
  refine Done.step (fun t k => XS.lload X165.here hx rfl (hb hby at_233) rfl k) ?_
  show Done p e below s _ _ _ (T165.setTop (mkF m 235 #[.val (.int p1), .val (.int p2), .val (.int p3), .val (.int p4), .val (.int x4), .val (.int x5), .val (.int x6), .val (.int x7), .val (.ref b101), .val (.int x163), .val (.int x164), .val (.long x166), .second] [(.long x166)]))
  refine Done.step (fun t k => XS.iload X165.here hx rfl (hb hby at_235) rfl k) ?_
  show Done p e below s _ _ _ (T165.setTop (mkF m 237 #[.val (.int p1), .val (.int p2), .val (.int p3), .val (.int p4), .val (.int x4), .val (.int x5), .val (.int x6), .val (.int x7), .val (.ref b101), .val (.int x163), .val (.int x164), .val (.long x166), .second] [(.int x4), (.long x166)]))
  refine Done.step (fun t k => XS.iload X165.here hx rfl (hb hby at_237) rfl k) ?_
  show Done p e below s _ _ _ (T165.setTop (mkF m 239 #[.val (.int p1), .val (.int p2), .val (.int p3), .val (.int p4), .val (.int x4), .val (.int x5), .val (.int x6), .val (.int x7), .val (.ref b101), .val (.int x163), .val (.int x164), .val (.long x166), .second] [(.int x5), (.int x4), (.long x166)]))
  refine Done.step (fun t k => XS.iload X165.here hx rfl (hb hby at_239) rfl k) ?_
  show Done p e below s _ _ _ (T165.setTop (mkF m 241 #[.val (.int p1), .val (.int p2), .val (.int p3), .val (.int p4), .val (.int x4), .val (.int x5), .val (.int x6), .val (.int x7), .val (.ref b101), .val (.int x163), .val (.int x164), .val (.long x166), .second] [(.int x6), (.int x5), (.int x4), (.long x166)]))
  refine Done.step (fun t k => XS.iload X165.here hx rfl (hb hby at_241) rfl k) ?_
  show Done p e below s _ _ _ (T165.setTop (mkF m 243 #[.val (.int p1), .val (.int p2), .val (.int p3), .val (.int p4), .val (.int x4), .val (.int x5), .val (.int x6), .val (.int x7), .val (.ref b101), .val (.int x163), .val (.int x164), .val (.long x166), .second] [(.int x7), (.int x6), (.int x5), (.int x4), (.long x166)]))
  refine Done.step (fun t k => XS.iload X165.here hx rfl (hb hby at_243) rfl k) ?_
  show Done p e below s _ _ _ (T165.setTop (mkF m 245 #[.val (.int p1), .val (.int p2), .val (.int p3), .val (.int p4), .val (.int x4), .val (.int x5), .val (.int x6), .val (.int x7), .val (.ref b101), .val (.int x163), .val (.int x164), .val (.long x166), .second] [(.int x163), (.int x7), (.int x6), (.int x5), (.int x4), (.long x166)]))
  refine Done.step (fun t k => XS.iload X165.here hx rfl (hb hby at_245) rfl k) ?_
  show Done p e below s _ _ _ (T165.setTop (mkF m 247 #[.val (.int p1), .val (.int p2), .val (.int p3), .val (.int p4), .val (.int x4), .val (.int x5), .val (.int x6), .val (.int x7), .val (.ref b101), .val (.int x163), .val (.int x164), .val (.long x166), .second] [(.int x164), (.int x163), (.int x7), (.int x6), (.int x5), (.int x4), (.long x166)]))
  obtain ⟨v167, _, ⟨T167, L167, k167, n167⟩, -, X167, ⟨Lc167, hQ167, l167, y167, z167⟩, st167⟩ := Jvm.LawKit.callS X165 hx (y := (⟨"weirstream/engine/WrittenNumberShortWholePinLaw", "expected", "(BBBBII)J"⟩ : MethodName)) hown (mvT hZ (hw _ (List.mem_of_getElem? (i := 11) rfl))) (mvT hZ (hw _ (List.mem_of_getElem? (i := 12) rfl))) (mvT hZ (hw _ (List.mem_of_getElem? (i := 2) rfl))) (mvT hZ (hw _ (List.mem_of_getElem? (i := 13) rfl))) (by decide) (backOf (W := 2) (rm3 l Z a0 hw [] x4 x5 x6 x7 x163 x164 h160 n0 Z160 ) hZ (hw _ (List.mem_of_getElem? (i := 13) rfl)) (hw _ (List.mem_of_getElem? (i := 2) rfl)) (by decide) (by decide)) (g := (mkF m 247 #[.val (.int p1), .val (.int p2), .val (.int p3), .val (.int p4), .val (.int x4), .val (.int x5), .val (.int x6), .val (.int x7), .val (.ref b101), .val (.int x163), .val (.int x164), .val (.long x166), .second] [(.int x164), (.int x163), (.int x7), (.int x6), (.int x5), (.int x4), (.long x166)])) rfl (by rw [hml]; rfl) (argsL := [(.int x4), (.int x5), (.int x6), (.int x7), (.int x163), (.int x164)]) (rest := [(.long x166)]) (lenOf pd_4 rfl) rfl (by show 2 * 0 + _ ≤ _; exact Nat.le_of_eq rfl) (hb hby at_247) (fun _ _ => ⟨rfl, e165, (by decide : 1 + 0 ≤ _), (by decide : 20 + 0 ≤ _)⟩)
  dsimp only [Pt.U, Pt.locs, Pt.cells, Pt.slots] at X167 l167 y167 z167 st167 hQ167
  subst l167 y167 z167
  refine Done.step st167 ?_
  obtain ⟨rfl, N167q, e167⟩ := hQ167
  have N167 := Fr.app N165 N167q
  show Done p e below s _ _ _ (T167.setTop (mkF m 250 #[.val (.int p1), .val (.int p2), .val (.int p3), .val (.int p4), .val (.int x4), .val (.int x5), .val (.int x6), .val (.int x7), .val (.ref b101), .val (.int x163), .val (.int x164), .val (.long x166), .second] [(.long (FE x4 x5 x6 x7 x163 x164)), (.long x166)]))
  refine Done.step (fun t k => XS.lcmp X167.here hx rfl (hb hby at_250) rfl k) ?_
  show Done p e below s _ _ _ (T167.setTop (mkF m 251 #[.val (.int p1), .val (.int p2), .val (.int p3), .val (.int p4), .val (.int x4), .val (.int x5), .val (.int x6), .val (.int x7), .val (.ref b101), .val (.int x163), .val (.int x164), .val (.long x166), .second] [(.int (lcmpW x166 (FE x4 x5 x6 x7 x163 x164)))]))
  refine Done.step (fun t k => XS.ifNo X167.here hx rfl (hb hby at_251) rfl ((if0 _ _).trans (teq ((lw_eq _ _).mpr (show x166 = (FE x4 x5 x6 x7 x163 x164) from (dx166.symm.trans (own_law hb4 hb5 hb6 hb7 hlo hlh hhi hh20))))).2) k) ?_
  show Done p e below s _ _ _ (T167.setTop (mkF m 254 #[.val (.int p1), .val (.int p2), .val (.int p3), .val (.int p4), .val (.int x4), .val (.int x5), .val (.int x6), .val (.int x7), .val (.ref b101), .val (.int x163), .val (.int x164), .val (.long x166), .second] []))
  refine Done.step (fun t k => XS.iconst X167.here hx rfl (hb hby at_254) k) ?_
  show Done p e below s _ _ _ (T167.setTop (mkF m 255 #[.val (.int p1), .val (.int p2), .val (.int p3), .val (.int p4), .val (.int x4), .val (.int x5), .val (.int x6), .val (.int x7), .val (.ref b101), .val (.int x163), .val (.int x164), .val (.long x166), .second] [(.int (1 : Int32))]))
  refine Done.step (fun t k => XS.goto X167.here hx rfl (pc0 := 255) (pc' := 259) rfl (hb hby at_255) (by decide) (by decide) k) ?_
  show Done p e below s _ _ _ (T167.setTop (mkF m 259 #[.val (.int p1), .val (.int p2), .val (.int p3), .val (.int p4), .val (.int x4), .val (.int x5), .val (.int x6), .val (.int x7), .val (.ref b101), .val (.int x163), .val (.int x164), .val (.long x166), .second] [(.int (1 : Int32))]))
  exact Done.narr X167 hx hlk hret (by simp) (hb hby at_259) (by decide) (by decide) ⟨rfl, N167⟩
set_option maxRecDepth 65536 in
set_option maxHeartbeats 40000000 in
theorem blk73 {p : Program} {l : Launch} {e : Env} {s : State} {m : MethodId} {args : Array Value} {below : List Frame} {meth : Method} {c : Code} {T : State} {locs : List Loc} {Z : State} {a0 : Array Value} {h0 : Heap} {n0 : Nat} (p1 p2 p3 p4 x4 x5 x6 cc rr : Int32)
    (X0 : Stand p l e room_1 s m args below meth c T locs 0 0) (hx : p.tables.exec = Jvm.exec) (hZ : Z.Warmed39 s.vm) (hw : ∀ d ∈ tables_1, d.before a0 Z = true) (hby : c.code = code) (hml : c.maxLocals = 13) (hown : s.vm.findClass "weirstream/engine/WrittenNumberShortWholePinLaw" = some m.cls) (hlk : meth.locks = false) (hret : meth.sig.returnType = ret) (hnm : meth.name = "law") (N0 : Fr n0 locs) (Z0 : n0 ≤ h0.size) (e0 : T.heap = h0) (hb4 : nar .byte x4 = x4) (hb5 : nar .byte x5 = x5) (hb6 : nar .byte x6 = x6) :
    Done p e below s (fun v h L => v = some (.int 1) ∧ Fr n0 L) room_1.cells room_1.slots (T.setTop (mkF m 73 #[.val (.int p1), .val (.int p2), .val (.int p3), .val (.int p4), .val (.int x4), .val (.int x5), .val (.int x6), .unset, .unset, .unset, .unset, .unset, .unset] [(.int cc), (.int rr)])) := by
  show Done p e below s _ _ _ (T.setTop (mkF m 73 #[.val (.int p1), .val (.int p2), .val (.int p3), .val (.int p4), .val (.int x4), .val (.int x5), .val (.int x6), .unset, .unset, .unset, .unset, .unset, .unset] [(.int cc), (.int rr)]))
  obtain ⟨v101, _, ⟨T101, L101, k101, n101⟩, -, X101, ⟨Lc101, hQ101, l101, y101, z101⟩, st101⟩ := Jvm.LawKit.callS X0 hx (y := (⟨"weirstream/engine/WrittenNumberShortWholePinLaw", "pick", "(IZ)B"⟩ : MethodName)) hown (mvT hZ (hw _ (List.mem_of_getElem? (i := 0) rfl))) (mvT hZ (hw _ (List.mem_of_getElem? (i := 1) rfl))) (mvT hZ (hw _ (List.mem_of_getElem? (i := 2) rfl))) (mvT hZ (hw _ (List.mem_of_getElem? (i := 3) rfl))) (by decide) (backOf (W := 0) (rm1 l Z a0 hw [] rr cc h0 n0 Z0 ) hZ (hw _ (List.mem_of_getElem? (i := 3) rfl)) (hw _ (List.mem_of_getElem? (i := 2) rfl)) (by decide) (by decide)) (g := (mkF m 73 #[.val (.int p1), .val (.int p2), .val (.int p3), .val (.int p4), .val (.int x4), .val (.int x5), .val (.int x6), .unset, .unset, .unset, .unset, .unset, .unset] [(.int cc), (.int rr)])) rfl (by rw [hml]; rfl) (argsL := [(.int rr), (.int cc)]) (rest := []) (lenOf pd_5 rfl) rfl (by show 2 * 0 + _ ≤ _; exact Nat.le_of_eq rfl) (hb hby at_73) (fun _ _ => ⟨rfl, e0, (by decide : 0 + 0 ≤ _), (by decide : 0 + 0 ≤ _)⟩)
  dsimp only [Pt.U, Pt.locs, Pt.cells, Pt.slots] at X101 l101 y101 z101 st101 hQ101
  subst l101 y101 z101
  refine Done.step st101 ?_
  obtain ⟨rfl, N101q, e101⟩ := hQ101
  have N101 := Fr.app N0 N101q
  show Done p e below s _ _ _ (T101.setTop (mkF m 76 #[.val (.int p1), .val (.int p2), .val (.int p3), .val (.int p4), .val (.int x4), .val (.int x5), .val (.int x6), .unset, .unset, .unset, .unset, .unset, .unset] [(.int (F1 rr cc))]))
  generalize dx102 : (F1 rr cc) = x102
  show Done p e below s _ _ _ (T101.setTop (mkF m 76 #[.val (.int p1), .val (.int p2), .val (.int p3), .val (.int p4), .val (.int x4), .val (.int x5), .val (.int x6), .unset, .unset, .unset, .unset, .unset, .unset] [(.int x102)]))
  refine Done.step (fun t k => XS.istore X101.here hx rfl (hb hby at_76) rfl (l' := #[.val (.int p1), .val (.int p2), .val (.int p3), .val (.int p4), .val (.int x4), .val (.int x5), .val (.int x6), .val (.int x102), .unset, .unset, .unset, .unset, .unset]) rfl k) ?_
  show Done p e below s _ _ _ (T101.setTop (mkF m 78 #[.val (.int p1), .val (.int p2), .val (.int p3), .val (.int p4), .val (.int x4), .val (.int x5), .val (.int x6), .val (.int x102), .unset, .unset, .unset, .unset, .unset] []))
  exact blk78 p1 p2 p3 p4 x4 x5 x6 x102 X101 hx hZ hw hby hml hown hlk hret hnm N101 Z0 e101 hb4 hb5 hb6 (own_pick _ _ _ dx102)
set_option maxRecDepth 65536 in
set_option maxHeartbeats 40000000 in
theorem blk52 {p : Program} {l : Launch} {e : Env} {s : State} {m : MethodId} {args : Array Value} {below : List Frame} {meth : Method} {c : Code} {T : State} {locs : List Loc} {Z : State} {a0 : Array Value} {h0 : Heap} {n0 : Nat} (p1 p2 p3 p4 x4 x5 cc rr : Int32)
    (X0 : Stand p l e room_1 s m args below meth c T locs 0 0) (hx : p.tables.exec = Jvm.exec) (hZ : Z.Warmed39 s.vm) (hw : ∀ d ∈ tables_1, d.before a0 Z = true) (hby : c.code = code) (hml : c.maxLocals = 13) (hown : s.vm.findClass "weirstream/engine/WrittenNumberShortWholePinLaw" = some m.cls) (hlk : meth.locks = false) (hret : meth.sig.returnType = ret) (hnm : meth.name = "law") (N0 : Fr n0 locs) (Z0 : n0 ≤ h0.size) (e0 : T.heap = h0) (hb4 : nar .byte x4 = x4) (hb5 : nar .byte x5 = x5) :
    Done p e below s (fun v h L => v = some (.int 1) ∧ Fr n0 L) room_1.cells room_1.slots (T.setTop (mkF m 52 #[.val (.int p1), .val (.int p2), .val (.int p3), .val (.int p4), .val (.int x4), .val (.int x5), .unset, .unset, .unset, .unset, .unset, .unset, .unset] [(.int cc), (.int rr)])) := by
  show Done p e below s _ _ _ (T.setTop (mkF m 52 #[.val (.int p1), .val (.int p2), .val (.int p3), .val (.int p4), .val (.int x4), .val (.int x5), .unset, .unset, .unset, .unset, .unset, .unset, .unset] [(.int cc), (.int rr)]))
  obtain ⟨v101, _, ⟨T101, L101, k101, n101⟩, -, X101, ⟨Lc101, hQ101, l101, y101, z101⟩, st101⟩ := Jvm.LawKit.callS X0 hx (y := (⟨"weirstream/engine/WrittenNumberShortWholePinLaw", "pick", "(IZ)B"⟩ : MethodName)) hown (mvT hZ (hw _ (List.mem_of_getElem? (i := 0) rfl))) (mvT hZ (hw _ (List.mem_of_getElem? (i := 1) rfl))) (mvT hZ (hw _ (List.mem_of_getElem? (i := 2) rfl))) (mvT hZ (hw _ (List.mem_of_getElem? (i := 3) rfl))) (by decide) (backOf (W := 0) (rm1 l Z a0 hw [] rr cc h0 n0 Z0 ) hZ (hw _ (List.mem_of_getElem? (i := 3) rfl)) (hw _ (List.mem_of_getElem? (i := 2) rfl)) (by decide) (by decide)) (g := (mkF m 52 #[.val (.int p1), .val (.int p2), .val (.int p3), .val (.int p4), .val (.int x4), .val (.int x5), .unset, .unset, .unset, .unset, .unset, .unset, .unset] [(.int cc), (.int rr)])) rfl (by rw [hml]; rfl) (argsL := [(.int rr), (.int cc)]) (rest := []) (lenOf pd_5 rfl) rfl (by show 2 * 0 + _ ≤ _; exact Nat.le_of_eq rfl) (hb hby at_52) (fun _ _ => ⟨rfl, e0, (by decide : 0 + 0 ≤ _), (by decide : 0 + 0 ≤ _)⟩)
  dsimp only [Pt.U, Pt.locs, Pt.cells, Pt.slots] at X101 l101 y101 z101 st101 hQ101
  subst l101 y101 z101
  refine Done.step st101 ?_
  obtain ⟨rfl, N101q, e101⟩ := hQ101
  have N101 := Fr.app N0 N101q
  show Done p e below s _ _ _ (T101.setTop (mkF m 55 #[.val (.int p1), .val (.int p2), .val (.int p3), .val (.int p4), .val (.int x4), .val (.int x5), .unset, .unset, .unset, .unset, .unset, .unset, .unset] [(.int (F1 rr cc))]))
  generalize dx102 : (F1 rr cc) = x102
  show Done p e below s _ _ _ (T101.setTop (mkF m 55 #[.val (.int p1), .val (.int p2), .val (.int p3), .val (.int p4), .val (.int x4), .val (.int x5), .unset, .unset, .unset, .unset, .unset, .unset, .unset] [(.int x102)]))
  refine Done.step (fun t k => XS.istore X101.here hx rfl (hb hby at_55) rfl (l' := #[.val (.int p1), .val (.int p2), .val (.int p3), .val (.int p4), .val (.int x4), .val (.int x5), .val (.int x102), .unset, .unset, .unset, .unset, .unset, .unset]) rfl k) ?_
  show Done p e below s _ _ _ (T101.setTop (mkF m 57 #[.val (.int p1), .val (.int p2), .val (.int p3), .val (.int p4), .val (.int x4), .val (.int x5), .val (.int x102), .unset, .unset, .unset, .unset, .unset, .unset] []))
  refine Done.step (fun t k => XS.iloadN X101.here hx rfl (hb hby at_57) rfl k) ?_
  show Done p e below s _ _ _ (T101.setTop (mkF m 58 #[.val (.int p1), .val (.int p2), .val (.int p3), .val (.int p4), .val (.int x4), .val (.int x5), .val (.int x102), .unset, .unset, .unset, .unset, .unset, .unset] [(.int p1)]))
  refine Done.step (fun t k => XS.bipush X101.here hx rfl (hb hby at_58) k) ?_
  show Done p e below s _ _ _ (T101.setTop (mkF m 60 #[.val (.int p1), .val (.int p2), .val (.int p3), .val (.int p4), .val (.int x4), .val (.int x5), .val (.int x102), .unset, .unset, .unset, .unset, .unset, .unset] [(.int (24 : Int32)), (.int p1)]))
  refine Done.step (fun t k => XS.ishr X101.here hx rfl (hb hby at_60) rfl k) ?_
  show Done p e below s _ _ _ (T101.setTop (mkF m 61 #[.val (.int p1), .val (.int p2), .val (.int p3), .val (.int p4), .val (.int x4), .val (.int x5), .val (.int x102), .unset, .unset, .unset, .unset, .unset, .unset] [(.int (p1 >>> ((24 : Int32) &&& 31)))]))
  refine Done.step (fun t k => XS.iloadN X101.here hx rfl (hb hby at_61) rfl k) ?_
  show Done p e below s _ _ _ (T101.setTop (mkF m 62 #[.val (.int p1), .val (.int p2), .val (.int p3), .val (.int p4), .val (.int x4), .val (.int x5), .val (.int x102), .unset, .unset, .unset, .unset, .unset, .unset] [(.int p2), (.int (p1 >>> ((24 : Int32) &&& 31)))]))
  refine Done.step (fun t k => XS.bipush X101.here hx rfl (hb hby at_62) k) ?_
  show Done p e below s _ _ _ (T101.setTop (mkF m 64 #[.val (.int p1), .val (.int p2), .val (.int p3), .val (.int p4), .val (.int x4), .val (.int x5), .val (.int x102), .unset, .unset, .unset, .unset, .unset, .unset] [(.int (8 : Int32)), (.int p2), (.int (p1 >>> ((24 : Int32) &&& 31)))]))
  refine Done.step (fun t k => XS.iand X101.here hx rfl (hb hby at_64) rfl k) ?_
  show Done p e below s _ _ _ (T101.setTop (mkF m 65 #[.val (.int p1), .val (.int p2), .val (.int p3), .val (.int p4), .val (.int x4), .val (.int x5), .val (.int x102), .unset, .unset, .unset, .unset, .unset, .unset] [(.int (p2 &&& (8 : Int32))), (.int (p1 >>> ((24 : Int32) &&& 31)))]))
  by_cases c1 : (p2 &&& (8 : Int32)) = (0 : Int32)
  · refine Done.step (fun t k => XS.ifYes X101.here hx rfl (pc0 := 65) (pc' := 72) rfl (hb hby at_65) rfl ((if0 _ _).trans (teq c1).1) (by decide) (by decide) k) ?_
    show Done p e below s _ _ _ (T101.setTop (mkF m 72 #[.val (.int p1), .val (.int p2), .val (.int p3), .val (.int p4), .val (.int x4), .val (.int x5), .val (.int x102), .unset, .unset, .unset, .unset, .unset, .unset] [(.int (p1 >>> ((24 : Int32) &&& 31)))]))
    refine Done.step (fun t k => XS.iconst X101.here hx rfl (hb hby at_72) k) ?_
    show Done p e below s _ _ _ (T101.setTop (mkF m 73 #[.val (.int p1), .val (.int p2), .val (.int p3), .val (.int p4), .val (.int x4), .val (.int x5), .val (.int x102), .unset, .unset, .unset, .unset, .unset, .unset] [(.int (0 : Int32)), (.int (p1 >>> ((24 : Int32) &&& 31)))]))
    exact blk73 p1 p2 p3 p4 x4 x5 x102 (0 : Int32) (p1 >>> ((24 : Int32) &&& 31)) X101 hx hZ hw hby hml hown hlk hret hnm N101 Z0 e101 hb4 hb5 (own_pick _ _ _ dx102)
  · refine Done.step (fun t k => XS.ifNo X101.here hx rfl (hb hby at_65) rfl ((if0 _ _).trans (feq c1).1) k) ?_
    show Done p e below s _ _ _ (T101.setTop (mkF m 68 #[.val (.int p1), .val (.int p2), .val (.int p3), .val (.int p4), .val (.int x4), .val (.int x5), .val (.int x102), .unset, .unset, .unset, .unset, .unset, .unset] [(.int (p1 >>> ((24 : Int32) &&& 31)))]))
    refine Done.step (fun t k => XS.iconst X101.here hx rfl (hb hby at_68) k) ?_
    show Done p e below s _ _ _ (T101.setTop (mkF m 69 #[.val (.int p1), .val (.int p2), .val (.int p3), .val (.int p4), .val (.int x4), .val (.int x5), .val (.int x102), .unset, .unset, .unset, .unset, .unset, .unset] [(.int (1 : Int32)), (.int (p1 >>> ((24 : Int32) &&& 31)))]))
    refine Done.step (fun t k => XS.goto X101.here hx rfl (pc0 := 69) (pc' := 73) rfl (hb hby at_69) (by decide) (by decide) k) ?_
    show Done p e below s _ _ _ (T101.setTop (mkF m 73 #[.val (.int p1), .val (.int p2), .val (.int p3), .val (.int p4), .val (.int x4), .val (.int x5), .val (.int x102), .unset, .unset, .unset, .unset, .unset, .unset] [(.int (1 : Int32)), (.int (p1 >>> ((24 : Int32) &&& 31)))]))
    exact blk73 p1 p2 p3 p4 x4 x5 x102 (1 : Int32) (p1 >>> ((24 : Int32) &&& 31)) X101 hx hZ hw hby hml hown hlk hret hnm N101 Z0 e101 hb4 hb5 (own_pick _ _ _ dx102)
set_option maxRecDepth 65536 in
set_option maxHeartbeats 40000000 in
theorem blk32 {p : Program} {l : Launch} {e : Env} {s : State} {m : MethodId} {args : Array Value} {below : List Frame} {meth : Method} {c : Code} {T : State} {locs : List Loc} {Z : State} {a0 : Array Value} {h0 : Heap} {n0 : Nat} (p1 p2 p3 p4 x4 cc rr : Int32)
    (X0 : Stand p l e room_1 s m args below meth c T locs 0 0) (hx : p.tables.exec = Jvm.exec) (hZ : Z.Warmed39 s.vm) (hw : ∀ d ∈ tables_1, d.before a0 Z = true) (hby : c.code = code) (hml : c.maxLocals = 13) (hown : s.vm.findClass "weirstream/engine/WrittenNumberShortWholePinLaw" = some m.cls) (hlk : meth.locks = false) (hret : meth.sig.returnType = ret) (hnm : meth.name = "law") (N0 : Fr n0 locs) (Z0 : n0 ≤ h0.size) (e0 : T.heap = h0) (hb4 : nar .byte x4 = x4) :
    Done p e below s (fun v h L => v = some (.int 1) ∧ Fr n0 L) room_1.cells room_1.slots (T.setTop (mkF m 32 #[.val (.int p1), .val (.int p2), .val (.int p3), .val (.int p4), .val (.int x4), .unset, .unset, .unset, .unset, .unset, .unset, .unset, .unset] [(.int cc), (.int rr)])) := by
  show Done p e below s _ _ _ (T.setTop (mkF m 32 #[.val (.int p1), .val (.int p2), .val (.int p3), .val (.int p4), .val (.int x4), .unset, .unset, .unset, .unset, .unset, .unset, .unset, .unset] [(.int cc), (.int rr)]))
  obtain ⟨v101, _, ⟨T101, L101, k101, n101⟩, -, X101, ⟨Lc101, hQ101, l101, y101, z101⟩, st101⟩ := Jvm.LawKit.callS X0 hx (y := (⟨"weirstream/engine/WrittenNumberShortWholePinLaw", "pick", "(IZ)B"⟩ : MethodName)) hown (mvT hZ (hw _ (List.mem_of_getElem? (i := 0) rfl))) (mvT hZ (hw _ (List.mem_of_getElem? (i := 1) rfl))) (mvT hZ (hw _ (List.mem_of_getElem? (i := 2) rfl))) (mvT hZ (hw _ (List.mem_of_getElem? (i := 3) rfl))) (by decide) (backOf (W := 0) (rm1 l Z a0 hw [] rr cc h0 n0 Z0 ) hZ (hw _ (List.mem_of_getElem? (i := 3) rfl)) (hw _ (List.mem_of_getElem? (i := 2) rfl)) (by decide) (by decide)) (g := (mkF m 32 #[.val (.int p1), .val (.int p2), .val (.int p3), .val (.int p4), .val (.int x4), .unset, .unset, .unset, .unset, .unset, .unset, .unset, .unset] [(.int cc), (.int rr)])) rfl (by rw [hml]; rfl) (argsL := [(.int rr), (.int cc)]) (rest := []) (lenOf pd_5 rfl) rfl (by show 2 * 0 + _ ≤ _; exact Nat.le_of_eq rfl) (hb hby at_32) (fun _ _ => ⟨rfl, e0, (by decide : 0 + 0 ≤ _), (by decide : 0 + 0 ≤ _)⟩)
  dsimp only [Pt.U, Pt.locs, Pt.cells, Pt.slots] at X101 l101 y101 z101 st101 hQ101
  subst l101 y101 z101
  refine Done.step st101 ?_
  obtain ⟨rfl, N101q, e101⟩ := hQ101
  have N101 := Fr.app N0 N101q
  show Done p e below s _ _ _ (T101.setTop (mkF m 35 #[.val (.int p1), .val (.int p2), .val (.int p3), .val (.int p4), .val (.int x4), .unset, .unset, .unset, .unset, .unset, .unset, .unset, .unset] [(.int (F1 rr cc))]))
  generalize dx102 : (F1 rr cc) = x102
  show Done p e below s _ _ _ (T101.setTop (mkF m 35 #[.val (.int p1), .val (.int p2), .val (.int p3), .val (.int p4), .val (.int x4), .unset, .unset, .unset, .unset, .unset, .unset, .unset, .unset] [(.int x102)]))
  refine Done.step (fun t k => XS.istore X101.here hx rfl (hb hby at_35) rfl (l' := #[.val (.int p1), .val (.int p2), .val (.int p3), .val (.int p4), .val (.int x4), .val (.int x102), .unset, .unset, .unset, .unset, .unset, .unset, .unset]) rfl k) ?_
  show Done p e below s _ _ _ (T101.setTop (mkF m 37 #[.val (.int p1), .val (.int p2), .val (.int p3), .val (.int p4), .val (.int x4), .val (.int x102), .unset, .unset, .unset, .unset, .unset, .unset, .unset] []))
  refine Done.step (fun t k => XS.iloadN X101.here hx rfl (hb hby at_37) rfl k) ?_
  show Done p e below s _ _ _ (T101.setTop (mkF m 38 #[.val (.int p1), .val (.int p2), .val (.int p3), .val (.int p4), .val (.int x4), .val (.int x102), .unset, .unset, .unset, .unset, .unset, .unset, .unset] [(.int p1)]))
  refine Done.step (fun t k => XS.bipush X101.here hx rfl (hb hby at_38) k) ?_
  show Done p e below s _ _ _ (T101.setTop (mkF m 40 #[.val (.int p1), .val (.int p2), .val (.int p3), .val (.int p4), .val (.int x4), .val (.int x102), .unset, .unset, .unset, .unset, .unset, .unset, .unset] [(.int (16 : Int32)), (.int p1)]))
  refine Done.step (fun t k => XS.ishr X101.here hx rfl (hb hby at_40) rfl k) ?_
  show Done p e below s _ _ _ (T101.setTop (mkF m 41 #[.val (.int p1), .val (.int p2), .val (.int p3), .val (.int p4), .val (.int x4), .val (.int x102), .unset, .unset, .unset, .unset, .unset, .unset, .unset] [(.int (p1 >>> ((16 : Int32) &&& 31)))]))
  refine Done.step (fun t k => XS.iloadN X101.here hx rfl (hb hby at_41) rfl k) ?_
  show Done p e below s _ _ _ (T101.setTop (mkF m 42 #[.val (.int p1), .val (.int p2), .val (.int p3), .val (.int p4), .val (.int x4), .val (.int x102), .unset, .unset, .unset, .unset, .unset, .unset, .unset] [(.int p2), (.int (p1 >>> ((16 : Int32) &&& 31)))]))
  refine Done.step (fun t k => XS.iconst X101.here hx rfl (hb hby at_42) k) ?_
  show Done p e below s _ _ _ (T101.setTop (mkF m 43 #[.val (.int p1), .val (.int p2), .val (.int p3), .val (.int p4), .val (.int x4), .val (.int x102), .unset, .unset, .unset, .unset, .unset, .unset, .unset] [(.int (4 : Int32)), (.int p2), (.int (p1 >>> ((16 : Int32) &&& 31)))]))
  refine Done.step (fun t k => XS.iand X101.here hx rfl (hb hby at_43) rfl k) ?_
  show Done p e below s _ _ _ (T101.setTop (mkF m 44 #[.val (.int p1), .val (.int p2), .val (.int p3), .val (.int p4), .val (.int x4), .val (.int x102), .unset, .unset, .unset, .unset, .unset, .unset, .unset] [(.int (p2 &&& (4 : Int32))), (.int (p1 >>> ((16 : Int32) &&& 31)))]))
  by_cases c1 : (p2 &&& (4 : Int32)) = (0 : Int32)
  · refine Done.step (fun t k => XS.ifYes X101.here hx rfl (pc0 := 44) (pc' := 51) rfl (hb hby at_44) rfl ((if0 _ _).trans (teq c1).1) (by decide) (by decide) k) ?_
    show Done p e below s _ _ _ (T101.setTop (mkF m 51 #[.val (.int p1), .val (.int p2), .val (.int p3), .val (.int p4), .val (.int x4), .val (.int x102), .unset, .unset, .unset, .unset, .unset, .unset, .unset] [(.int (p1 >>> ((16 : Int32) &&& 31)))]))
    refine Done.step (fun t k => XS.iconst X101.here hx rfl (hb hby at_51) k) ?_
    show Done p e below s _ _ _ (T101.setTop (mkF m 52 #[.val (.int p1), .val (.int p2), .val (.int p3), .val (.int p4), .val (.int x4), .val (.int x102), .unset, .unset, .unset, .unset, .unset, .unset, .unset] [(.int (0 : Int32)), (.int (p1 >>> ((16 : Int32) &&& 31)))]))
    exact blk52 p1 p2 p3 p4 x4 x102 (0 : Int32) (p1 >>> ((16 : Int32) &&& 31)) X101 hx hZ hw hby hml hown hlk hret hnm N101 Z0 e101 hb4 (own_pick _ _ _ dx102)
  · refine Done.step (fun t k => XS.ifNo X101.here hx rfl (hb hby at_44) rfl ((if0 _ _).trans (feq c1).1) k) ?_
    show Done p e below s _ _ _ (T101.setTop (mkF m 47 #[.val (.int p1), .val (.int p2), .val (.int p3), .val (.int p4), .val (.int x4), .val (.int x102), .unset, .unset, .unset, .unset, .unset, .unset, .unset] [(.int (p1 >>> ((16 : Int32) &&& 31)))]))
    refine Done.step (fun t k => XS.iconst X101.here hx rfl (hb hby at_47) k) ?_
    show Done p e below s _ _ _ (T101.setTop (mkF m 48 #[.val (.int p1), .val (.int p2), .val (.int p3), .val (.int p4), .val (.int x4), .val (.int x102), .unset, .unset, .unset, .unset, .unset, .unset, .unset] [(.int (1 : Int32)), (.int (p1 >>> ((16 : Int32) &&& 31)))]))
    refine Done.step (fun t k => XS.goto X101.here hx rfl (pc0 := 48) (pc' := 52) rfl (hb hby at_48) (by decide) (by decide) k) ?_
    show Done p e below s _ _ _ (T101.setTop (mkF m 52 #[.val (.int p1), .val (.int p2), .val (.int p3), .val (.int p4), .val (.int x4), .val (.int x102), .unset, .unset, .unset, .unset, .unset, .unset, .unset] [(.int (1 : Int32)), (.int (p1 >>> ((16 : Int32) &&& 31)))]))
    exact blk52 p1 p2 p3 p4 x4 x102 (1 : Int32) (p1 >>> ((16 : Int32) &&& 31)) X101 hx hZ hw hby hml hown hlk hret hnm N101 Z0 e101 hb4 (own_pick _ _ _ dx102)
set_option maxRecDepth 65536 in
set_option maxHeartbeats 40000000 in
theorem blk12 {p : Program} {l : Launch} {e : Env} {s : State} {m : MethodId} {args : Array Value} {below : List Frame} {meth : Method} {c : Code} {T : State} {locs : List Loc} {Z : State} {a0 : Array Value} {h0 : Heap} {n0 : Nat} (p1 p2 p3 p4  cc rr : Int32)
    (X0 : Stand p l e room_1 s m args below meth c T locs 0 0) (hx : p.tables.exec = Jvm.exec) (hZ : Z.Warmed39 s.vm) (hw : ∀ d ∈ tables_1, d.before a0 Z = true) (hby : c.code = code) (hml : c.maxLocals = 13) (hown : s.vm.findClass "weirstream/engine/WrittenNumberShortWholePinLaw" = some m.cls) (hlk : meth.locks = false) (hret : meth.sig.returnType = ret) (hnm : meth.name = "law") (N0 : Fr n0 locs) (Z0 : n0 ≤ h0.size) (e0 : T.heap = h0) :
    Done p e below s (fun v h L => v = some (.int 1) ∧ Fr n0 L) room_1.cells room_1.slots (T.setTop (mkF m 12 #[.val (.int p1), .val (.int p2), .val (.int p3), .val (.int p4), .unset, .unset, .unset, .unset, .unset, .unset, .unset, .unset, .unset] [(.int cc), (.int rr)])) := by
  show Done p e below s _ _ _ (T.setTop (mkF m 12 #[.val (.int p1), .val (.int p2), .val (.int p3), .val (.int p4), .unset, .unset, .unset, .unset, .unset, .unset, .unset, .unset, .unset] [(.int cc), (.int rr)]))
  obtain ⟨v101, _, ⟨T101, L101, k101, n101⟩, -, X101, ⟨Lc101, hQ101, l101, y101, z101⟩, st101⟩ := Jvm.LawKit.callS X0 hx (y := (⟨"weirstream/engine/WrittenNumberShortWholePinLaw", "pick", "(IZ)B"⟩ : MethodName)) hown (mvT hZ (hw _ (List.mem_of_getElem? (i := 0) rfl))) (mvT hZ (hw _ (List.mem_of_getElem? (i := 1) rfl))) (mvT hZ (hw _ (List.mem_of_getElem? (i := 2) rfl))) (mvT hZ (hw _ (List.mem_of_getElem? (i := 3) rfl))) (by decide) (backOf (W := 0) (rm1 l Z a0 hw [] rr cc h0 n0 Z0 ) hZ (hw _ (List.mem_of_getElem? (i := 3) rfl)) (hw _ (List.mem_of_getElem? (i := 2) rfl)) (by decide) (by decide)) (g := (mkF m 12 #[.val (.int p1), .val (.int p2), .val (.int p3), .val (.int p4), .unset, .unset, .unset, .unset, .unset, .unset, .unset, .unset, .unset] [(.int cc), (.int rr)])) rfl (by rw [hml]; rfl) (argsL := [(.int rr), (.int cc)]) (rest := []) (lenOf pd_5 rfl) rfl (by show 2 * 0 + _ ≤ _; exact Nat.le_of_eq rfl) (hb hby at_12) (fun _ _ => ⟨rfl, e0, (by decide : 0 + 0 ≤ _), (by decide : 0 + 0 ≤ _)⟩)
  dsimp only [Pt.U, Pt.locs, Pt.cells, Pt.slots] at X101 l101 y101 z101 st101 hQ101
  subst l101 y101 z101
  refine Done.step st101 ?_
  obtain ⟨rfl, N101q, e101⟩ := hQ101
  have N101 := Fr.app N0 N101q
  show Done p e below s _ _ _ (T101.setTop (mkF m 15 #[.val (.int p1), .val (.int p2), .val (.int p3), .val (.int p4), .unset, .unset, .unset, .unset, .unset, .unset, .unset, .unset, .unset] [(.int (F1 rr cc))]))
  generalize dx102 : (F1 rr cc) = x102
  show Done p e below s _ _ _ (T101.setTop (mkF m 15 #[.val (.int p1), .val (.int p2), .val (.int p3), .val (.int p4), .unset, .unset, .unset, .unset, .unset, .unset, .unset, .unset, .unset] [(.int x102)]))
  refine Done.step (fun t k => XS.istore X101.here hx rfl (hb hby at_15) rfl (l' := #[.val (.int p1), .val (.int p2), .val (.int p3), .val (.int p4), .val (.int x102), .unset, .unset, .unset, .unset, .unset, .unset, .unset, .unset]) rfl k) ?_
  show Done p e below s _ _ _ (T101.setTop (mkF m 17 #[.val (.int p1), .val (.int p2), .val (.int p3), .val (.int p4), .val (.int x102), .unset, .unset, .unset, .unset, .unset, .unset, .unset, .unset] []))
  refine Done.step (fun t k => XS.iloadN X101.here hx rfl (hb hby at_17) rfl k) ?_
  show Done p e below s _ _ _ (T101.setTop (mkF m 18 #[.val (.int p1), .val (.int p2), .val (.int p3), .val (.int p4), .val (.int x102), .unset, .unset, .unset, .unset, .unset, .unset, .unset, .unset] [(.int p1)]))
  refine Done.step (fun t k => XS.bipush X101.here hx rfl (hb hby at_18) k) ?_
  show Done p e below s _ _ _ (T101.setTop (mkF m 20 #[.val (.int p1), .val (.int p2), .val (.int p3), .val (.int p4), .val (.int x102), .unset, .unset, .unset, .unset, .unset, .unset, .unset, .unset] [(.int (8 : Int32)), (.int p1)]))
  refine Done.step (fun t k => XS.ishr X101.here hx rfl (hb hby at_20) rfl k) ?_
  show Done p e below s _ _ _ (T101.setTop (mkF m 21 #[.val (.int p1), .val (.int p2), .val (.int p3), .val (.int p4), .val (.int x102), .unset, .unset, .unset, .unset, .unset, .unset, .unset, .unset] [(.int (p1 >>> ((8 : Int32) &&& 31)))]))
  refine Done.step (fun t k => XS.iloadN X101.here hx rfl (hb hby at_21) rfl k) ?_
  show Done p e below s _ _ _ (T101.setTop (mkF m 22 #[.val (.int p1), .val (.int p2), .val (.int p3), .val (.int p4), .val (.int x102), .unset, .unset, .unset, .unset, .unset, .unset, .unset, .unset] [(.int p2), (.int (p1 >>> ((8 : Int32) &&& 31)))]))
  refine Done.step (fun t k => XS.iconst X101.here hx rfl (hb hby at_22) k) ?_
  show Done p e below s _ _ _ (T101.setTop (mkF m 23 #[.val (.int p1), .val (.int p2), .val (.int p3), .val (.int p4), .val (.int x102), .unset, .unset, .unset, .unset, .unset, .unset, .unset, .unset] [(.int (2 : Int32)), (.int p2), (.int (p1 >>> ((8 : Int32) &&& 31)))]))
  refine Done.step (fun t k => XS.iand X101.here hx rfl (hb hby at_23) rfl k) ?_
  show Done p e below s _ _ _ (T101.setTop (mkF m 24 #[.val (.int p1), .val (.int p2), .val (.int p3), .val (.int p4), .val (.int x102), .unset, .unset, .unset, .unset, .unset, .unset, .unset, .unset] [(.int (p2 &&& (2 : Int32))), (.int (p1 >>> ((8 : Int32) &&& 31)))]))
  by_cases c1 : (p2 &&& (2 : Int32)) = (0 : Int32)
  · refine Done.step (fun t k => XS.ifYes X101.here hx rfl (pc0 := 24) (pc' := 31) rfl (hb hby at_24) rfl ((if0 _ _).trans (teq c1).1) (by decide) (by decide) k) ?_
    show Done p e below s _ _ _ (T101.setTop (mkF m 31 #[.val (.int p1), .val (.int p2), .val (.int p3), .val (.int p4), .val (.int x102), .unset, .unset, .unset, .unset, .unset, .unset, .unset, .unset] [(.int (p1 >>> ((8 : Int32) &&& 31)))]))
    refine Done.step (fun t k => XS.iconst X101.here hx rfl (hb hby at_31) k) ?_
    show Done p e below s _ _ _ (T101.setTop (mkF m 32 #[.val (.int p1), .val (.int p2), .val (.int p3), .val (.int p4), .val (.int x102), .unset, .unset, .unset, .unset, .unset, .unset, .unset, .unset] [(.int (0 : Int32)), (.int (p1 >>> ((8 : Int32) &&& 31)))]))
    exact blk32 p1 p2 p3 p4 x102 (0 : Int32) (p1 >>> ((8 : Int32) &&& 31)) X101 hx hZ hw hby hml hown hlk hret hnm N101 Z0 e101 (own_pick _ _ _ dx102)
  · refine Done.step (fun t k => XS.ifNo X101.here hx rfl (hb hby at_24) rfl ((if0 _ _).trans (feq c1).1) k) ?_
    show Done p e below s _ _ _ (T101.setTop (mkF m 27 #[.val (.int p1), .val (.int p2), .val (.int p3), .val (.int p4), .val (.int x102), .unset, .unset, .unset, .unset, .unset, .unset, .unset, .unset] [(.int (p1 >>> ((8 : Int32) &&& 31)))]))
    refine Done.step (fun t k => XS.iconst X101.here hx rfl (hb hby at_27) k) ?_
    show Done p e below s _ _ _ (T101.setTop (mkF m 28 #[.val (.int p1), .val (.int p2), .val (.int p3), .val (.int p4), .val (.int x102), .unset, .unset, .unset, .unset, .unset, .unset, .unset, .unset] [(.int (1 : Int32)), (.int (p1 >>> ((8 : Int32) &&& 31)))]))
    refine Done.step (fun t k => XS.goto X101.here hx rfl (pc0 := 28) (pc' := 32) rfl (hb hby at_28) (by decide) (by decide) k) ?_
    show Done p e below s _ _ _ (T101.setTop (mkF m 32 #[.val (.int p1), .val (.int p2), .val (.int p3), .val (.int p4), .val (.int x102), .unset, .unset, .unset, .unset, .unset, .unset, .unset, .unset] [(.int (1 : Int32)), (.int (p1 >>> ((8 : Int32) &&& 31)))]))
    exact blk32 p1 p2 p3 p4 x102 (1 : Int32) (p1 >>> ((8 : Int32) &&& 31)) X101 hx hZ hw hby hml hown hlk hret hnm N101 Z0 e101 (own_pick _ _ _ dx102)
theorem pn_0 : plainName "weirstream/engine/WrittenNumberShortWholePinLaw" = true := by first | (simp [plainName, overriddenIn]; done) | decide +kernel
theorem ef_0 (m : MethodId) (p1 : Int32) (p2 : Int32) (p3 : Int32) (p4 : Int32) : entryFrame m #[(.int p1), (.int p2), (.int p3), (.int p4)] maxLocals = mkF m 0 #[.val (.int p1), .val (.int p2), .val (.int p3), .val (.int p4), .unset, .unset, .unset, .unset, .unset, .unset, .unset, .unset, .unset] [] := by first | (simp [entryFrame, mkF, argsToLocals, Value.category, maxLocals]; done) | rfl
def Qrm0 (Z : State) (p1 : Int32) (p2 : Int32) (p3 : Int32) (p4 : Int32) (h0 : Heap) (n0 : Nat) : Option Value → Heap → List Loc → Prop := fun v h L => v = some (.int 1) ∧ Fr n0 L
set_option maxRecDepth 65536 in
set_option maxHeartbeats 40000000 in
theorem rm0 (l : Launch) (Z : State) (a0 : Array Value) (hw : ∀ d ∈ tables_1, d.before a0 Z = true) (ws : List Jvm.Cond) (p1 : Int32) (p2 : Int32) (p3 : Int32) (p4 : Int32) (h0 : Heap) (n0 : Nat) (Z0 : n0 ≤ h0.size) :
    MetFree l x (head1 (Jvm.Cond.code x code maxLocals ret :: ws) room_1) (fun a U => a = #[(.int p1), (.int p2), (.int p3), (.int p4)] ∧ Z.Warmed39 U.vm ∧ U.heap = h0) (fun _ _ _ _ _ => True) (fun _ U o U' => ∃ v L, o = .returned v ∧ Qrm0 Z p1 p2 p3 p4 h0 n0 v U'.heap L ∧ FrameEnd U o U' L room_1.cells room_1.slots) := by
  refine MetFree.of_bodySF (plainFor_of_name pn_0) hisR ?_
  intro p e s m args below meth c s₁ Bd hml0 hP hK
  obtain ⟨rfl, hZ, hhp⟩ := hP
  have hx := Bd.exec
  have hby := Bd.bytes
  have hml : c.maxLocals = 13 := hml0
  have hown : s.vm.findClass "weirstream/engine/WrittenNumberShortWholePinLaw" = some m.cls := findClass_of_methodNamed Bd.named
  have hnm := (name_of_methodNamed Bd.named Bd.method).1
  have hlk : meth.locks = false := BodyLoose.notSynchronized Bd
  have hret := Bd.returns
  have X0 : Stand p l e room_1 s m #[(.int p1), (.int p2), (.int p3), (.int p4)] below meth c s₁ [] 0 0 := Stand.of_body Bd
  have e0 : s₁.heap = h0 := by rw [← hhp, Bd.state]; rfl
  have N0 := Fr.nil n0
  show Done p e below s (Qrm0 Z p1 p2 p3 p4 h0 n0) room_1.cells room_1.slots (s₁.setTop (entryFrame m #[(.int p1), (.int p2), (.int p3), (.int p4)] maxLocals))
  refine Done.step (fun t k => castTop (ef_0 m p1 p2 p3 p4) k) ?_
  show Done p e below s _ _ _ (s₁.setTop (mkF m 0 #[.val (.int p1), .val (.int p2), .val (.int p3), .val (.int p4), .unset, .unset, .unset, .unset, .unset, .unset, .unset, .unset, .unset] []))
  refine Done.step (fun t k => XS.iloadN X0.here hx rfl (hb hby at_0) rfl k) ?_
  show Done p e below s _ _ _ (s₁.setTop (mkF m 1 #[.val (.int p1), .val (.int p2), .val (.int p3), .val (.int p4), .unset, .unset, .unset, .unset, .unset, .unset, .unset, .unset, .unset] [(.int p1)]))
  refine Done.step (fun t k => XS.iloadN X0.here hx rfl (hb hby at_1) rfl k) ?_
  show Done p e below s _ _ _ (s₁.setTop (mkF m 2 #[.val (.int p1), .val (.int p2), .val (.int p3), .val (.int p4), .unset, .unset, .unset, .unset, .unset, .unset, .unset, .unset, .unset] [(.int p2), (.int p1)]))
  refine Done.step (fun t k => XS.iconst X0.here hx rfl (hb hby at_2) k) ?_
  show Done p e below s _ _ _ (s₁.setTop (mkF m 3 #[.val (.int p1), .val (.int p2), .val (.int p3), .val (.int p4), .unset, .unset, .unset, .unset, .unset, .unset, .unset, .unset, .unset] [(.int (1 : Int32)), (.int p2), (.int p1)]))
  refine Done.step (fun t k => XS.iand X0.here hx rfl (hb hby at_3) rfl k) ?_
  show Done p e below s _ _ _ (s₁.setTop (mkF m 4 #[.val (.int p1), .val (.int p2), .val (.int p3), .val (.int p4), .unset, .unset, .unset, .unset, .unset, .unset, .unset, .unset, .unset] [(.int (p2 &&& (1 : Int32))), (.int p1)]))
  by_cases c1 : (p2 &&& (1 : Int32)) = (0 : Int32)
  · refine Done.step (fun t k => XS.ifYes X0.here hx rfl (pc0 := 4) (pc' := 11) rfl (hb hby at_4) rfl ((if0 _ _).trans (teq c1).1) (by decide) (by decide) k) ?_
    show Done p e below s _ _ _ (s₁.setTop (mkF m 11 #[.val (.int p1), .val (.int p2), .val (.int p3), .val (.int p4), .unset, .unset, .unset, .unset, .unset, .unset, .unset, .unset, .unset] [(.int p1)]))
    refine Done.step (fun t k => XS.iconst X0.here hx rfl (hb hby at_11) k) ?_
    show Done p e below s _ _ _ (s₁.setTop (mkF m 12 #[.val (.int p1), .val (.int p2), .val (.int p3), .val (.int p4), .unset, .unset, .unset, .unset, .unset, .unset, .unset, .unset, .unset] [(.int (0 : Int32)), (.int p1)]))
    exact blk12 p1 p2 p3 p4 (0 : Int32) p1 X0 hx hZ hw hby hml hown hlk hret hnm N0 Z0 e0 
  · refine Done.step (fun t k => XS.ifNo X0.here hx rfl (hb hby at_4) rfl ((if0 _ _).trans (feq c1).1) k) ?_
    show Done p e below s _ _ _ (s₁.setTop (mkF m 7 #[.val (.int p1), .val (.int p2), .val (.int p3), .val (.int p4), .unset, .unset, .unset, .unset, .unset, .unset, .unset, .unset, .unset] [(.int p1)]))
    refine Done.step (fun t k => XS.iconst X0.here hx rfl (hb hby at_7) k) ?_
    show Done p e below s _ _ _ (s₁.setTop (mkF m 8 #[.val (.int p1), .val (.int p2), .val (.int p3), .val (.int p4), .unset, .unset, .unset, .unset, .unset, .unset, .unset, .unset, .unset] [(.int (1 : Int32)), (.int p1)]))
    refine Done.step (fun t k => XS.goto X0.here hx rfl (pc0 := 8) (pc' := 12) rfl (hb hby at_8) (by decide) (by decide) k) ?_
    show Done p e below s _ _ _ (s₁.setTop (mkF m 12 #[.val (.int p1), .val (.int p2), .val (.int p3), .val (.int p4), .unset, .unset, .unset, .unset, .unset, .unset, .unset, .unset, .unset] [(.int (1 : Int32)), (.int p1)]))
    exact blk12 p1 p2 p3 p4 (1 : Int32) p1 X0 hx hZ hw hby hml hown hlk hret hnm N0 Z0 e0 
set_option maxRecDepth 65536 in
set_option maxHeartbeats 40000000 in
theorem comes_1 {Post : Tables → Env → Array Value → State → Outcome → State → Prop} (hpost : ∀ tb e args s v u, (limb_1_1.after args s (.returned v) u = true ∧ limb_1_2.after args s (.returned v) u = true ∧ True) → FrameEnd s (.returned v) u (Jvm.fieldLocs frame_1_writes args s ++ Jvm.arrayLocs frame_1_arrays args s ++ Jvm.staticLocs frame_1_statics s) 16 128 → Post tb e args s (.returned v) u) :
    ArmFor flags0 classFile x code maxLocals ret World_1 tables_1 room_1 Calls_1 rest_1 Pre_1 Post := by
  intro l hfl _ _ p e ha hc hk s m args below hf hA hF happ hP
  obtain ⟨hcalls, hrest, hpre⟩ := hP
  obtain ⟨-, -, -, hnamed, -, -, -, hat⟩ := (Spec.applies_iff hf).mp happ
  obtain ⟨hg, hn⟩ := and_e (Cond.before_iff.mp (show (Jvm.Cond.and given_1 narrow_1).before args s = true from hpre))
  obtain ⟨hcnt, g0⟩ := and_e hg
  obtain ⟨u0, g1⟩ := and_e g0
  obtain ⟨u1, g2⟩ := and_e g1
  obtain ⟨u2, g3⟩ := and_e g2
  have u3 := g3
  obtain ⟨w0, w1, w2, w3, rfl⟩ : ∃ w0 w1 w2 w3 : Value, args = #[w0, w1, w2, w3] := by
    have hs : args.size = 4 := by simpa [Cond.value, given_1] using hcnt
    obtain ⟨L⟩ := args
    match L, hs with
    | [w0, w1, w2, w3], _ => exact ⟨w0, w1, w2, w3, rfl⟩
  have hw := fun d (hd : d ∈ tables_1) => atoms_spec (ws := Jvm.Cond.code x code maxLocals ret :: tables_1) hat d (List.mem_cons_of_mem _ hd)
  have hfit : Fit s := fun {y c} hc i hi => by
    obtain ⟨ha, rfl⟩ := Array.getElem?_eq_some_iff.mp hc
    have q := List.all_eq_true.mp ((Array.all_eq_true_iff_forall_mem.mp hF) _ (Array.getElem_mem ha)) i (List.mem_range.mpr hi)
    simpa [Array.getElem?_eq_getElem hi] using q
  obtain ⟨i0, ei0⟩ := is_v u0
  obtain rfl : w0 = (.int i0) := Option.some.inj ei0
  obtain ⟨i1, ei1⟩ := is_v u1
  obtain rfl : w1 = (.int i1) := Option.some.inj ei1
  obtain ⟨i2, ei2⟩ := is_v u2
  obtain rfl : w2 = (.int i2) := Option.some.inj ei2
  obtain ⟨i3, ei3⟩ := is_v u3
  obtain rfl : w3 = (.int i3) := Option.some.inj ei3
  obtain ⟨n, o, h1, h2, h3, _, L, rfl, ⟨rfl, N⟩, hq⟩ := rm0 l s _ hw tables_1 i0 i1 i2 i3 s.heap s.heap.size (Nat.le_refl _) p e ha hc hk s m _ below hf ((Spec.applies_iff_loose hf).mp happ).1 ⟨rfl, State.Warmed39.refl s, rfl⟩ trivial
  refine ⟨n, _, h1, h2, h3, hpost _ _ _ _ _ _ ⟨Cond.after_iff.mpr rfl, Cond.after_iff.mpr (eq_i res_at (Term.int_eval (1)) rfl), trivial⟩ ⟨hq.1, hq.2.1, (hq.2.2.sift fun y hy => Or.inr (N y hy)).mono (by decide) (by decide)⟩⟩
theorem main_1_1 : Claimed_1_1 := comes_1 fun _ _ _ _ _ _ h hF => ⟨h.1, hF⟩
theorem main_1_2 : Claimed_1_2 := comes_1 fun _ _ _ _ _ _ h hF => ⟨h.2.1, hF⟩
end Jvm.Pilot.@@N@@
namespace Jvm.Pilot.@@N@@
open Jvm Jvm.ClassFile Sem Op Lib Jvm.Free Jvm.Stand Jvm.Pilot.@@N@@.Jvm.D
/-! MADE BY PROGRAM (witnessworld.py) out of the Statement's table words and the real class files: 10 classes; the members and pool entries that the words name. The judged class is class 1, her method 1. -/
namespace start1
open Jvm.ClassFile
def u (s : String) : CpInfo := .utf8 (stringToUtf16 s)
/-- a pool by its gaps: so many unusable entries, then the entry; so many at the end -/
def gap : Nat → List CpInfo → List CpInfo
  | 0, r => r
  | n + 1, r => .unusable :: gap n r
def poolList (es : List (Nat × CpInfo)) (last : Nat) : List CpInfo := es.foldr (fun e r => gap e.1 (e.2 :: r)) (gap last [])
def pool (es : List (Nat × CpInfo)) (last : Nat) : Array CpInfo := ⟨poolList es last⟩
def fileOf (pool : Array CpInfo) (this : Nat) (attrs : Array Attribute := #[]) (ms : Array MethodInfo := #[]) (fl : Nat := 33) (sup : Nat := 0) (ifs : Array Nat := #[]) (fds : Array FieldInfo := #[]) : ClassFile where
  minorVersion := 0
  majorVersion := 65
  constantPool := pool
  accessFlags := fl
  thisClass := this
  superClass := sup
  interfaces := ifs
  fields := fds
  methods := ms
  attributes := attrs
def plain (name : String) (sup : Option ClassId) : Class where
  name := name
  kind := .ordinary
  loader := none
  accessFlags := 33
  super := sup
  interfaces := #[]
  cf := none
  fields := #[]
  methods := #[]
  instanceTypes := #[]
  staticTypes := #[]
  resolved := #[]
  callSites := []
  init := .initialized
  statics := none
  mirror := none

def pool0 : Array CpInfo := pool [(5, u "<init>"), (0, u "()V"), (1, .class_ 10), (1, u "java/lang/Object")] 113

def k0m0 : Method := { name := "<init>", desc := "()V", sig := { parameters := [], returnType := none }, accessFlags := 1, code := none }
/-- java/lang/Object -/
def k0 : Class := { plain "java/lang/Object" none with
  accessFlags := 33
  interfaces := #[]
  cf := some (fileOf pool0 8 #[] #[{ accessFlags := 1, nameIndex := 5, descriptorIndex := 6, attributes := #[] }] 33 0 #[] #[])
  fields := #[]
  methods := #[k0m0]
  instanceTypes := #[]
  staticTypes := #[]
  resolved := Array.replicate 124 none
  statics := none }

def pool1 : Array CpInfo := pool [(2, .class_ 4), (1, u "java/lang/Object"), (0, u "<init>"), (0, u "()V"), (0, .methodref 8 9), (0, .class_ 10), (0, .nameAndType 11 12), (0, u "weirstream/engine/WrittenNumberShortWholePinLaw"), (0, u "pick"), (0, u "(IZ)B"), (0, .integer 2147483647), (0, .methodref 15 16), (0, .class_ 17), (0, .nameAndType 18 19), (0, u "weirstream/engine/WrittenNumber"), (0, u "shortWhole"), (0, u "([BII)J"), (0, .methodref 8 21), (0, .nameAndType 22 23), (0, u "expected"), (0, u "(BBBBII)J"), (0, .long 10), (1, .long 100), (1, .long 10000), (1, .long 100000000), (3, .long 9223372036854775808), (1, .methodref 8 37), (0, .nameAndType 38 39), (0, u "digitOf"), (0, u "(B)I"), (0, .methodref 41 42), (0, .class_ 43), (0, .nameAndType 44 45), (0, u "java/lang/Math"), (0, u "max"), (0, u "(II)I"), (0, .methodref 8 47), (0, .nameAndType 48 49), (0, u "pow10"), (0, u "(I)J"), (0, .long 9), (3, u "law"), (0, u "(IIII)Z")] 5

def k1m0 : Method := { name := "<init>", desc := "()V", sig := { parameters := [], returnType := none }, accessFlags := 2, code := none }
def k1c1 : Code := { maxStack := 8, maxLocals := 13, code := code, exceptionTable := #[], attributes := #[] }
def k1m1 : Method := { name := "law", desc := "(IIII)Z", sig := { parameters := [.int, .int, .int, .int], returnType := some .boolean }, accessFlags := 9, code := some k1c1 }
def k1c2 : Code := { maxStack := 3, maxLocals := 2, code := method_3_code, exceptionTable := #[], attributes := #[] }
def k1m2 : Method := { name := "pick", desc := "(IZ)B", sig := { parameters := [.int, .boolean], returnType := some .byte }, accessFlags := 10, code := some k1c2 }
def k1c3 : Code := { maxStack := 2, maxLocals := 1, code := method_4_code, exceptionTable := #[], attributes := #[] }
def k1m3 : Method := { name := "digitOf", desc := "(B)I", sig := { parameters := [.byte], returnType := some .int }, accessFlags := 10, code := some k1c3 }
def k1c4 : Code := { maxStack := 4, maxLocals := 3, code := method_5_code, exceptionTable := #[], attributes := #[] }
def k1m4 : Method := { name := "pow10", desc := "(I)J", sig := { parameters := [.int], returnType := some .long }, accessFlags := 10, code := some k1c4 }
def k1c5 : Code := { maxStack := 8, maxLocals := 18, code := method_6_code, exceptionTable := #[], attributes := #[] }
def k1m5 : Method := { name := "expected", desc := "(BBBBII)J", sig := { parameters := [.byte, .byte, .byte, .byte, .int, .int], returnType := some .long }, accessFlags := 10, code := some k1c5 }
/-- weirstream/engine/WrittenNumberShortWholePinLaw -/
def k1 : Class := { plain "weirstream/engine/WrittenNumberShortWholePinLaw" (some 0) with
  accessFlags := 49
  interfaces := #[]
  cf := some (fileOf pool1 8 #[] #[{ accessFlags := 2, nameIndex := 5, descriptorIndex := 6, attributes := #[] }, { accessFlags := 9, nameIndex := 54, descriptorIndex := 55, attributes := #[] }, { accessFlags := 10, nameIndex := 11, descriptorIndex := 12, attributes := #[] }, { accessFlags := 10, nameIndex := 38, descriptorIndex := 39, attributes := #[] }, { accessFlags := 10, nameIndex := 48, descriptorIndex := 49, attributes := #[] }, { accessFlags := 10, nameIndex := 22, descriptorIndex := 23, attributes := #[] }] 49 2 #[] #[])
  fields := #[]
  methods := #[k1m0, k1m1, k1m2, k1m3, k1m4, k1m5]
  instanceTypes := #[]
  staticTypes := #[]
  resolved := Array.replicate 61 none
  statics := none }

def pool2 : Array CpInfo := pool [(4, .class_ 6), (1, u "java/lang/Object"), (0, u "<init>"), (0, u "()V"), (1, .class_ 12), (1, u "weirstream/engine/WrittenNumber"), (2, .long 9223372036854775808), (34, u "shortWhole"), (3, .long 10), (37, u "NO_SHORT_WHOLE"), (0, u "J"), (1, u "DIGITS_THAT_FIT"), (0, u "I"), (7, u "([BII)J")] 20

def k2m0 : Method := { name := "<init>", desc := "()V", sig := { parameters := [], returnType := none }, accessFlags := 2, code := none }
def k2c1 : Code := { maxStack := 4, maxLocals := 8, code := prog_166_method_7_code, exceptionTable := #[], attributes := #[] }
def k2m1 : Method := { name := "shortWhole", desc := "([BII)J", sig := { parameters := [(.array .byte), .int, .int], returnType := some .long }, accessFlags := 9, code := some k2c1 }
/-- weirstream/engine/WrittenNumber -/
def k2 : Class := { plain "weirstream/engine/WrittenNumber" (some 0) with
  accessFlags := 49
  interfaces := #[]
  cf := some (fileOf pool2 10 #[] #[{ accessFlags := 2, nameIndex := 7, descriptorIndex := 8, attributes := #[] }, { accessFlags := 9, nameIndex := 50, descriptorIndex := 104, attributes := #[] }] 49 4 #[] #[{ accessFlags := 25, nameIndex := 92, descriptorIndex := 93, attributes := #[] }, { accessFlags := 26, nameIndex := 95, descriptorIndex := 96, attributes := #[] }])
  fields := #[{ name := "NO_SHORT_WHOLE", type := .long, accessFlags := 25, slot := 0, constantValue := 0 }, { name := "DIGITS_THAT_FIT", type := .int, accessFlags := 26, slot := 1, constantValue := 0 }]
  methods := #[k2m0, k2m1]
  instanceTypes := #[]
  staticTypes := #[.long, .int]
  resolved := Array.replicate 125 none
  statics := none }

def pool3 : Array CpInfo := pool [(1, .class_ 2), (0, u "java/lang/Math"), (1, .class_ 6), (1, u "java/lang/Object"), (0, u "<init>"), (0, u "()V"), (89, .class_ 100), (1, u "java/lang/Math$RandomNumberGeneratorHolder"), (71, u "negativeZeroFloatBits"), (0, u "J"), (2, u "negativeZeroDoubleBits"), (21, u "max"), (46, u "$assertionsDisabled"), (0, u "Z"), (88, u "(II)I"), (2, u "twoToTheDoubleScaleDown"), (0, u "D"), (4, u "twoToTheDoubleScaleUp"), (9, u "E"), (3, u "PI"), (2, u "TAU"), (2, u "DEGREES_TO_RADIANS"), (0, u "RADIANS_TO_DEGREES")] 94

def k3m0 : Method := { name := "<init>", desc := "()V", sig := { parameters := [], returnType := none }, accessFlags := 2, code := none }
def k3c1 : Code := { maxStack := 2, maxLocals := 2, code := jdk_29_method_65_code, exceptionTable := #[], attributes := #[] }
def k3m1 : Method := { name := "max", desc := "(II)I", sig := { parameters := [.int, .int], returnType := some .int }, accessFlags := 9, code := some k3c1 }
/-- java/lang/Math -/
def k3 : Class := { plain "java/lang/Math" (some 0) with
  accessFlags := 49
  interfaces := #[]
  cf := some (fileOf pool3 1 #[.nestMembers #[98]] #[{ accessFlags := 2, nameIndex := 7, descriptorIndex := 8, attributes := #[] }, { accessFlags := 9, nameIndex := 198, descriptorIndex := 335, attributes := #[] }] 49 4 #[] #[{ accessFlags := 25, nameIndex := 354, descriptorIndex := 339, attributes := #[] }, { accessFlags := 25, nameIndex := 358, descriptorIndex := 339, attributes := #[] }, { accessFlags := 25, nameIndex := 361, descriptorIndex := 339, attributes := #[] }, { accessFlags := 26, nameIndex := 364, descriptorIndex := 339, attributes := #[] }, { accessFlags := 26, nameIndex := 365, descriptorIndex := 339, attributes := #[] }, { accessFlags := 26, nameIndex := 172, descriptorIndex := 173, attributes := #[] }, { accessFlags := 26, nameIndex := 176, descriptorIndex := 173, attributes := #[] }, { accessFlags := 8, nameIndex := 344, descriptorIndex := 339, attributes := #[] }, { accessFlags := 8, nameIndex := 338, descriptorIndex := 339, attributes := #[] }, { accessFlags := 4120, nameIndex := 245, descriptorIndex := 246, attributes := #[] }])
  fields := #[{ name := "E", type := .double, accessFlags := 25, slot := 0, constantValue := 0 }, { name := "PI", type := .double, accessFlags := 25, slot := 1, constantValue := 0 }, { name := "TAU", type := .double, accessFlags := 25, slot := 2, constantValue := 0 }, { name := "DEGREES_TO_RADIANS", type := .double, accessFlags := 26, slot := 3, constantValue := 0 }, { name := "RADIANS_TO_DEGREES", type := .double, accessFlags := 26, slot := 4, constantValue := 0 }, { name := "negativeZeroFloatBits", type := .long, accessFlags := 26, slot := 5, constantValue := 0 }, { name := "negativeZeroDoubleBits", type := .long, accessFlags := 26, slot := 6, constantValue := 0 }, { name := "twoToTheDoubleScaleUp", type := .double, accessFlags := 8, slot := 7, constantValue := 0 }, { name := "twoToTheDoubleScaleDown", type := .double, accessFlags := 8, slot := 8, constantValue := 0 }, { name := "$assertionsDisabled", type := .boolean, accessFlags := 4120, slot := 9, constantValue := 0 }]
  methods := #[k3m0, k3m1]
  instanceTypes := #[]
  staticTypes := #[.double, .double, .double, .double, .double, .long, .long, .double, .double, .boolean]
  resolved := Array.replicate 460 none
  statics := none }

def pool4 : Array CpInfo := pool [(1, u "java/lang/Cloneable"), (0, .class_ 1), (0, u "java/lang/Object"), (0, .class_ 3)] 3

/-- java/lang/Cloneable -/
def k4 : Class := { plain "java/lang/Cloneable" (some 0) with
  accessFlags := 1537
  interfaces := #[]
  cf := some (fileOf pool4 2 #[] #[] 1537 4 #[] #[])
  fields := #[]
  methods := #[]
  instanceTypes := #[]
  staticTypes := #[]
  resolved := Array.replicate 8 none
  statics := none }

def pool5 : Array CpInfo := pool [(1, u "java/io/Serializable"), (0, .class_ 1), (0, u "java/lang/Object"), (0, .class_ 3)] 3

/-- java/io/Serializable -/
def k5 : Class := { plain "java/io/Serializable" (some 0) with
  accessFlags := 1537
  interfaces := #[]
  cf := some (fileOf pool5 2 #[] #[] 1537 4 #[] #[])
  fields := #[]
  methods := #[]
  instanceTypes := #[]
  staticTypes := #[]
  resolved := Array.replicate 8 none
  statics := none }

/-- the primitive byte -/
def k6 : Class := { plain "byte" none with kind := .primitive 'B', accessFlags := 0x411 }
/-- [B -/
def k7 : Class := { plain "[B" (some 0) with kind := .array 6 .byte, interfaces := #[4, 5], accessFlags := 1041 }

/-- the primitive int -/
def k8 : Class := { plain "int" none with kind := .primitive 'I', accessFlags := 0x411 }
/-- [I -/
def k9 : Class := { plain "[I" (some 0) with kind := .array 8 .int, interfaces := #[4, 5], accessFlags := 1041 }

def heap : Heap := #[]
def classes : Array Class := #[k0, k1, k2, k3, k4, k5, k6, k7, k8, k9]
def interned : List (Array UInt16 × Addr) := []
def slotsUsed : Nat := 0
def theMethod : MethodId := ⟨1, 1⟩
def args0 : Array Value := #[.int 3, .int 5, .int 7, .int 9]
def aboutOver (below : List Frame) : State where
  vm := { classes := classes, interned := interned.toArray }
  heap := heap
  slotsUsed := slotsUsed
  threads := #[{ frames := .invoking theMethod args0 :: below }]
def below0 : List Frame := [.native { method := ⟨0, 0⟩, args := #[] }]
def about1 : State := aboutOver below0
def p0 : Program := .bare "" "" ""
def e0 : Env := launch0.env 0 0 0
theorem w_frames : about1.frames = Frame.invoking theMethod args0 :: below0 := rfl
set_option maxRecDepth 65536 in
theorem w_args : argsFit about1.vm theMethod args0 = true := by decide +kernel
set_option maxRecDepth 65536 in
theorem w_heap : heapFits about1 = true := by decide +kernel
set_option maxRecDepth 65536 in
theorem w_runnable : about1.curStatus? = some .runnable := by decide +kernel
set_option maxRecDepth 65536 in
theorem w_alone : about1.alone = true := by decide +kernel
set_option maxRecDepth 65536 in
theorem w_named : about1.methodNamed? x = some theMethod := by decide +kernel
set_option maxRecDepth 65536 in
theorem w_hears : about1.hears theMethod below0 = true := by decide +kernel
set_option maxRecDepth 65536 in
theorem w_ripe : about1.ripe theMethod args0 below0 = true := by decide +kernel
theorem w_running : about1.status = .running := rfl
set_option maxRecDepth 65536 in
theorem w_room : about1.hasRoom e0.platform room_1 = true :=
  launch0.hasRoom_least _ room_1 (by decide +kernel) (by decide +kernel) (by decide +kernel) (by decide +kernel) (by decide +kernel) (by decide +kernel)
theorem allAtoms_all (ts : List Jvm.Cond) (a : Array Jvm.Value) (st : Jvm.State) : (allAtoms ts).before a st = ts.all (fun c => c.before a st) := by
  induction ts with
  | nil => rfl
  | cons c t ih =>
    show (Jvm.Cond.and c (allAtoms t)).before a st = _
    rw [Jvm.Cond.before_and, ih, List.all_cons]
def words1 : List Jvm.Cond := Jvm.Cond.code x code maxLocals ret :: tables_1
/-- a 'code' word, met by the world's own term for the bytes: nothing is compared byte by byte -/
theorem code_word {y : MethodName} {bytes : ByteArray} {mx : Nat} {rt : Option FieldType} {a : Array Value} {s : State} {m : MethodId} {meth : Method} {c : Code} (h1 : s.methodNamed? y = some m) (h2 : s.vm.method? m = some meth) (h3 : meth.code = some c) (h4 : c.code = bytes)
    (h5 : (c.maxLocals == mx && c.exceptionTable.isEmpty && decide (c.maxStack ≤ mostOperands) && decide (meth.sig.returnType = rt) && !meth.locks && decide (parseMethodDescriptor y.desc = some meth.sig)) = true) : (Jvm.Cond.code y bytes mx rt).before a s = true := by
  simp only [Bool.and_eq_true, beq_iff_eq, Bool.not_eq_true', decide_eq_true_eq] at h5
  obtain ⟨⟨⟨⟨⟨g1, g2⟩, g3⟩, g4⟩, g5⟩, g6⟩ := h5
  simp [Cond.before, Cond.holds, Cond.value, h1, h2, h3, h4, g1, g2, g3, g4, g5, g6]
def isCode : Jvm.Cond → Bool
  | .code _ _ _ _ => true
  | _ => false
theorem all_split {L : List Jvm.Cond} {P : Jvm.Cond → Bool} (h1 : L.all (fun c => isCode c || P c) = true) (h2 : ∀ c ∈ L.filter isCode, P c = true) : L.all P = true := by
  refine List.all_eq_true.mpr fun c hc => ?_
  have h := List.all_eq_true.mp h1 c hc
  rcases Bool.eq_false_or_eq_true (isCode c) with hi | hi
  · exact h2 c (List.mem_filter.mpr ⟨hc, hi⟩)
  · simpa [hi] using h
set_option maxRecDepth 65536 in
theorem w_c0 : (Jvm.Cond.code x code maxLocals ret).before args0 about1 = true := code_word (m := ⟨1, 1⟩) (meth := k1m1) (c := k1c1) (by decide +kernel) rfl rfl rfl (by decide +kernel)
set_option maxRecDepth 65536 in
theorem w_c1 : (Jvm.Cond.code ({ cls := "weirstream/engine/WrittenNumberShortWholePinLaw", name := "pick", desc := "(IZ)B" } : Jvm.MethodName) method_3_code (2 : Nat) (Option.some Jvm.ClassFile.FieldType.byte)).before args0 about1 = true := code_word (m := ⟨1, 2⟩) (meth := k1m2) (c := k1c2) (by decide +kernel) rfl rfl rfl (by decide +kernel)
set_option maxRecDepth 65536 in
theorem w_c2 : (Jvm.Cond.code ({ cls := "weirstream/engine/WrittenNumber", name := "shortWhole", desc := "([BII)J" } : Jvm.MethodName) prog_166_method_7_code (8 : Nat) (Option.some Jvm.ClassFile.FieldType.long)).before args0 about1 = true := code_word (m := ⟨2, 1⟩) (meth := k2m1) (c := k2c1) (by decide +kernel) rfl rfl rfl (by decide +kernel)
set_option maxRecDepth 65536 in
theorem w_c3 : (Jvm.Cond.code ({ cls := "weirstream/engine/WrittenNumberShortWholePinLaw", name := "expected", desc := "(BBBBII)J" } : Jvm.MethodName) method_6_code (18 : Nat) (Option.some Jvm.ClassFile.FieldType.long)).before args0 about1 = true := code_word (m := ⟨1, 5⟩) (meth := k1m5) (c := k1c5) (by decide +kernel) rfl rfl rfl (by decide +kernel)
set_option maxRecDepth 65536 in
theorem w_c4 : (Jvm.Cond.code ({ cls := "weirstream/engine/WrittenNumberShortWholePinLaw", name := "digitOf", desc := "(B)I" } : Jvm.MethodName) method_4_code (1 : Nat) (Option.some Jvm.ClassFile.FieldType.int)).before args0 about1 = true := code_word (m := ⟨1, 3⟩) (meth := k1m3) (c := k1c3) (by decide +kernel) rfl rfl rfl (by decide +kernel)
set_option maxRecDepth 65536 in
theorem w_c5 : (Jvm.Cond.code ({ cls := "java/lang/Math", name := "max", desc := "(II)I" } : Jvm.MethodName) jdk_29_method_65_code (2 : Nat) (Option.some Jvm.ClassFile.FieldType.int)).before args0 about1 = true := code_word (m := ⟨3, 1⟩) (meth := k3m1) (c := k3c1) (by decide +kernel) rfl rfl rfl (by decide +kernel)
set_option maxRecDepth 65536 in
theorem w_c6 : (Jvm.Cond.code ({ cls := "weirstream/engine/WrittenNumberShortWholePinLaw", name := "pow10", desc := "(I)J" } : Jvm.MethodName) method_5_code (3 : Nat) (Option.some Jvm.ClassFile.FieldType.long)).before args0 about1 = true := code_word (m := ⟨1, 4⟩) (meth := k1m4) (c := k1c4) (by decide +kernel) rfl rfl rfl (by decide +kernel)
def codes1 : List Jvm.Cond := [Jvm.Cond.code x code maxLocals ret, Jvm.Cond.code ({ cls := "weirstream/engine/WrittenNumberShortWholePinLaw", name := "pick", desc := "(IZ)B" } : Jvm.MethodName) method_3_code (2 : Nat) (Option.some Jvm.ClassFile.FieldType.byte), Jvm.Cond.code ({ cls := "weirstream/engine/WrittenNumber", name := "shortWhole", desc := "([BII)J" } : Jvm.MethodName) prog_166_method_7_code (8 : Nat) (Option.some Jvm.ClassFile.FieldType.long), Jvm.Cond.code ({ cls := "weirstream/engine/WrittenNumberShortWholePinLaw", name := "expected", desc := "(BBBBII)J" } : Jvm.MethodName) method_6_code (18 : Nat) (Option.some Jvm.ClassFile.FieldType.long), Jvm.Cond.code ({ cls := "weirstream/engine/WrittenNumberShortWholePinLaw", name := "digitOf", desc := "(B)I" } : Jvm.MethodName) method_4_code (1 : Nat) (Option.some Jvm.ClassFile.FieldType.int), Jvm.Cond.code ({ cls := "java/lang/Math", name := "max", desc := "(II)I" } : Jvm.MethodName) jdk_29_method_65_code (2 : Nat) (Option.some Jvm.ClassFile.FieldType.int), Jvm.Cond.code ({ cls := "weirstream/engine/WrittenNumberShortWholePinLaw", name := "pow10", desc := "(I)J" } : Jvm.MethodName) method_5_code (3 : Nat) (Option.some Jvm.ClassFile.FieldType.long)]
set_option maxRecDepth 65536 in
theorem codes_eq : words1.filter isCode = codes1 := rfl
theorem w_codes : ∀ c ∈ words1.filter isCode, c.before args0 about1 = true := by
  rw [codes_eq]
  intro c hc
  simp only [codes1, List.mem_cons, List.not_mem_nil, or_false] at hc
  rcases hc with rfl | rfl | rfl | rfl | rfl | rfl | rfl
  · exact w_c0
  · exact w_c1
  · exact w_c2
  · exact w_c3
  · exact w_c4
  · exact w_c5
  · exact w_c6
set_option maxRecDepth 65536 in
theorem w_t1 : (words1.take 24).all (fun c => isCode c || c.before args0 about1) = true := by decide +kernel
set_option maxRecDepth 65536 in
theorem w_t2 : (words1.drop 24).all (fun c => isCode c || c.before args0 about1) = true := by decide +kernel
theorem w_tables : (allAtoms (Jvm.Cond.code x code maxLocals ret :: tables_1)).before args0 about1 = true := by
  rw [allAtoms_all]
  show words1.all (fun c => c.before args0 about1) = true
  refine all_split ?_ w_codes
  rw [← List.take_append_drop 24 words1, List.all_append, w_t1, w_t2]
  rfl
set_option maxRecDepth 65536 in
theorem w_case : (Jvm.Cond.and given_1 narrow_1).before args0 about1 = true := by decide +kernel
theorem w_applies : (headSpec (Jvm.Cond.code x code maxLocals ret :: tables_1) room_1).applies x e0.platform about1 = true :=
  (Spec.applies_iff w_frames).mpr ⟨w_running, w_runnable, w_alone, w_named, w_hears, w_ripe, w_room, w_tables⟩
theorem atStart : AtStart classFile x code maxLocals ret World_1 tables_1 room_1 Calls_1 rest_1 Pre_1 launch0 p0 e0 about1 theMethod args0 below0 :=
  ⟨lists_1, trivial, launch0.admits_env _ _ _, launch0.least_env, fairChoices_fair.cas, fairChoices_fair.clock, w_frames, w_args, w_heap, w_applies, trivial, trivial, w_case⟩
end start1
theorem witness_1 : WitnessClaimed_1 := ⟨start1.p0, start1.e0, start1.about1, start1.theMethod, start1.args0, start1.below0, start1.atStart⟩
end Jvm.Pilot.@@N@@
