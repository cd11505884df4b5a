import JvmDerived
import JvmDerived.Pilot.@@N@@Statement
import JvmDerived.Pilot.@@N@@Code
set_option linter.unusedVariables false
set_option linter.unusedSimpArgs false
namespace Jvm.RoadKit
open Sem ClassFile Op Lib Jvm.Stand Jvm.Free Jvm.LawKit
section New
variable {p : Program} {l : Launch} {e : Env} {R : Room} {s : State} {m : MethodId} {args : Array Value} {below : List Frame} {meth : Method} {c : Code} {T : State} {locs : List Loc} {cells slots : Nat}
theorem retI (X : Stand p l e R s m args below meth c T locs cells slots) (hx : p.tables.exec = Jvm.exec) {pc : Nat} {Ls : Array Slot} {z : Int32} {rest : List Value} (hret : meth.sig.returnType = some .int) (hd : decode c.code pc = .ok (.ireturn, 1)) {fs : List Frame}
    (hl : ∀ (f : JFrame) (acts : List Action), f.method = m → f.locked = none → f.entered = [] → (doReturn e (T.setTop f) acts (some (.int z))).1 = T.setFrames fs) : Steps p.tables e below (T.setTop (mkF m pc Ls (.int z :: rest))) (T.setFrames fs) := by
  have hm' : T.vm.method? m = some meth := X.method'
  have hn : narrow .int (.int z) = .int z := rfl
  show Steps p.tables e below (T.setTop { method := m, pc := pc, locals := Ls, stack := _ :: rest, locked := none }) _
  jvm_step X.here [X.here.top, hx, hd, hm', hret, hn]
  first | (intro acts; rw [hl _ acts rfl rfl rfl]) | rw [hl _ _ rfl rfl rfl]
  exact Steps.refl _
end New
end Jvm.RoadKit
namespace Jvm.Pilot.@@N@@
open Jvm Jvm.ClassFile Sem Op Lib Jvm.Free Jvm.Stand Jvm.LawKit Jvm.RoadKit Bundle Jvm.Pilot.@@N@@.Jvm.D
section OwnKit
/-- the rest of a body ends well: from the state U on it comes to its end, what it returns and leaves is as Q says -/
def Done (p : Program) (e : Env) (below : List Frame) (s : State) (Q : Option Value → Heap → List Loc → Prop) (C S : Nat) (U : State) : Prop :=
  ∃ s₂ o, Steps p.tables e below U s₂ ∧ s₂.status = .running ∧ Ended s₂ below o ∧ ∃ v L, o = .returned v ∧ Q v s₂.heap L ∧ FrameEnd s o s₂ L C S
variable {p : Program} {l : Launch} {e : Env} {R : Room} {s : State} {m : MethodId} {args : Array Value} {below : List Frame} {meth : Method} {c : Code} {T U U' : State} {locs : List Loc} {cells slots C S : Nat} {Q : Option Value → Heap → List Loc → Prop}
theorem Done.step (h : ∀ t, Steps p.tables e below U' t → Steps p.tables e below U t) (d : Done p e below s Q C S U') : Done p e below s Q C S U := by
  obtain ⟨s₂, o, h1, r⟩ := d
  exact ⟨s₂, o, h _ h1, r⟩
theorem Done.far (h : Steps p.tables e below U U') (d : Done p e below s Q C S U') : Done p e below s Q C S U := by
  obtain ⟨s₂, o, h1, r⟩ := d
  exact ⟨s₂, o, h.trans h1, r⟩
theorem Done.mono {Q' : Option Value → Heap → List Loc → Prop} (d : Done p e below s Q C S U) (h : ∀ v h L, Q v h L → Q' v h L) : Done p e below s Q' C S U := by
  obtain ⟨s₂, o, h1, h2, h3, v, L, h4, h5, h6⟩ := d
  exact ⟨s₂, o, h1, h2, h3, v, L, h4, h _ _ _ h5, h6⟩
theorem Done.int (X : Stand p l e R s m args below meth c T locs cells slots) (hx : p.tables.exec = Jvm.exec) (hlk : meth.locks = false) (hret : meth.sig.returnType = some .int) {pc : Nat} {Ls : Array Slot} {z : Int32} {rest : List Value} (hd : decode c.code pc = .ok (.ireturn, 1)) (hc : cells ≤ C) (hs : slots ≤ S)
    (hq : Q (some (.int z)) T.heap locs) : Done p e below s Q C S (T.setTop (mkF m pc Ls (.int z :: rest))) := by
  obtain ⟨fs, hr, hrun, hended, hW, hsame⟩ := X.leave (v := some (.int z)) (fun h => by rw [hret] at h; cases h)
  exact ⟨_, _, retI X hx hret hd hr, hrun, hended, _, _, rfl, hq, ⟨_, rfl⟩, hW, hsame.mono hc hs⟩
theorem Done.narr (X : Stand p l e R s m args below meth c T locs cells slots) (hx : p.tables.exec = Jvm.exec) (hlk : meth.locks = false) {t : FieldType} (hret : meth.sig.returnType = some t) (ht : t = .boolean ∨ t = .byte ∨ t = .char ∨ t = .short) {pc : Nat} {Ls : Array Slot} {z : Int32} {rest : List Value} (hd : decode c.code pc = .ok (.ireturn, 1)) (hc : cells ≤ C) (hs : slots ≤ S)
    (hq : Q (some (.int (nar t z))) T.heap locs) : Done p e below s Q C S (T.setTop (mkF m pc Ls (.int z :: rest))) := by
  obtain ⟨fs, hr, hrun, hended, hW, hsame⟩ := X.leave (v := some (.int (nar t z))) (fun h => by rw [hret] at h; cases h)
  exact ⟨_, _, retN X hx hret ht hd hr, hrun, hended, _, _, rfl, hq, ⟨_, rfl⟩, hW, hsame.mono hc hs⟩
theorem Done.long (X : Stand p l e R s m args below meth c T locs cells slots) (hx : p.tables.exec = Jvm.exec) (hlk : meth.locks = false) (hret : meth.sig.returnType = some .long) {pc : Nat} {Ls : Array Slot} {z : Int64} {rest : List Value} (hd : decode c.code pc = .ok (.lreturn, 1)) (hc : cells ≤ C) (hs : slots ≤ S)
    (hq : Q (some (.long z)) T.heap locs) : Done p e below s Q C S (T.setTop (mkF m pc Ls (.long z :: rest))) := by
  obtain ⟨fs, hr, hrun, hended, hW, hsame⟩ := X.leave (v := some (.long z)) (fun h => by rw [hret] at h; cases h)
  exact ⟨_, _, retOut X hx hret rfl (Or.inr (Or.inl ⟨rfl, rfl, z, rfl⟩)) hd hr, hrun, hended, _, _, rfl, hq, ⟨_, rfl⟩, hW, hsame.mono hc hs⟩
theorem Done.ref (X : Stand p l e R s m args below meth c T locs cells slots) (hx : p.tables.exec = Jvm.exec) (hlk : meth.locks = false) {t : FieldType} (hret : meth.sig.returnType = some t) (ht : t.isReference = true) {pc : Nat} {Ls : Array Slot} {w : Value} {rest : List Value} (hw : w.isRef = true) (hn : narrow t w = w) (hd : decode c.code pc = .ok (.areturn, 1)) (hc : cells ≤ C) (hs : slots ≤ S)
    (hq : Q (some w) T.heap locs) : Done p e below s Q C S (T.setTop (mkF m pc Ls (w :: rest))) := by
  obtain ⟨fs, hr, hrun, hended, hW, hsame⟩ := X.leave (v := some w) (fun h => by rw [hret] at h; cases h)
  exact ⟨_, _, retOut X hx hret hn (Or.inr (Or.inr (Or.inr (Or.inr ⟨rfl, ht, hw⟩)))) hd hr, hrun, hended, _, _, rfl, hq, ⟨_, rfl⟩, hW, hsame.mono hc hs⟩
theorem Done.void (X : Stand p l e R s m args below meth c T locs cells slots) (hx : p.tables.exec = Jvm.exec) (hlk : meth.locks = false) (hret : meth.sig.returnType = none) {pc : Nat} {Ls : Array Slot} (hd : decode c.code pc = .ok (.return_, 1)) (hc : cells ≤ C) (hs : slots ≤ S)
    (hq : Q none T.heap locs) : Done p e below s Q C S (T.setTop (mkF m pc Ls [])) := by
  obtain ⟨fs, hr, hrun, hended, hW, hsame⟩ := X.leave (v := none) (fun _ => rfl)
  exact ⟨_, _, X.returnOut hx hret hd hr, hrun, hended, _, _, rfl, hq, ⟨_, rfl⟩, hW, hsame.mono hc hs⟩
variable {Z : State} {h h' h0 : Heap} {a b : Addr} {ty : FieldType} {vs : List Value} {sl : Nat} {v x : Value} {ws : List Addr} {j : Int32} {g : JFrame} {rest : List Value}
/-- an array whose slots are just the list vs -/
def Ax (Z : State) (h : Heap) (a : Addr) (ty : FieldType) (vs : List Value) : Prop := ∃ c : Cell, Arr Z h a c ty ∧ c.slots = vs.toArray
theorem Ax.lt (F : Ax Z h a ty vs) : a < h.size := by obtain ⟨c, A, -⟩ := F; exact A.lt
theorem Ax.ext (F : Ax Z h a ty vs) (E : Ext h h') : Ax Z h' a ty vs := by obtain ⟨c, A, r⟩ := F; exact ⟨c, A.ext E, r⟩
theorem Ax.other (F : Ax Z h b ty vs) (W : Wr h h' a sl v) (q : b ≠ a) : Ax Z h' b ty vs := by obtain ⟨c, A, r⟩ := F; exact ⟨c, A.other W q, r⟩
theorem Ax.keep (F : Ax Z h a ty vs) (K : Keep h h' ws) (q : a ∉ ws) : Ax Z h' a ty vs := by obtain ⟨c, A, r⟩ := F; exact ⟨c, ⟨K.2.1 a c A.1 q, A.2⟩, r⟩
theorem own_stakeep {C n d : String} (F : Sta Z h C n d v) (K : Keep h h' ws) (q : ∀ y ∈ ws, ∃ cell : Cell, h[y]? = some cell ∧ cell.vm.isStatics = false) : Sta Z h' C n d v := by
  obtain ⟨cf, i, k, f, st, cell, h1, h2, h3, h4, h5, h6, h7⟩ := F
  refine ⟨cf, i, k, f, st, cell, h1, h2, h3, h4, K.2.1 st cell h5 (fun z => ?_), h6, h7⟩
  obtain ⟨c', g1, g2⟩ := q st z
  cases h5.symm.trans g1; rw [g2] at h6; cases h6
theorem own_unst {C : String} (F : Exa Z h a C) : ∃ cell : Cell, h[a]? = some cell ∧ cell.vm.isStatics = false := by
  obtain ⟨cell, k, h1, -, -, h4, -⟩ := F; exact ⟨cell, h1, h4⟩
theorem fld_long {t : Term} {D n d : String} {k : Int64} {y : Addr} {av : Array Value} (hh : (Jvm.Cond.eq (Term.field t D n d) (Term.long k)).value av Z none Z [] = some true) (ht : t.eval av Z none [] Z = some (.ref y)) : Fld Z Z.heap y D n d (.long k) := by
  obtain ⟨u, w, e1, e2, k1, k2⟩ := cmp_v (Or.inl hh)
  have e3 : (Term.long k).eval av Z none [] Z = some (.long k) := rfl
  rw [e3] at e2; cases e2
  obtain ⟨z, rfl⟩ := k2
  have q := gotT (eq_L e1 e3) hh
  subst q
  rw [fld_at ht] at e1
  exact Fld.start e1
theorem fld_int {t : Term} {D n d : String} {k : Int32} {y : Addr} {av : Array Value} (hh : (Jvm.Cond.eq (Term.field t D n d) (Term.int k)).value av Z none Z [] = some true) (ht : t.eval av Z none [] Z = some (.ref y)) : Fld Z Z.heap y D n d (.int k) := by
  obtain ⟨u, w, e1, e2, k1, k2⟩ := cmp_v (Or.inl hh)
  have e3 : (Term.int k).eval av Z none [] Z = some (.int k) := rfl
  rw [e3] at e2; cases e2
  obtain ⟨z, rfl⟩ := k2
  have q : z = k := by simpa [Jvm.Cond.value, e1, e3] using hh
  subst q
  rw [fld_at ht] at e1
  exact Fld.start e1
theorem Ax.set (F : Ax Z h a ty vs) (W : Wr h h' a sl v) : Ax Z h' a ty (vs.set sl v) := by
  obtain ⟨c, A, r⟩ := F
  exact ⟨_, A.same W, by rw [show (c.setSlot sl v).slots = c.slots.setIfInBounds sl v from rfl, r, List.setIfInBounds_toArray]⟩
theorem Ax.new {k : ClassId} {n : Int32} {i : Nat} (A : Arr Z h a (newA k ty n) ty) (hi : n.toNatClampNeg = i) : Ax Z h a ty (List.replicate i (defaultValue ty)) :=
  ⟨_, A, by rw [show (newA k ty n).slots = Array.replicate n.toNatClampNeg (defaultValue ty) from rfl, hi, List.toArray_replicate]⟩
theorem Ax.size {c : Cell} (r : c.slots = vs.toArray) : c.slots.size = vs.length := by rw [r, List.size_toArray]
theorem Ax.inb {c : Cell} (r : c.slots = vs.toArray) (hj : ¬ j < 0) (hl : j.toNatClampNeg < vs.length) : ¬ (j < 0 ∨ c.slots.size ≤ j.toNatClampNeg) := fun q => q.elim hj fun u => by
  rw [Ax.size r] at u; exact absurd hl (Nat.not_lt.mpr u)
theorem Ax.get {c : Cell} (r : c.slots = vs.toArray) (hat : vs[j.toNatClampNeg]? = some x) : c.slots[j.toNatClampNeg]? = some x := by rw [r, List.getElem?_toArray]; exact hat
theorem Ax.lens (hat : vs[j.toNatClampNeg]? = some x) : j.toNatClampNeg < vs.length := (List.getElem?_eq_some_iff.mp hat).1
theorem ldI (X : Stand p l e R s m args below meth c T locs cells slots) (hx : p.tables.exec = Jvm.exec) (hZ : Z.Warmed39 s.vm) (eT : T.heap = h) (F : Ax Z h a .int vs) (hj : ¬ j < 0) (hat : vs[j.toNatClampNeg]? = some x) (hg : g.method = m) (hs : g.stack = .int j :: .ref a :: rest) (hd : decode c.code g.pc = .ok (.iaload, 1)) :
    ∀ target, Steps p.tables e below (T.setTop { g with pc := g.pc + 1, stack := x :: rest }) target → Steps p.tables e below (T.setTop g) target := by
  obtain ⟨cl, A, r⟩ := F
  exact X.iaload hx (by rw [eT]; exact A.1) (State.isArrayOf_alike hZ.alike A.2.1) A.2.2 (Ax.inb r hj (Ax.lens hat)) (Ax.get r hat) hg hs hd
theorem ldJ (X : Stand p l e R s m args below meth c T locs cells slots) (hx : p.tables.exec = Jvm.exec) (hZ : Z.Warmed39 s.vm) (eT : T.heap = h) (F : Ax Z h a .long vs) (hj : ¬ j < 0) (hat : vs[j.toNatClampNeg]? = some x) (hg : g.method = m) (hs : g.stack = .int j :: .ref a :: rest) (hd : decode c.code g.pc = .ok (.laload, 1)) :
    ∀ target, Steps p.tables e below (T.setTop { g with pc := g.pc + 1, stack := x :: rest }) target → Steps p.tables e below (T.setTop g) target := by
  obtain ⟨cl, A, r⟩ := F
  exact X.laload hx (by rw [eT]; exact A.1) (State.isArrayOf_alike hZ.alike A.2.1) A.2.2 (Ax.inb r hj (Ax.lens hat)) (Ax.get r hat) hg hs hd
theorem ldB (X : Stand p l e R s m args below meth c T locs cells slots) (hx : p.tables.exec = Jvm.exec) (hZ : Z.Warmed39 s.vm) (eT : T.heap = h) (F : Ax Z h a .byte vs) (hj : ¬ j < 0) (hat : vs[j.toNatClampNeg]? = some x) (hg : g.method = m) (hs : g.stack = .int j :: .ref a :: rest) (hd : decode c.code g.pc = .ok (.baload, 1)) :
    ∀ target, Steps p.tables e below (T.setTop { g with pc := g.pc + 1, stack := x :: rest }) target → Steps p.tables e below (T.setTop g) target := by
  obtain ⟨cl, A, r⟩ := F
  exact X.baloadBytes hx (by rw [eT]; exact A.1) (State.isArrayOf_alike hZ.alike A.2.1) A.2.2 (Ax.inb r hj (Ax.lens hat)) (Ax.get r hat) hg hs hd
theorem ldZ (X : Stand p l e R s m args below meth c T locs cells slots) (hx : p.tables.exec = Jvm.exec) (hZ : Z.Warmed39 s.vm) (eT : T.heap = h) (F : Ax Z h a .boolean vs) (hj : ¬ j < 0) (hat : vs[j.toNatClampNeg]? = some x) (hg : g.method = m) (hs : g.stack = .int j :: .ref a :: rest) (hd : decode c.code g.pc = .ok (.baload, 1)) :
    ∀ target, Steps p.tables e below (T.setTop { g with pc := g.pc + 1, stack := x :: rest }) target → Steps p.tables e below (T.setTop g) target := by
  obtain ⟨cl, A, r⟩ := F
  exact X.baloadBooleans hx (by rw [eT]; exact A.1) (State.isArrayOf_alike hZ.alike A.2.1) A.2.2 (Ax.inb r hj (Ax.lens hat)) (Ax.get r hat) hg hs hd
theorem lenA (X : Stand p l e R s m args below meth c T locs cells slots) (hx : p.tables.exec = Jvm.exec) (hZ : Z.Warmed39 s.vm) (eT : T.heap = h) (F : Ax Z h a ty vs) {n : Int32} (hn : vs.length.toInt32 = n) (hg : g.method = m) (hs : g.stack = .ref a :: rest) (hd : decode c.code g.pc = .ok (.arraylength, 1)) :
    ∀ target, Steps p.tables e below (T.setTop { g with pc := g.pc + 1, stack := .int n :: rest }) target → Steps p.tables e below (T.setTop g) target := by
  obtain ⟨cl, A, r⟩ := F
  intro target k
  refine X.arraylength hx (by rw [eT]; exact A.1) (State.isArrayOf_alike hZ.alike A.2.1) hg hs hd target ?_
  rw [Ax.size r, hn]; exact k
theorem stoI (X : Stand p l e R s m args below meth c T locs cells slots) (hx : p.tables.exec = Jvm.exec) (hZ : Z.Warmed39 s.vm) (eT : T.heap = h) (F : Ax Z h a .int vs) {y : Int32} (hj : ¬ j < 0) {i : Nat} (hi : j.toNatClampNeg = i) (hl : i < vs.length) (hg : g.method = m) (hs : g.stack = .int y :: .int j :: .ref a :: rest) (hd : decode c.code g.pc = .ok (.iastore, 1)) :
    ∃ T' h', Stand p l e R s m args below meth c T' (locs ++ [⟨a, j.toNatClampNeg⟩]) cells slots ∧ T'.heap = h' ∧ Wr h h' a j.toNatClampNeg (.int y) ∧ Ax Z h' a .int (vs.set i (.int y)) ∧ ∀ target, Steps p.tables e below (T'.setTop { g with pc := g.pc + 1, stack := rest }) target → Steps p.tables e below (T.setTop g) target := by
  obtain ⟨cl, A, r⟩ := F
  obtain ⟨T', h', X', e', W, st⟩ := stI X hx hZ eT A (Ax.inb r hj (by rw [hi]; exact hl)) hg hs hd
  exact ⟨T', h', X', e', W, hi ▸ Ax.set ⟨cl, A, r⟩ W, st⟩
theorem stoJ (X : Stand p l e R s m args below meth c T locs cells slots) (hx : p.tables.exec = Jvm.exec) (hZ : Z.Warmed39 s.vm) (eT : T.heap = h) (F : Ax Z h a .long vs) {y : Int64} (hj : ¬ j < 0) {i : Nat} (hi : j.toNatClampNeg = i) (hl : i < vs.length) (hg : g.method = m) (hs : g.stack = .long y :: .int j :: .ref a :: rest) (hd : decode c.code g.pc = .ok (.lastore, 1)) :
    ∃ T' h', Stand p l e R s m args below meth c T' (locs ++ [⟨a, j.toNatClampNeg⟩]) cells slots ∧ T'.heap = h' ∧ Wr h h' a j.toNatClampNeg (.long y) ∧ Ax Z h' a .long (vs.set i (.long y)) ∧ ∀ target, Steps p.tables e below (T'.setTop { g with pc := g.pc + 1, stack := rest }) target → Steps p.tables e below (T.setTop g) target := by
  obtain ⟨cl, A, r⟩ := F
  obtain ⟨T', h', X', e', W, st⟩ := stJ X hx hZ eT A (Ax.inb r hj (by rw [hi]; exact hl)) hg hs hd
  exact ⟨T', h', X', e', W, hi ▸ Ax.set ⟨cl, A, r⟩ W, st⟩
theorem stoB (X : Stand p l e R s m args below meth c T locs cells slots) (hx : p.tables.exec = Jvm.exec) (hZ : Z.Warmed39 s.vm) (eT : T.heap = h) (F : Ax Z h a .byte vs) {y : Int32} (hj : ¬ j < 0) {i : Nat} (hi : j.toNatClampNeg = i) (hl : i < vs.length) (hg : g.method = m) (hs : g.stack = .int y :: .int j :: .ref a :: rest) (hd : decode c.code g.pc = .ok (.bastore, 1)) :
    ∃ T' h', Stand p l e R s m args below meth c T' (locs ++ [⟨a, j.toNatClampNeg⟩]) cells slots ∧ T'.heap = h' ∧ Wr h h' a j.toNatClampNeg (.int (nar .byte y)) ∧ Ax Z h' a .byte (vs.set i (.int (nar .byte y))) ∧ ∀ target, Steps p.tables e below (T'.setTop { g with pc := g.pc + 1, stack := rest }) target → Steps p.tables e below (T.setTop g) target := by
  obtain ⟨cl, A, r⟩ := F
  obtain ⟨T', h', X', e', W, st⟩ := stB X hx hZ eT A (Ax.inb r hj (by rw [hi]; exact hl)) hg hs hd
  exact ⟨T', h', X', e', W, hi ▸ Ax.set ⟨cl, A, r⟩ W, st⟩
theorem stoZ (X : Stand p l e R s m args below meth c T locs cells slots) (hx : p.tables.exec = Jvm.exec) (hZ : Z.Warmed39 s.vm) (eT : T.heap = h) (F : Ax Z h a .boolean vs) {y : Int32} (hj : ¬ j < 0) {i : Nat} (hi : j.toNatClampNeg = i) (hl : i < vs.length) (hg : g.method = m) (hs : g.stack = .int y :: .int j :: .ref a :: rest) (hd : decode c.code g.pc = .ok (.bastore, 1)) :
    ∃ T' h', Stand p l e R s m args below meth c T' (locs ++ [⟨a, j.toNatClampNeg⟩]) cells slots ∧ T'.heap = h' ∧ Wr h h' a j.toNatClampNeg (.int (nar .boolean y)) ∧ Ax Z h' a .boolean (vs.set i (.int (nar .boolean y))) ∧ ∀ target, Steps p.tables e below (T'.setTop { g with pc := g.pc + 1, stack := rest }) target → Steps p.tables e below (T.setTop g) target := by
  obtain ⟨cl, A, r⟩ := F
  obtain ⟨T', h', X', e', W, st⟩ := stZ X hx hZ eT A (Ax.inb r hj (by rw [hi]; exact hl)) hg hs hd
  exact ⟨T', h', X', e', W, hi ▸ Ax.set ⟨cl, A, r⟩ W, st⟩
theorem cloX (X : Stand p l e R s m args below meth c T locs cells slots) (hx : p.tables.exec = Jvm.exec) (hZ : Z.Warmed39 s.vm) {a0 : Array Value} {own ad : String} {index : Nat} (hown : s.vm.findClass own = some m.cls)
    (w1 : (Cond.methodLink own index ⟨ad, "clone", "()Ljava/lang/Object;"⟩).before a0 Z = true) (w2 : (Cond.sameMethod ad "java/lang/Object" "clone" "()Ljava/lang/Object;").before a0 Z = true) (w3 : (Cond.native ⟨"java/lang/Object", "clone", "()Ljava/lang/Object;"⟩).before a0 Z = true)
    (w4 : (Cond.instanceMethod ⟨"java/lang/Object", "clone", "()Ljava/lang/Object;"⟩).before a0 Z = true) (w5 : (Cond.selects ad ⟨ad, "clone", "()Ljava/lang/Object;"⟩ ⟨"java/lang/Object", "clone", "()Ljava/lang/Object;"⟩).before a0 Z = true) (w6 : (Cond.castable ad "java/lang/Cloneable").before a0 Z = true)
    (eT : T.heap = h) (F : Ax Z h a ty vs) (E : Exa Z h a ad) (G : ∀ v ∈ vs, fits ty v = true) (hg : g.method = m) (hsize : g.locals.size = c.maxLocals) (hs : g.stack = .ref a :: rest) (hd : decode c.code g.pc = .ok (.invokevirtual index, 3))
    (hf : 1 ≤ R.frames) {W cap : Nat} (hW : 2 * g.monitorRoom + (rest.map fun v => v.category).sum ≤ W) (hl : W + 14 ≤ R.locals) (hcap : vs.length ≤ cap) (hc : cells + 1 ≤ R.cells) (hsl : slots + cap ≤ R.slots) :
    ∃ T' h', Stand p l e R s m args below meth c T' locs (cells + 1) (slots + cap) ∧ T'.heap = h' ∧ Ext h h' ∧ Ax Z h' h.size ty vs ∧ Exa Z h' h.size ad ∧
      ∀ target, Steps p.tables e below (T'.setTop { g with pc := g.pc + 3, stack := .ref h.size :: rest }) target → Steps p.tables e below (T.setTop g) target := by
  obtain ⟨cl, A, r⟩ := F
  have FC : FitC Z cl := fitC_of A fun i hi v hv => by
    rw [r, List.getElem?_toArray] at hv
    exact G v (List.mem_of_getElem? hv)
  obtain ⟨T', h', X', e', ex, A', E', st⟩ := cloneA X hx hZ hown w1 w2 w3 w4 w5 w6 eT A E FC hg hsize hs hd hf hW hl (by rw [Ax.size r]; exact hcap) hc hsl
  exact ⟨T', h', X', e', ex, ⟨cloneOf cl, A', r⟩, E', st⟩
end OwnKit
theorem pd_0 : parseMethodDescriptor "(JJ)J" = some ⟨[.long, .long], some .long⟩ := by decide +kernel
theorem pd_1 : parseMethodDescriptor "()J" = some ⟨[], some .long⟩ := by decide +kernel
theorem pd_2 : parseMethodDescriptor "(J)J" = some ⟨[.long], some .long⟩ := by decide +kernel
theorem pd_3 : parseMethodDescriptor "(Lweirstream/engine/WindowAxis;JJ)V" = some ⟨[(.object "weirstream/engine/WindowAxis"), .long, .long], none⟩ := by decide +kernel
theorem d8_0 : decode jdk_29_method_66_code 0 = .ok (.lload_n 0, 1) := by decide +kernel
theorem d8_1 : decode jdk_29_method_66_code 1 = .ok (.lload_n 2, 1) := by decide +kernel
theorem d8_2 : decode jdk_29_method_66_code 2 = .ok (.lcmp, 1) := by decide +kernel
theorem d8_3 : decode jdk_29_method_66_code 3 = .ok (.ifCond .lt 7, 3) := by decide +kernel
theorem d8_6 : decode jdk_29_method_66_code 6 = .ok (.lload_n 0, 1) := by decide +kernel
theorem d8_7 : decode jdk_29_method_66_code 7 = .ok (.goto 4, 3) := by decide +kernel
theorem d8_10 : decode jdk_29_method_66_code 10 = .ok (.lload_n 2, 1) := by decide +kernel
theorem d8_11 : decode jdk_29_method_66_code 11 = .ok (.lreturn, 1) := by decide +kernel
def F8 (q1 : Int64) (q2 : Int64) : Int64 := (if q1 < q2 then q2
  else q1)
theorem ef_8 (m : MethodId) (q1 : Int64) (q2 : Int64) : entryFrame m #[(.long q1), (.long q2)] 4 = mkF m 0 #[.val (.long q1), .second, .val (.long q2), .second] [] := by first | (simp [entryFrame, mkF, argsToLocals, Value.category]; done) | rfl
def Qrm8 (Z : State) (q1 : Int64) (q2 : Int64) (h0 : Heap) (n0 : Nat) : Option Value → Heap → List Loc → Prop := fun v h L => v = some (.long (F8 q1 q2)) ∧ Fr n0 L ∧ h = h0
set_option maxRecDepth 65536 in
set_option maxHeartbeats 40000000 in
theorem rm8 (l : Launch) (Z : State) (a0 : Array Value) (hw : ∀ d ∈ tables_1, d.before a0 Z = true) (ws : List Jvm.Cond) (q1 : Int64) (q2 : Int64) (h0 : Heap) (n0 : Nat) (Z0 : n0 ≤ h0.size) :
    MetFree l (⟨"java/lang/Math", "max", "(JJ)J"⟩ : MethodName) (head1 (Jvm.Cond.code (⟨"java/lang/Math", "max", "(JJ)J"⟩ : MethodName) jdk_29_method_66_code 4 (some .long) :: ws) ({ frames := 0, cells := 0, slots := 0, locals := 0 } : Room)) (fun a U => a = #[(.long q1), (.long q2)] ∧ Z.Warmed39 U.vm ∧ U.heap = h0) (fun _ _ _ _ _ => True) (fun _ U o U' => ∃ v L, o = .returned v ∧ Qrm8 Z q1 q2 h0 n0 v U'.heap L ∧ FrameEnd U o U' L ({ frames := 0, cells := 0, slots := 0, locals := 0 } : Room).cells ({ frames := 0, cells := 0, slots := 0, locals := 0 } : Room).slots) := by
  refine MetFree.of_bodySF (Jvm.Free.JP.mathPlain rfl (by decide +kernel)) hisR ?_
  intro p e s m args below meth c s₁ Bd hml0 hP hK
  obtain ⟨rfl, hZ, hh⟩ := hP
  have hx := Bd.exec
  have hby := Bd.bytes
  have hml : c.maxLocals = 4 := hml0
  have hown : s.vm.findClass "java/lang/Math" = some m.cls := findClass_of_methodNamed Bd.named
  have hnm := (name_of_methodNamed Bd.named Bd.method).1
  have hlk : meth.locks = false := BodyLoose.notSynchronized Bd
  have hret := Bd.returns
  have X0 : Stand p l e ({ frames := 0, cells := 0, slots := 0, locals := 0 } : Room) s m #[(.long q1), (.long q2)] below meth c s₁ [] 0 0 := Stand.of_body Bd
  have e0 : s₁.heap = h0 := by rw [← hh, Bd.state]; rfl
  have N0 := Fr.nil n0
  show Done p e below s (Qrm8 Z q1 q2 h0 n0) ({ frames := 0, cells := 0, slots := 0, locals := 0 } : Room).cells ({ frames := 0, cells := 0, slots := 0, locals := 0 } : Room).slots (s₁.setTop (entryFrame m #[(.long q1), (.long q2)] 4))
  refine Done.step (fun t k => castTop (ef_8 m q1 q2) k) ?_
  show Done p e below s _ _ _ (s₁.setTop (mkF m 0 #[.val (.long q1), .second, .val (.long q2), .second] []))
  refine Done.step (fun t k => XS.lloadN X0.here hx rfl (hb hby d8_0) rfl k) ?_
  show Done p e below s _ _ _ (s₁.setTop (mkF m 1 #[.val (.long q1), .second, .val (.long q2), .second] [(.long q1)]))
  refine Done.step (fun t k => XS.lloadN X0.here hx rfl (hb hby d8_1) rfl k) ?_
  show Done p e below s _ _ _ (s₁.setTop (mkF m 2 #[.val (.long q1), .second, .val (.long q2), .second] [(.long q2), (.long q1)]))
  refine Done.step (fun t k => XS.lcmp X0.here hx rfl (hb hby d8_2) rfl k) ?_
  show Done p e below s _ _ _ (s₁.setTop (mkF m 3 #[.val (.long q1), .second, .val (.long q2), .second] [(.int (lcmpW q1 q2))]))
  by_cases c1 : q1 < q2
  · refine Done.step (fun t k => XS.ifYes X0.here hx rfl (pc0 := 3) (pc' := 10) rfl (hb hby d8_3) rfl ((if0 _ _).trans (tlt ((lw_lt _ _).mpr c1)).1) (by decide) (by decide) k) ?_
    show Done p e below s _ _ _ (s₁.setTop (mkF m 10 #[.val (.long q1), .second, .val (.long q2), .second] []))
    refine Done.step (fun t k => XS.lloadN X0.here hx rfl (hb hby d8_10) rfl k) ?_
    show Done p e below s _ _ _ (s₁.setTop (mkF m 11 #[.val (.long q1), .second, .val (.long q2), .second] [(.long q2)]))
    exact Done.long X0 hx hlk hret (hb hby d8_11) (by decide) (by decide) ⟨by rw [show F8 q1 q2 = q2 from by unfold F8; rw [if_pos c1]] <;> rfl, N0, e0⟩
  · refine Done.step (fun t k => XS.ifNo X0.here hx rfl (hb hby d8_3) rfl ((if0 _ _).trans (flt (fun q_ => c1 ((lw_lt _ _).mp q_))).1) k) ?_
    show Done p e below s _ _ _ (s₁.setTop (mkF m 6 #[.val (.long q1), .second, .val (.long q2), .second] []))
    refine Done.step (fun t k => XS.lloadN X0.here hx rfl (hb hby d8_6) rfl k) ?_
    show Done p e below s _ _ _ (s₁.setTop (mkF m 7 #[.val (.long q1), .second, .val (.long q2), .second] [(.long q1)]))
    refine Done.step (fun t k => XS.goto X0.here hx rfl (pc0 := 7) (pc' := 11) rfl (hb hby d8_7) (by decide) (by decide) k) ?_
    show Done p e below s _ _ _ (s₁.setTop (mkF m 11 #[.val (.long q1), .second, .val (.long q2), .second] [(.long q1)]))
    exact Done.long X0 hx hlk hret (hb hby d8_11) (by decide) (by decide) ⟨by rw [show F8 q1 q2 = q1 from by unfold F8; rw [if_neg c1]] <;> rfl, N0, e0⟩
theorem d5_0 : decode jdk_29_method_49_code 0 = .ok (.lload_n 0, 1) := by decide +kernel
theorem d5_1 : decode jdk_29_method_49_code 1 = .ok (.lload_n 2, 1) := by decide +kernel
theorem d5_2 : decode jdk_29_method_49_code 2 = .ok (.ldiv, 1) := by decide +kernel
theorem d5_3 : decode jdk_29_method_49_code 3 = .ok (.lstore 4, 2) := by decide +kernel
theorem d5_5 : decode jdk_29_method_49_code 5 = .ok (.lload_n 0, 1) := by decide +kernel
theorem d5_6 : decode jdk_29_method_49_code 6 = .ok (.lload_n 2, 1) := by decide +kernel
theorem d5_7 : decode jdk_29_method_49_code 7 = .ok (.lxor, 1) := by decide +kernel
theorem d5_8 : decode jdk_29_method_49_code 8 = .ok (.lconst 0, 1) := by decide +kernel
theorem d5_9 : decode jdk_29_method_49_code 9 = .ok (.lcmp, 1) := by decide +kernel
theorem d5_10 : decode jdk_29_method_49_code 10 = .ok (.ifCond .ge 17, 3) := by decide +kernel
theorem d5_13 : decode jdk_29_method_49_code 13 = .ok (.lload 4, 2) := by decide +kernel
theorem d5_15 : decode jdk_29_method_49_code 15 = .ok (.lload_n 2, 1) := by decide +kernel
theorem d5_16 : decode jdk_29_method_49_code 16 = .ok (.lmul, 1) := by decide +kernel
theorem d5_17 : decode jdk_29_method_49_code 17 = .ok (.lload_n 0, 1) := by decide +kernel
theorem d5_18 : decode jdk_29_method_49_code 18 = .ok (.lcmp, 1) := by decide +kernel
theorem d5_19 : decode jdk_29_method_49_code 19 = .ok (.ifCond .eq 8, 3) := by decide +kernel
theorem d5_22 : decode jdk_29_method_49_code 22 = .ok (.lload 4, 2) := by decide +kernel
theorem d5_24 : decode jdk_29_method_49_code 24 = .ok (.lconst 1, 1) := by decide +kernel
theorem d5_25 : decode jdk_29_method_49_code 25 = .ok (.lsub, 1) := by decide +kernel
theorem d5_26 : decode jdk_29_method_49_code 26 = .ok (.lreturn, 1) := by decide +kernel
theorem d5_27 : decode jdk_29_method_49_code 27 = .ok (.lload 4, 2) := by decide +kernel
theorem d5_29 : decode jdk_29_method_49_code 29 = .ok (.lreturn, 1) := by decide +kernel
def F5 (q1 : Int64) (q2 : Int64) : Int64 := (if (q1 ^^^ q2) < (0 : Int64) then (if ((q1 / q2) * q2) = q1 then (q1 / q2)
    else ((q1 / q2) - (1 : Int64)))
  else (q1 / q2))
theorem ef_5 (m : MethodId) (q1 : Int64) (q2 : Int64) : entryFrame m #[(.long q1), (.long q2)] 6 = mkF m 0 #[.val (.long q1), .second, .val (.long q2), .second, .unset, .unset] [] := by first | (simp [entryFrame, mkF, argsToLocals, Value.category]; done) | rfl
def Qrm5 (Z : State) (q1 : Int64) (q2 : Int64) (h0 : Heap) (n0 : Nat) : Option Value → Heap → List Loc → Prop := fun v h L => v = some (.long (F5 q1 q2)) ∧ Fr n0 L ∧ h = h0
set_option maxRecDepth 65536 in
set_option maxHeartbeats 40000000 in
theorem rm5 (l : Launch) (Z : State) (a0 : Array Value) (hw : ∀ d ∈ tables_1, d.before a0 Z = true) (ws : List Jvm.Cond) (q1 : Int64) (q2 : Int64) (h0 : Heap) (n0 : Nat) (Z0 : n0 ≤ h0.size) (hnz : ¬ q2 = (0 : Int64)) :
    MetFree l (⟨"java/lang/Math", "floorDiv", "(JJ)J"⟩ : MethodName) (head1 (Jvm.Cond.code (⟨"java/lang/Math", "floorDiv", "(JJ)J"⟩ : MethodName) jdk_29_method_49_code 6 (some .long) :: ws) ({ frames := 0, cells := 0, slots := 0, locals := 0 } : Room)) (fun a U => a = #[(.long q1), (.long q2)] ∧ Z.Warmed39 U.vm ∧ U.heap = h0) (fun _ _ _ _ _ => True) (fun _ U o U' => ∃ v L, o = .returned v ∧ Qrm5 Z q1 q2 h0 n0 v U'.heap L ∧ FrameEnd U o U' L ({ frames := 0, cells := 0, slots := 0, locals := 0 } : Room).cells ({ frames := 0, cells := 0, slots := 0, locals := 0 } : Room).slots) := by
  refine MetFree.of_bodySF (Jvm.Free.JP.mathPlain rfl (by decide +kernel)) hisR ?_
  intro p e s m args below meth c s₁ Bd hml0 hP hK
  obtain ⟨rfl, hZ, hh⟩ := hP
  have hx := Bd.exec
  have hby := Bd.bytes
  have hml : c.maxLocals = 6 := hml0
  have hown : s.vm.findClass "java/lang/Math" = some m.cls := findClass_of_methodNamed Bd.named
  have hnm := (name_of_methodNamed Bd.named Bd.method).1
  have hlk : meth.locks = false := BodyLoose.notSynchronized Bd
  have hret := Bd.returns
  have X0 : Stand p l e ({ frames := 0, cells := 0, slots := 0, locals := 0 } : Room) s m #[(.long q1), (.long q2)] below meth c s₁ [] 0 0 := Stand.of_body Bd
  have e0 : s₁.heap = h0 := by rw [← hh, Bd.state]; rfl
  have N0 := Fr.nil n0
  show Done p e below s (Qrm5 Z q1 q2 h0 n0) ({ frames := 0, cells := 0, slots := 0, locals := 0 } : Room).cells ({ frames := 0, cells := 0, slots := 0, locals := 0 } : Room).slots (s₁.setTop (entryFrame m #[(.long q1), (.long q2)] 6))
  refine Done.step (fun t k => castTop (ef_5 m q1 q2) k) ?_
  show Done p e below s _ _ _ (s₁.setTop (mkF m 0 #[.val (.long q1), .second, .val (.long q2), .second, .unset, .unset] []))
  refine Done.step (fun t k => XS.lloadN X0.here hx rfl (hb hby d5_0) rfl k) ?_
  show Done p e below s _ _ _ (s₁.setTop (mkF m 1 #[.val (.long q1), .second, .val (.long q2), .second, .unset, .unset] [(.long q1)]))
  refine Done.step (fun t k => XS.lloadN X0.here hx rfl (hb hby d5_1) rfl k) ?_
  show Done p e below s _ _ _ (s₁.setTop (mkF m 2 #[.val (.long q1), .second, .val (.long q2), .second, .unset, .unset] [(.long q2), (.long q1)]))
  refine Done.step (fun t k => XS.ldiv X0.here hx rfl (hb hby d5_2) rfl hnz k) ?_
  show Done p e below s _ _ _ (s₁.setTop (mkF m 3 #[.val (.long q1), .second, .val (.long q2), .second, .unset, .unset] [(.long (q1 / q2))]))
  refine Done.step (fun t k => XS.lstore X0.here hx rfl (hb hby d5_3) rfl (l' := #[.val (.long q1), .second, .val (.long q2), .second, .val (.long (q1 / q2)), .second]) rfl k) ?_
  show Done p e below s _ _ _ (s₁.setTop (mkF m 5 #[.val (.long q1), .second, .val (.long q2), .second, .val (.long (q1 / q2)), .second] []))
  refine Done.step (fun t k => XS.lloadN X0.here hx rfl (hb hby d5_5) rfl k) ?_
  show Done p e below s _ _ _ (s₁.setTop (mkF m 6 #[.val (.long q1), .second, .val (.long q2), .second, .val (.long (q1 / q2)), .second] [(.long q1)]))
  refine Done.step (fun t k => XS.lloadN X0.here hx rfl (hb hby d5_6) rfl k) ?_
  show Done p e below s _ _ _ (s₁.setTop (mkF m 7 #[.val (.long q1), .second, .val (.long q2), .second, .val (.long (q1 / q2)), .second] [(.long q2), (.long q1)]))
  refine Done.step (fun t k => XS.lxor X0.here hx rfl (hb hby d5_7) rfl k) ?_
  show Done p e below s _ _ _ (s₁.setTop (mkF m 8 #[.val (.long q1), .second, .val (.long q2), .second, .val (.long (q1 / q2)), .second] [(.long (q1 ^^^ q2))]))
  refine Done.step (fun t k => XS.lconst X0.here hx rfl (hb hby d5_8) k) ?_
  show Done p e below s _ _ _ (s₁.setTop (mkF m 9 #[.val (.long q1), .second, .val (.long q2), .second, .val (.long (q1 / q2)), .second] [(.long (0 : Int64)), (.long (q1 ^^^ q2))]))
  refine Done.step (fun t k => XS.lcmp X0.here hx rfl (hb hby d5_9) rfl k) ?_
  show Done p e below s _ _ _ (s₁.setTop (mkF m 10 #[.val (.long q1), .second, .val (.long q2), .second, .val (.long (q1 / q2)), .second] [(.int (lcmpW (q1 ^^^ q2) (0 : Int64)))]))
  by_cases c1 : (q1 ^^^ q2) < (0 : Int64)
  · refine Done.step (fun t k => XS.ifNo X0.here hx rfl (hb hby d5_10) rfl ((if0 _ _).trans (tlt ((lw_lt _ _).mpr c1)).2.1) k) ?_
    show Done p e below s _ _ _ (s₁.setTop (mkF m 13 #[.val (.long q1), .second, .val (.long q2), .second, .val (.long (q1 / q2)), .second] []))
    refine Done.step (fun t k => XS.lload X0.here hx rfl (hb hby d5_13) rfl k) ?_
    show Done p e below s _ _ _ (s₁.setTop (mkF m 15 #[.val (.long q1), .second, .val (.long q2), .second, .val (.long (q1 / q2)), .second] [(.long (q1 / q2))]))
    refine Done.step (fun t k => XS.lloadN X0.here hx rfl (hb hby d5_15) rfl k) ?_
    show Done p e below s _ _ _ (s₁.setTop (mkF m 16 #[.val (.long q1), .second, .val (.long q2), .second, .val (.long (q1 / q2)), .second] [(.long q2), (.long (q1 / q2))]))
    refine Done.step (fun t k => XS.lmul X0.here hx rfl (hb hby d5_16) rfl k) ?_
    show Done p e below s _ _ _ (s₁.setTop (mkF m 17 #[.val (.long q1), .second, .val (.long q2), .second, .val (.long (q1 / q2)), .second] [(.long ((q1 / q2) * q2))]))
    refine Done.step (fun t k => XS.lloadN X0.here hx rfl (hb hby d5_17) rfl k) ?_
    show Done p e below s _ _ _ (s₁.setTop (mkF m 18 #[.val (.long q1), .second, .val (.long q2), .second, .val (.long (q1 / q2)), .second] [(.long q1), (.long ((q1 / q2) * q2))]))
    refine Done.step (fun t k => XS.lcmp X0.here hx rfl (hb hby d5_18) rfl k) ?_
    show Done p e below s _ _ _ (s₁.setTop (mkF m 19 #[.val (.long q1), .second, .val (.long q2), .second, .val (.long (q1 / q2)), .second] [(.int (lcmpW ((q1 / q2) * q2) q1))]))
    by_cases c2 : ((q1 / q2) * q2) = q1
    · refine Done.step (fun t k => XS.ifYes X0.here hx rfl (pc0 := 19) (pc' := 27) rfl (hb hby d5_19) rfl ((if0 _ _).trans (teq ((lw_eq _ _).mpr c2)).1) (by decide) (by decide) k) ?_
      show Done p e below s _ _ _ (s₁.setTop (mkF m 27 #[.val (.long q1), .second, .val (.long q2), .second, .val (.long (q1 / q2)), .second] []))
      refine Done.step (fun t k => XS.lload X0.here hx rfl (hb hby d5_27) rfl k) ?_
      show Done p e below s _ _ _ (s₁.setTop (mkF m 29 #[.val (.long q1), .second, .val (.long q2), .second, .val (.long (q1 / q2)), .second] [(.long (q1 / q2))]))
      exact Done.long X0 hx hlk hret (hb hby d5_29) (by decide) (by decide) ⟨by rw [show F5 q1 q2 = (q1 / q2) from by unfold F5; rw [if_pos c1, if_pos c2]] <;> rfl, N0, e0⟩
    · refine Done.step (fun t k => XS.ifNo X0.here hx rfl (hb hby d5_19) rfl ((if0 _ _).trans (feq (fun q_ => c2 ((lw_eq _ _).mp q_))).1) k) ?_
      show Done p e below s _ _ _ (s₁.setTop (mkF m 22 #[.val (.long q1), .second, .val (.long q2), .second, .val (.long (q1 / q2)), .second] []))
      refine Done.step (fun t k => XS.lload X0.here hx rfl (hb hby d5_22) rfl k) ?_
      show Done p e below s _ _ _ (s₁.setTop (mkF m 24 #[.val (.long q1), .second, .val (.long q2), .second, .val (.long (q1 / q2)), .second] [(.long (q1 / q2))]))
      refine Done.step (fun t k => XS.lconst X0.here hx rfl (hb hby d5_24) k) ?_
      show Done p e below s _ _ _ (s₁.setTop (mkF m 25 #[.val (.long q1), .second, .val (.long q2), .second, .val (.long (q1 / q2)), .second] [(.long (1 : Int64)), (.long (q1 / q2))]))
      refine Done.step (fun t k => XS.lsub X0.here hx rfl (hb hby d5_25) rfl k) ?_
      show Done p e below s _ _ _ (s₁.setTop (mkF m 26 #[.val (.long q1), .second, .val (.long q2), .second, .val (.long (q1 / q2)), .second] [(.long ((q1 / q2) - (1 : Int64)))]))
      exact Done.long X0 hx hlk hret (hb hby d5_26) (by decide) (by decide) ⟨by rw [show F5 q1 q2 = ((q1 / q2) - (1 : Int64)) from by unfold F5; rw [if_pos c1, if_neg c2]] <;> rfl, N0, e0⟩
  · refine Done.step (fun t k => XS.ifYes X0.here hx rfl (pc0 := 10) (pc' := 27) rfl (hb hby d5_10) rfl ((if0 _ _).trans (flt (fun q_ => c1 ((lw_lt _ _).mp q_))).2.1) (by decide) (by decide) k) ?_
    show Done p e below s _ _ _ (s₁.setTop (mkF m 27 #[.val (.long q1), .second, .val (.long q2), .second, .val (.long (q1 / q2)), .second] []))
    refine Done.step (fun t k => XS.lload X0.here hx rfl (hb hby d5_27) rfl k) ?_
    show Done p e below s _ _ _ (s₁.setTop (mkF m 29 #[.val (.long q1), .second, .val (.long q2), .second, .val (.long (q1 / q2)), .second] [(.long (q1 / q2))]))
    exact Done.long X0 hx hlk hret (hb hby d5_29) (by decide) (by decide) ⟨by rw [show F5 q1 q2 = (q1 / q2) from by unfold F5; rw [if_neg c1]] <;> rfl, N0, e0⟩
theorem d6_0 : decode jdk_29_method_52_code 0 = .ok (.lload_n 0, 1) := by decide +kernel
theorem d6_1 : decode jdk_29_method_52_code 1 = .ok (.lload_n 2, 1) := by decide +kernel
theorem d6_2 : decode jdk_29_method_52_code 2 = .ok (.lrem, 1) := by decide +kernel
theorem d6_3 : decode jdk_29_method_52_code 3 = .ok (.lstore 4, 2) := by decide +kernel
theorem d6_5 : decode jdk_29_method_52_code 5 = .ok (.lload_n 0, 1) := by decide +kernel
theorem d6_6 : decode jdk_29_method_52_code 6 = .ok (.lload_n 2, 1) := by decide +kernel
theorem d6_7 : decode jdk_29_method_52_code 7 = .ok (.lxor, 1) := by decide +kernel
theorem d6_8 : decode jdk_29_method_52_code 8 = .ok (.lconst 0, 1) := by decide +kernel
theorem d6_9 : decode jdk_29_method_52_code 9 = .ok (.lcmp, 1) := by decide +kernel
theorem d6_10 : decode jdk_29_method_52_code 10 = .ok (.ifCond .ge 15, 3) := by decide +kernel
theorem d6_13 : decode jdk_29_method_52_code 13 = .ok (.lload 4, 2) := by decide +kernel
theorem d6_15 : decode jdk_29_method_52_code 15 = .ok (.lconst 0, 1) := by decide +kernel
theorem d6_16 : decode jdk_29_method_52_code 16 = .ok (.lcmp, 1) := by decide +kernel
theorem d6_17 : decode jdk_29_method_52_code 17 = .ok (.ifCond .eq 8, 3) := by decide +kernel
theorem d6_20 : decode jdk_29_method_52_code 20 = .ok (.lload 4, 2) := by decide +kernel
theorem d6_22 : decode jdk_29_method_52_code 22 = .ok (.lload_n 2, 1) := by decide +kernel
theorem d6_23 : decode jdk_29_method_52_code 23 = .ok (.ladd, 1) := by decide +kernel
theorem d6_24 : decode jdk_29_method_52_code 24 = .ok (.lreturn, 1) := by decide +kernel
theorem d6_25 : decode jdk_29_method_52_code 25 = .ok (.lload 4, 2) := by decide +kernel
theorem d6_27 : decode jdk_29_method_52_code 27 = .ok (.lreturn, 1) := by decide +kernel
def F6 (q1 : Int64) (q2 : Int64) : Int64 := (if (q1 ^^^ q2) < (0 : Int64) then (if (q1 - (q1 / q2) * q2) = (0 : Int64) then (q1 - (q1 / q2) * q2)
    else ((q1 - (q1 / q2) * q2) + q2))
  else (q1 - (q1 / q2) * q2))
theorem ef_6 (m : MethodId) (q1 : Int64) (q2 : Int64) : entryFrame m #[(.long q1), (.long q2)] 6 = mkF m 0 #[.val (.long q1), .second, .val (.long q2), .second, .unset, .unset] [] := by first | (simp [entryFrame, mkF, argsToLocals, Value.category]; done) | rfl
def Qrm6 (Z : State) (q1 : Int64) (q2 : Int64) (h0 : Heap) (n0 : Nat) : Option Value → Heap → List Loc → Prop := fun v h L => v = some (.long (F6 q1 q2)) ∧ Fr n0 L ∧ h = h0
set_option maxRecDepth 65536 in
set_option maxHeartbeats 40000000 in
theorem rm6 (l : Launch) (Z : State) (a0 : Array Value) (hw : ∀ d ∈ tables_1, d.before a0 Z = true) (ws : List Jvm.Cond) (q1 : Int64) (q2 : Int64) (h0 : Heap) (n0 : Nat) (Z0 : n0 ≤ h0.size) (hnz : ¬ q2 = (0 : Int64)) :
    MetFree l (⟨"java/lang/Math", "floorMod", "(JJ)J"⟩ : MethodName) (head1 (Jvm.Cond.code (⟨"java/lang/Math", "floorMod", "(JJ)J"⟩ : MethodName) jdk_29_method_52_code 6 (some .long) :: ws) ({ frames := 0, cells := 0, slots := 0, locals := 0 } : Room)) (fun a U => a = #[(.long q1), (.long q2)] ∧ Z.Warmed39 U.vm ∧ U.heap = h0) (fun _ _ _ _ _ => True) (fun _ U o U' => ∃ v L, o = .returned v ∧ Qrm6 Z q1 q2 h0 n0 v U'.heap L ∧ FrameEnd U o U' L ({ frames := 0, cells := 0, slots := 0, locals := 0 } : Room).cells ({ frames := 0, cells := 0, slots := 0, locals := 0 } : Room).slots) := by
  refine MetFree.of_bodySF (Jvm.Free.JP.mathPlain rfl (by decide +kernel)) hisR ?_
  intro p e s m args below meth c s₁ Bd hml0 hP hK
  obtain ⟨rfl, hZ, hh⟩ := hP
  have hx := Bd.exec
  have hby := Bd.bytes
  have hml : c.maxLocals = 6 := hml0
  have hown : s.vm.findClass "java/lang/Math" = some m.cls := findClass_of_methodNamed Bd.named
  have hnm := (name_of_methodNamed Bd.named Bd.method).1
  have hlk : meth.locks = false := BodyLoose.notSynchronized Bd
  have hret := Bd.returns
  have X0 : Stand p l e ({ frames := 0, cells := 0, slots := 0, locals := 0 } : Room) s m #[(.long q1), (.long q2)] below meth c s₁ [] 0 0 := Stand.of_body Bd
  have e0 : s₁.heap = h0 := by rw [← hh, Bd.state]; rfl
  have N0 := Fr.nil n0
  show Done p e below s (Qrm6 Z q1 q2 h0 n0) ({ frames := 0, cells := 0, slots := 0, locals := 0 } : Room).cells ({ frames := 0, cells := 0, slots := 0, locals := 0 } : Room).slots (s₁.setTop (entryFrame m #[(.long q1), (.long q2)] 6))
  refine Done.step (fun t k => castTop (ef_6 m q1 q2) k) ?_
  show Done p e below s _ _ _ (s₁.setTop (mkF m 0 #[.val (.long q1), .second, .val (.long q2), .second, .unset, .unset] []))
  refine Done.step (fun t k => XS.lloadN X0.here hx rfl (hb hby d6_0) rfl k) ?_
  show Done p e below s _ _ _ (s₁.setTop (mkF m 1 #[.val (.long q1), .second, .val (.long q2), .second, .unset, .unset] [(.long q1)]))
  refine Done.step (fun t k => XS.lloadN X0.here hx rfl (hb hby d6_1) rfl k) ?_
  show Done p e below s _ _ _ (s₁.setTop (mkF m 2 #[.val (.long q1), .second, .val (.long q2), .second, .unset, .unset] [(.long q2), (.long q1)]))
  refine Done.step (fun t k => XS.lrem X0.here hx rfl (hb hby d6_2) rfl hnz k) ?_
  show Done p e below s _ _ _ (s₁.setTop (mkF m 3 #[.val (.long q1), .second, .val (.long q2), .second, .unset, .unset] [(.long (q1 - (q1 / q2) * q2))]))
  refine Done.step (fun t k => XS.lstore X0.here hx rfl (hb hby d6_3) rfl (l' := #[.val (.long q1), .second, .val (.long q2), .second, .val (.long (q1 - (q1 / q2) * q2)), .second]) rfl k) ?_
  show Done p e below s _ _ _ (s₁.setTop (mkF m 5 #[.val (.long q1), .second, .val (.long q2), .second, .val (.long (q1 - (q1 / q2) * q2)), .second] []))
  refine Done.step (fun t k => XS.lloadN X0.here hx rfl (hb hby d6_5) rfl k) ?_
  show Done p e below s _ _ _ (s₁.setTop (mkF m 6 #[.val (.long q1), .second, .val (.long q2), .second, .val (.long (q1 - (q1 / q2) * q2)), .second] [(.long q1)]))
  refine Done.step (fun t k => XS.lloadN X0.here hx rfl (hb hby d6_6) rfl k) ?_
  show Done p e below s _ _ _ (s₁.setTop (mkF m 7 #[.val (.long q1), .second, .val (.long q2), .second, .val (.long (q1 - (q1 / q2) * q2)), .second] [(.long q2), (.long q1)]))
  refine Done.step (fun t k => XS.lxor X0.here hx rfl (hb hby d6_7) rfl k) ?_
  show Done p e below s _ _ _ (s₁.setTop (mkF m 8 #[.val (.long q1), .second, .val (.long q2), .second, .val (.long (q1 - (q1 / q2) * q2)), .second] [(.long (q1 ^^^ q2))]))
  refine Done.step (fun t k => XS.lconst X0.here hx rfl (hb hby d6_8) k) ?_
  show Done p e below s _ _ _ (s₁.setTop (mkF m 9 #[.val (.long q1), .second, .val (.long q2), .second, .val (.long (q1 - (q1 / q2) * q2)), .second] [(.long (0 : Int64)), (.long (q1 ^^^ q2))]))
  refine Done.step (fun t k => XS.lcmp X0.here hx rfl (hb hby d6_9) rfl k) ?_
  show Done p e below s _ _ _ (s₁.setTop (mkF m 10 #[.val (.long q1), .second, .val (.long q2), .second, .val (.long (q1 - (q1 / q2) * q2)), .second] [(.int (lcmpW (q1 ^^^ q2) (0 : Int64)))]))
  by_cases c1 : (q1 ^^^ q2) < (0 : Int64)
  · refine Done.step (fun t k => XS.ifNo X0.here hx rfl (hb hby d6_10) rfl ((if0 _ _).trans (tlt ((lw_lt _ _).mpr c1)).2.1) k) ?_
    show Done p e below s _ _ _ (s₁.setTop (mkF m 13 #[.val (.long q1), .second, .val (.long q2), .second, .val (.long (q1 - (q1 / q2) * q2)), .second] []))
    refine Done.step (fun t k => XS.lload X0.here hx rfl (hb hby d6_13) rfl k) ?_
    show Done p e below s _ _ _ (s₁.setTop (mkF m 15 #[.val (.long q1), .second, .val (.long q2), .second, .val (.long (q1 - (q1 / q2) * q2)), .second] [(.long (q1 - (q1 / q2) * q2))]))
    refine Done.step (fun t k => XS.lconst X0.here hx rfl (hb hby d6_15) k) ?_
    show Done p e below s _ _ _ (s₁.setTop (mkF m 16 #[.val (.long q1), .second, .val (.long q2), .second, .val (.long (q1 - (q1 / q2) * q2)), .second] [(.long (0 : Int64)), (.long (q1 - (q1 / q2) * q2))]))
    refine Done.step (fun t k => XS.lcmp X0.here hx rfl (hb hby d6_16) rfl k) ?_
    show Done p e below s _ _ _ (s₁.setTop (mkF m 17 #[.val (.long q1), .second, .val (.long q2), .second, .val (.long (q1 - (q1 / q2) * q2)), .second] [(.int (lcmpW (q1 - (q1 / q2) * q2) (0 : Int64)))]))
    by_cases c2 : (q1 - (q1 / q2) * q2) = (0 : Int64)
    · refine Done.step (fun t k => XS.ifYes X0.here hx rfl (pc0 := 17) (pc' := 25) rfl (hb hby d6_17) rfl ((if0 _ _).trans (teq ((lw_eq _ _).mpr c2)).1) (by decide) (by decide) k) ?_
      show Done p e below s _ _ _ (s₁.setTop (mkF m 25 #[.val (.long q1), .second, .val (.long q2), .second, .val (.long (q1 - (q1 / q2) * q2)), .second] []))
      refine Done.step (fun t k => XS.lload X0.here hx rfl (hb hby d6_25) rfl k) ?_
      show Done p e below s _ _ _ (s₁.setTop (mkF m 27 #[.val (.long q1), .second, .val (.long q2), .second, .val (.long (q1 - (q1 / q2) * q2)), .second] [(.long (q1 - (q1 / q2) * q2))]))
      exact Done.long X0 hx hlk hret (hb hby d6_27) (by decide) (by decide) ⟨by rw [show F6 q1 q2 = (q1 - (q1 / q2) * q2) from by unfold F6; rw [if_pos c1, if_pos c2]] <;> rfl, N0, e0⟩
    · refine Done.step (fun t k => XS.ifNo X0.here hx rfl (hb hby d6_17) rfl ((if0 _ _).trans (feq (fun q_ => c2 ((lw_eq _ _).mp q_))).1) k) ?_
      show Done p e below s _ _ _ (s₁.setTop (mkF m 20 #[.val (.long q1), .second, .val (.long q2), .second, .val (.long (q1 - (q1 / q2) * q2)), .second] []))
      refine Done.step (fun t k => XS.lload X0.here hx rfl (hb hby d6_20) rfl k) ?_
      show Done p e below s _ _ _ (s₁.setTop (mkF m 22 #[.val (.long q1), .second, .val (.long q2), .second, .val (.long (q1 - (q1 / q2) * q2)), .second] [(.long (q1 - (q1 / q2) * q2))]))
      refine Done.step (fun t k => XS.lloadN X0.here hx rfl (hb hby d6_22) rfl k) ?_
      show Done p e below s _ _ _ (s₁.setTop (mkF m 23 #[.val (.long q1), .second, .val (.long q2), .second, .val (.long (q1 - (q1 / q2) * q2)), .second] [(.long q2), (.long (q1 - (q1 / q2) * q2))]))
      refine Done.step (fun t k => XS.ladd X0.here hx rfl (hb hby d6_23) rfl k) ?_
      show Done p e below s _ _ _ (s₁.setTop (mkF m 24 #[.val (.long q1), .second, .val (.long q2), .second, .val (.long (q1 - (q1 / q2) * q2)), .second] [(.long ((q1 - (q1 / q2) * q2) + q2))]))
      exact Done.long X0 hx hlk hret (hb hby d6_24) (by decide) (by decide) ⟨by rw [show F6 q1 q2 = ((q1 - (q1 / q2) * q2) + q2) from by unfold F6; rw [if_pos c1, if_neg c2]] <;> rfl, N0, e0⟩
  · refine Done.step (fun t k => XS.ifYes X0.here hx rfl (pc0 := 10) (pc' := 25) rfl (hb hby d6_10) rfl ((if0 _ _).trans (flt (fun q_ => c1 ((lw_lt _ _).mp q_))).2.1) (by decide) (by decide) k) ?_
    show Done p e below s _ _ _ (s₁.setTop (mkF m 25 #[.val (.long q1), .second, .val (.long q2), .second, .val (.long (q1 - (q1 / q2) * q2)), .second] []))
    refine Done.step (fun t k => XS.lload X0.here hx rfl (hb hby d6_25) rfl k) ?_
    show Done p e below s _ _ _ (s₁.setTop (mkF m 27 #[.val (.long q1), .second, .val (.long q2), .second, .val (.long (q1 - (q1 / q2) * q2)), .second] [(.long (q1 - (q1 / q2) * q2))]))
    exact Done.long X0 hx hlk hret (hb hby d6_27) (by decide) (by decide) ⟨by rw [show F6 q1 q2 = (q1 - (q1 / q2) * q2) from by unfold F6; rw [if_neg c1]] <;> rfl, N0, e0⟩
theorem d3_0 : decode prog_148_method_4_code 0 = .ok (.aload_n 0, 1) := by decide +kernel
theorem d3_1 : decode prog_148_method_4_code 1 = .ok (.getfield 29, 3) := by decide +kernel
theorem d3_4 : decode prog_148_method_4_code 4 = .ok (.lreturn, 1) := by decide +kernel
def F3 (u0_lowest : Int64) : Int64 := u0_lowest
theorem pn_3 : plainName "weirstream/engine/WindowAxis" = true := by first | (simp [plainName, overriddenIn]; done) | decide +kernel
theorem ef_3 (m : MethodId) (a1 : Addr) : entryFrame m #[(.ref a1)] 1 = mkF m 0 #[.val (.ref a1)] [] := by first | (simp [entryFrame, mkF, argsToLocals, Value.category]; done) | rfl
def Qrm3 (Z : State) (a1 : Addr) (u0_lowest : Int64) (h0 : Heap) (n0 : Nat) : Option Value → Heap → List Loc → Prop := fun v h L => v = some (.long (F3 u0_lowest)) ∧ Fr n0 L ∧ h = h0
set_option maxRecDepth 65536 in
set_option maxHeartbeats 40000000 in
theorem rm3 (l : Launch) (Z : State) (a0 : Array Value) (hw : ∀ d ∈ tables_1, d.before a0 Z = true) (ws : List Jvm.Cond) (a1 : Addr) (u0_lowest : Int64) (h0 : Heap) (n0 : Nat) (Z0 : n0 ≤ h0.size) (F0_lowest : Fld Z h0 a1 "weirstream/engine/WindowAxis" "lowest" "J" (.long u0_lowest)) :
    MetFree l (⟨"weirstream/engine/WindowAxis", "lowest", "()J"⟩ : MethodName) (head1 (Jvm.Cond.code (⟨"weirstream/engine/WindowAxis", "lowest", "()J"⟩ : MethodName) prog_148_method_4_code 1 (some .long) :: ws) ({ frames := 0, cells := 0, slots := 0, locals := 0 } : Room)) (fun a U => a = #[(.ref a1)] ∧ Z.Warmed39 U.vm ∧ U.heap = h0) (fun _ _ _ _ _ => True) (fun _ U o U' => ∃ v L, o = .returned v ∧ Qrm3 Z a1 u0_lowest h0 n0 v U'.heap L ∧ FrameEnd U o U' L ({ frames := 0, cells := 0, slots := 0, locals := 0 } : Room).cells ({ frames := 0, cells := 0, slots := 0, locals := 0 } : Room).slots) := by
  refine MetFree.of_bodySF (plainFor_of_name pn_3) hisR ?_
  intro p e s m args below meth c s₁ Bd hml0 hP hK
  obtain ⟨rfl, hZ, hh⟩ := hP
  have hx := Bd.exec
  have hby := Bd.bytes
  have hml : c.maxLocals = 1 := hml0
  have hown : s.vm.findClass "weirstream/engine/WindowAxis" = some m.cls := findClass_of_methodNamed Bd.named
  have hnm := (name_of_methodNamed Bd.named Bd.method).1
  have hlk : meth.locks = false := BodyLoose.notSynchronized Bd
  have hret := Bd.returns
  have X0 : Stand p l e ({ frames := 0, cells := 0, slots := 0, locals := 0 } : Room) s m #[(.ref a1)] below meth c s₁ [] 0 0 := Stand.of_body Bd
  have e0 : s₁.heap = h0 := by rw [← hh, Bd.state]; rfl
  have N0 := Fr.nil n0
  show Done p e below s (Qrm3 Z a1 u0_lowest h0 n0) ({ frames := 0, cells := 0, slots := 0, locals := 0 } : Room).cells ({ frames := 0, cells := 0, slots := 0, locals := 0 } : Room).slots (s₁.setTop (entryFrame m #[(.ref a1)] 1))
  refine Done.step (fun t k => castTop (ef_3 m a1) k) ?_
  show Done p e below s _ _ _ (s₁.setTop (mkF m 0 #[.val (.ref a1)] []))
  refine Done.step (fun t k => XS.aloadN X0.here hx rfl (hb hby d3_0) rfl rfl k) ?_
  show Done p e below s _ _ _ (s₁.setTop (mkF m 1 #[.val (.ref a1)] [(.ref a1)]))
  obtain ⟨T1, X1, e1, st1⟩ := getF X0 hx hZ hown (host := "") (Or.inl (hw _ (List.mem_of_getElem? (i := 29) rfl))) Via.refl e0 F0_lowest (g := (mkF m 1 #[.val (.ref a1)] [(.ref a1)])) rfl rfl (hb hby d3_1)
  refine Done.step st1 ?_
  show Done p e below s _ _ _ (T1.setTop (mkF m 4 #[.val (.ref a1)] [(.long u0_lowest)]))
  exact Done.long X1 hx hlk hret (hb hby d3_4) (by decide) (by decide) ⟨by rw [show F3 u0_lowest = u0_lowest from by unfold F3; rfl] <;> rfl, N0, e1⟩
theorem d9_0 : decode prog_148_method_5_code 0 = .ok (.aload_n 0, 1) := by decide +kernel
theorem d9_1 : decode prog_148_method_5_code 1 = .ok (.getfield 33, 3) := by decide +kernel
theorem d9_4 : decode prog_148_method_5_code 4 = .ok (.lreturn, 1) := by decide +kernel
def F9 (u0_highest : Int64) : Int64 := u0_highest
theorem pn_9 : plainName "weirstream/engine/WindowAxis" = true := by first | (simp [plainName, overriddenIn]; done) | decide +kernel
theorem ef_9 (m : MethodId) (a1 : Addr) : entryFrame m #[(.ref a1)] 1 = mkF m 0 #[.val (.ref a1)] [] := by first | (simp [entryFrame, mkF, argsToLocals, Value.category]; done) | rfl
def Qrm9 (Z : State) (a1 : Addr) (u0_highest : Int64) (h0 : Heap) (n0 : Nat) : Option Value → Heap → List Loc → Prop := fun v h L => v = some (.long (F9 u0_highest)) ∧ Fr n0 L ∧ h = h0
set_option maxRecDepth 65536 in
set_option maxHeartbeats 40000000 in
theorem rm9 (l : Launch) (Z : State) (a0 : Array Value) (hw : ∀ d ∈ tables_1, d.before a0 Z = true) (ws : List Jvm.Cond) (a1 : Addr) (u0_highest : Int64) (h0 : Heap) (n0 : Nat) (Z0 : n0 ≤ h0.size) (F0_highest : Fld Z h0 a1 "weirstream/engine/WindowAxis" "highest" "J" (.long u0_highest)) :
    MetFree l (⟨"weirstream/engine/WindowAxis", "highest", "()J"⟩ : MethodName) (head1 (Jvm.Cond.code (⟨"weirstream/engine/WindowAxis", "highest", "()J"⟩ : MethodName) prog_148_method_5_code 1 (some .long) :: ws) ({ frames := 0, cells := 0, slots := 0, locals := 0 } : Room)) (fun a U => a = #[(.ref a1)] ∧ Z.Warmed39 U.vm ∧ U.heap = h0) (fun _ _ _ _ _ => True) (fun _ U o U' => ∃ v L, o = .returned v ∧ Qrm9 Z a1 u0_highest h0 n0 v U'.heap L ∧ FrameEnd U o U' L ({ frames := 0, cells := 0, slots := 0, locals := 0 } : Room).cells ({ frames := 0, cells := 0, slots := 0, locals := 0 } : Room).slots) := by
  refine MetFree.of_bodySF (plainFor_of_name pn_9) hisR ?_
  intro p e s m args below meth c s₁ Bd hml0 hP hK
  obtain ⟨rfl, hZ, hh⟩ := hP
  have hx := Bd.exec
  have hby := Bd.bytes
  have hml : c.maxLocals = 1 := hml0
  have hown : s.vm.findClass "weirstream/engine/WindowAxis" = some m.cls := findClass_of_methodNamed Bd.named
  have hnm := (name_of_methodNamed Bd.named Bd.method).1
  have hlk : meth.locks = false := BodyLoose.notSynchronized Bd
  have hret := Bd.returns
  have X0 : Stand p l e ({ frames := 0, cells := 0, slots := 0, locals := 0 } : Room) s m #[(.ref a1)] below meth c s₁ [] 0 0 := Stand.of_body Bd
  have e0 : s₁.heap = h0 := by rw [← hh, Bd.state]; rfl
  have N0 := Fr.nil n0
  show Done p e below s (Qrm9 Z a1 u0_highest h0 n0) ({ frames := 0, cells := 0, slots := 0, locals := 0 } : Room).cells ({ frames := 0, cells := 0, slots := 0, locals := 0 } : Room).slots (s₁.setTop (entryFrame m #[(.ref a1)] 1))
  refine Done.step (fun t k => castTop (ef_9 m a1) k) ?_
  show Done p e below s _ _ _ (s₁.setTop (mkF m 0 #[.val (.ref a1)] []))
  refine Done.step (fun t k => XS.aloadN X0.here hx rfl (hb hby d9_0) rfl rfl k) ?_
  show Done p e below s _ _ _ (s₁.setTop (mkF m 1 #[.val (.ref a1)] [(.ref a1)]))
  obtain ⟨T1, X1, e1, st1⟩ := getF X0 hx hZ hown (host := "") (Or.inl (hw _ (List.mem_of_getElem? (i := 59) rfl))) Via.refl e0 F0_highest (g := (mkF m 1 #[.val (.ref a1)] [(.ref a1)])) rfl rfl (hb hby d9_1)
  refine Done.step st1 ?_
  show Done p e below s _ _ _ (T1.setTop (mkF m 4 #[.val (.ref a1)] [(.long u0_highest)]))
  exact Done.long X1 hx hlk hret (hb hby d9_4) (by decide) (by decide) ⟨by rw [show F9 u0_highest = u0_highest from by unfold F9; rfl] <;> rfl, N0, e1⟩
theorem d4_0 : decode prog_151_method_4_code 0 = .ok (.lload_n 1, 1) := by decide +kernel
theorem d4_1 : decode prog_151_method_4_code 1 = .ok (.aload_n 0, 1) := by decide +kernel
theorem d4_2 : decode prog_151_method_4_code 2 = .ok (.getfield 17, 3) := by decide +kernel
theorem d4_5 : decode prog_151_method_4_code 5 = .ok (.invokestatic 75, 3) := by decide +kernel
theorem d4_8 : decode prog_151_method_4_code 8 = .ok (.lreturn, 1) := by decide +kernel
def F4 (q2 : Int64) (u0_slide : Int64) : Int64 := (F5 q2 u0_slide)
theorem pn_4 : plainName "weirstream/engine/WindowGeometry" = true := by first | (simp [plainName, overriddenIn]; done) | decide +kernel
theorem ef_4 (m : MethodId) (a1 : Addr) (q2 : Int64) : entryFrame m #[(.ref a1), (.long q2)] 3 = mkF m 0 #[.val (.ref a1), .val (.long q2), .second] [] := by first | (simp [entryFrame, mkF, argsToLocals, Value.category]; done) | rfl
def Qrm4 (Z : State) (a1 : Addr) (q2 : Int64) (u0_slide : Int64) (h0 : Heap) (n0 : Nat) : Option Value → Heap → List Loc → Prop := fun v h L => v = some (.long (F4 q2 u0_slide)) ∧ Fr n0 L ∧ h = h0
set_option maxRecDepth 65536 in
set_option maxHeartbeats 40000000 in
theorem rm4 (l : Launch) (Z : State) (a0 : Array Value) (hw : ∀ d ∈ tables_1, d.before a0 Z = true) (ws : List Jvm.Cond) (a1 : Addr) (q2 : Int64) (u0_slide : Int64) (h0 : Heap) (n0 : Nat) (Z0 : n0 ≤ h0.size) (F0_slide : Fld Z h0 a1 "weirstream/engine/WindowGeometry" "slide" "J" (.long u0_slide)) (hnz : ¬ u0_slide = (0 : Int64)) :
    MetFree l (⟨"weirstream/engine/WindowGeometry", "pane", "(J)J"⟩ : MethodName) (head1 (Jvm.Cond.code (⟨"weirstream/engine/WindowGeometry", "pane", "(J)J"⟩ : MethodName) prog_151_method_4_code 3 (some .long) :: ws) ({ frames := 1, cells := 0, slots := 0, locals := 17 } : Room)) (fun a U => a = #[(.ref a1), (.long q2)] ∧ Z.Warmed39 U.vm ∧ U.heap = h0) (fun _ _ _ _ _ => True) (fun _ U o U' => ∃ v L, o = .returned v ∧ Qrm4 Z a1 q2 u0_slide h0 n0 v U'.heap L ∧ FrameEnd U o U' L ({ frames := 1, cells := 0, slots := 0, locals := 17 } : Room).cells ({ frames := 1, cells := 0, slots := 0, locals := 17 } : Room).slots) := by
  refine MetFree.of_bodySF (plainFor_of_name pn_4) hisR ?_
  intro p e s m args below meth c s₁ Bd hml0 hP hK
  obtain ⟨rfl, hZ, hh⟩ := hP
  have hx := Bd.exec
  have hby := Bd.bytes
  have hml : c.maxLocals = 3 := hml0
  have hown : s.vm.findClass "weirstream/engine/WindowGeometry" = some m.cls := findClass_of_methodNamed Bd.named
  have hnm := (name_of_methodNamed Bd.named Bd.method).1
  have hlk : meth.locks = false := BodyLoose.notSynchronized Bd
  have hret := Bd.returns
  have X0 : Stand p l e ({ frames := 1, cells := 0, slots := 0, locals := 17 } : Room) s m #[(.ref a1), (.long q2)] below meth c s₁ [] 0 0 := Stand.of_body Bd
  have e0 : s₁.heap = h0 := by rw [← hh, Bd.state]; rfl
  have N0 := Fr.nil n0
  show Done p e below s (Qrm4 Z a1 q2 u0_slide h0 n0) ({ frames := 1, cells := 0, slots := 0, locals := 17 } : Room).cells ({ frames := 1, cells := 0, slots := 0, locals := 17 } : Room).slots (s₁.setTop (entryFrame m #[(.ref a1), (.long q2)] 3))
  refine Done.step (fun t k => castTop (ef_4 m a1 q2) k) ?_
  show Done p e below s _ _ _ (s₁.setTop (mkF m 0 #[.val (.ref a1), .val (.long q2), .second] []))
  refine Done.step (fun t k => XS.lloadN X0.here hx rfl (hb hby d4_0) rfl k) ?_
  show Done p e below s _ _ _ (s₁.setTop (mkF m 1 #[.val (.ref a1), .val (.long q2), .second] [(.long q2)]))
  refine Done.step (fun t k => XS.aloadN X0.here hx rfl (hb hby d4_1) rfl rfl k) ?_
  show Done p e below s _ _ _ (s₁.setTop (mkF m 2 #[.val (.ref a1), .val (.long q2), .second] [(.ref a1), (.long q2)]))
  obtain ⟨T1, X1, e1, st1⟩ := getF X0 hx hZ hown (host := "") (Or.inl (hw _ (List.mem_of_getElem? (i := 17) rfl))) Via.refl e0 F0_slide (g := (mkF m 2 #[.val (.ref a1), .val (.long q2), .second] [(.ref a1), (.long q2)])) rfl rfl (hb hby d4_2)
  refine Done.step st1 ?_
  show Done p e below s _ _ _ (T1.setTop (mkF m 5 #[.val (.ref a1), .val (.long q2), .second] [(.long u0_slide), (.long q2)]))
  obtain ⟨v2, _, ⟨T2, L2, k2, n2⟩, -, X2, ⟨Lc2, hQ2, l2, y2, z2⟩, st2⟩ := Jvm.LawKit.callS X1 hx (y := (⟨"java/lang/Math", "floorDiv", "(JJ)J"⟩ : MethodName)) hown (mvT hZ (hw _ (List.mem_of_getElem? (i := 36) rfl))) (mvT hZ (hw _ (List.mem_of_getElem? (i := 37) rfl))) (mvT hZ (hw _ (List.mem_of_getElem? (i := 38) rfl))) (mvT hZ (hw _ (List.mem_of_getElem? (i := 39) rfl))) (by decide) (backOf (W := 0) (rm5 l Z a0 hw [] q2 u0_slide h0 n0 Z0 hnz) hZ (hw _ (List.mem_of_getElem? (i := 39) rfl)) (hw _ (List.mem_of_getElem? (i := 38) rfl)) (by decide) (by decide)) (g := (mkF m 5 #[.val (.ref a1), .val (.long q2), .second] [(.long u0_slide), (.long q2)])) rfl (by rw [hml]; rfl) (argsL := [(.long q2), (.long u0_slide)]) (rest := []) (lenOf pd_0 rfl) rfl (by show 2 * 0 + _ ≤ _; exact Nat.le_of_eq rfl) (hb hby d4_5) (fun _ _ => ⟨rfl, e1, (by decide : 0 + 0 ≤ _), (by decide : 0 + 0 ≤ _)⟩)
  dsimp only [Pt.U, Pt.locs, Pt.cells, Pt.slots] at X2 l2 y2 z2 st2 hQ2
  subst l2 y2 z2
  refine Done.step st2 ?_
  obtain ⟨rfl, N2q, e2⟩ := hQ2
  have N2 := Fr.app N0 N2q
  show Done p e below s _ _ _ (T2.setTop (mkF m 8 #[.val (.ref a1), .val (.long q2), .second] [(.long (F5 q2 u0_slide))]))
  exact Done.long X2 hx hlk hret (hb hby d4_8) (by decide) (by decide) ⟨by rw [show F4 q2 u0_slide = (F5 q2 u0_slide) from by unfold F4; rfl] <;> rfl, N2, e2⟩
theorem d7_0 : decode prog_151_method_10_code 0 = .ok (.lload_n 1, 1) := by decide +kernel
theorem d7_1 : decode prog_151_method_10_code 1 = .ok (.aload_n 0, 1) := by decide +kernel
theorem d7_2 : decode prog_151_method_10_code 2 = .ok (.getfield 20, 3) := by decide +kernel
theorem d7_5 : decode prog_151_method_10_code 5 = .ok (.lconst 1, 1) := by decide +kernel
theorem d7_6 : decode prog_151_method_10_code 6 = .ok (.lsub, 1) := by decide +kernel
theorem d7_7 : decode prog_151_method_10_code 7 = .ok (.ladd, 1) := by decide +kernel
theorem d7_8 : decode prog_151_method_10_code 8 = .ok (.lreturn, 1) := by decide +kernel
def F7 (q2 : Int64) (u0_panesPerWindow : Int64) : Int64 := (q2 + (u0_panesPerWindow - (1 : Int64)))
theorem pn_7 : plainName "weirstream/engine/WindowGeometry" = true := by first | (simp [plainName, overriddenIn]; done) | decide +kernel
theorem ef_7 (m : MethodId) (a1 : Addr) (q2 : Int64) : entryFrame m #[(.ref a1), (.long q2)] 3 = mkF m 0 #[.val (.ref a1), .val (.long q2), .second] [] := by first | (simp [entryFrame, mkF, argsToLocals, Value.category]; done) | rfl
def Qrm7 (Z : State) (a1 : Addr) (q2 : Int64) (u0_panesPerWindow : Int64) (h0 : Heap) (n0 : Nat) : Option Value → Heap → List Loc → Prop := fun v h L => v = some (.long (F7 q2 u0_panesPerWindow)) ∧ Fr n0 L ∧ h = h0
set_option maxRecDepth 65536 in
set_option maxHeartbeats 40000000 in
theorem rm7 (l : Launch) (Z : State) (a0 : Array Value) (hw : ∀ d ∈ tables_1, d.before a0 Z = true) (ws : List Jvm.Cond) (a1 : Addr) (q2 : Int64) (u0_panesPerWindow : Int64) (h0 : Heap) (n0 : Nat) (Z0 : n0 ≤ h0.size) (F0_panesPerWindow : Fld Z h0 a1 "weirstream/engine/WindowGeometry" "panesPerWindow" "J" (.long u0_panesPerWindow)) :
    MetFree l (⟨"weirstream/engine/WindowGeometry", "lastPane", "(J)J"⟩ : MethodName) (head1 (Jvm.Cond.code (⟨"weirstream/engine/WindowGeometry", "lastPane", "(J)J"⟩ : MethodName) prog_151_method_10_code 3 (some .long) :: ws) ({ frames := 0, cells := 0, slots := 0, locals := 0 } : Room)) (fun a U => a = #[(.ref a1), (.long q2)] ∧ Z.Warmed39 U.vm ∧ U.heap = h0) (fun _ _ _ _ _ => True) (fun _ U o U' => ∃ v L, o = .returned v ∧ Qrm7 Z a1 q2 u0_panesPerWindow h0 n0 v U'.heap L ∧ FrameEnd U o U' L ({ frames := 0, cells := 0, slots := 0, locals := 0 } : Room).cells ({ frames := 0, cells := 0, slots := 0, locals := 0 } : Room).slots) := by
  refine MetFree.of_bodySF (plainFor_of_name pn_7) hisR ?_
  intro p e s m args below meth c s₁ Bd hml0 hP hK
  obtain ⟨rfl, hZ, hh⟩ := hP
  have hx := Bd.exec
  have hby := Bd.bytes
  have hml : c.maxLocals = 3 := hml0
  have hown : s.vm.findClass "weirstream/engine/WindowGeometry" = some m.cls := findClass_of_methodNamed Bd.named
  have hnm := (name_of_methodNamed Bd.named Bd.method).1
  have hlk : meth.locks = false := BodyLoose.notSynchronized Bd
  have hret := Bd.returns
  have X0 : Stand p l e ({ frames := 0, cells := 0, slots := 0, locals := 0 } : Room) s m #[(.ref a1), (.long q2)] below meth c s₁ [] 0 0 := Stand.of_body Bd
  have e0 : s₁.heap = h0 := by rw [← hh, Bd.state]; rfl
  have N0 := Fr.nil n0
  show Done p e below s (Qrm7 Z a1 q2 u0_panesPerWindow h0 n0) ({ frames := 0, cells := 0, slots := 0, locals := 0 } : Room).cells ({ frames := 0, cells := 0, slots := 0, locals := 0 } : Room).slots (s₁.setTop (entryFrame m #[(.ref a1), (.long q2)] 3))
  refine Done.step (fun t k => castTop (ef_7 m a1 q2) k) ?_
  show Done p e below s _ _ _ (s₁.setTop (mkF m 0 #[.val (.ref a1), .val (.long q2), .second] []))
  refine Done.step (fun t k => XS.lloadN X0.here hx rfl (hb hby d7_0) rfl k) ?_
  show Done p e below s _ _ _ (s₁.setTop (mkF m 1 #[.val (.ref a1), .val (.long q2), .second] [(.long q2)]))
  refine Done.step (fun t k => XS.aloadN X0.here hx rfl (hb hby d7_1) rfl rfl k) ?_
  show Done p e below s _ _ _ (s₁.setTop (mkF m 2 #[.val (.ref a1), .val (.long q2), .second] [(.ref a1), (.long q2)]))
  obtain ⟨T1, X1, e1, st1⟩ := getF X0 hx hZ hown (host := "") (Or.inl (hw _ (List.mem_of_getElem? (i := 19) rfl))) Via.refl e0 F0_panesPerWindow (g := (mkF m 2 #[.val (.ref a1), .val (.long q2), .second] [(.ref a1), (.long q2)])) rfl rfl (hb hby d7_2)
  refine Done.step st1 ?_
  show Done p e below s _ _ _ (T1.setTop (mkF m 5 #[.val (.ref a1), .val (.long q2), .second] [(.long u0_panesPerWindow), (.long q2)]))
  refine Done.step (fun t k => XS.lconst X1.here hx rfl (hb hby d7_5) k) ?_
  show Done p e below s _ _ _ (T1.setTop (mkF m 6 #[.val (.ref a1), .val (.long q2), .second] [(.long (1 : Int64)), (.long u0_panesPerWindow), (.long q2)]))
  refine Done.step (fun t k => XS.lsub X1.here hx rfl (hb hby d7_6) rfl k) ?_
  show Done p e below s _ _ _ (T1.setTop (mkF m 7 #[.val (.ref a1), .val (.long q2), .second] [(.long (u0_panesPerWindow - (1 : Int64))), (.long q2)]))
  refine Done.step (fun t k => XS.ladd X1.here hx rfl (hb hby d7_7) rfl k) ?_
  show Done p e below s _ _ _ (T1.setTop (mkF m 8 #[.val (.ref a1), .val (.long q2), .second] [(.long (q2 + (u0_panesPerWindow - (1 : Int64))))]))
  exact Done.long X1 hx hlk hret (hb hby d7_8) (by decide) (by decide) ⟨by rw [show F7 q2 u0_panesPerWindow = (q2 + (u0_panesPerWindow - (1 : Int64))) from by unfold F7; rfl] <;> rfl, N0, e1⟩
theorem d10_0 : decode prog_151_method_11_code 0 = .ok (.lload_n 1, 1) := by decide +kernel
theorem d10_1 : decode prog_151_method_11_code 1 = .ok (.ldc2_w 49, 3) := by decide +kernel
theorem d10_4 : decode prog_151_method_11_code 4 = .ok (.aload_n 0, 1) := by decide +kernel
theorem d10_5 : decode prog_151_method_11_code 5 = .ok (.getfield 20, 3) := by decide +kernel
theorem d10_8 : decode prog_151_method_11_code 8 = .ok (.ladd, 1) := by decide +kernel
theorem d10_9 : decode prog_151_method_11_code 9 = .ok (.lcmp, 1) := by decide +kernel
theorem d10_10 : decode prog_151_method_11_code 10 = .ok (.ifCond .lt 12, 3) := by decide +kernel
theorem d10_13 : decode prog_151_method_11_code 13 = .ok (.lload_n 1, 1) := by decide +kernel
theorem d10_14 : decode prog_151_method_11_code 14 = .ok (.aload_n 0, 1) := by decide +kernel
theorem d10_15 : decode prog_151_method_11_code 15 = .ok (.getfield 20, 3) := by decide +kernel
theorem d10_18 : decode prog_151_method_11_code 18 = .ok (.lsub, 1) := by decide +kernel
theorem d10_19 : decode prog_151_method_11_code 19 = .ok (.goto 6, 3) := by decide +kernel
theorem d10_22 : decode prog_151_method_11_code 22 = .ok (.ldc2_w 49, 3) := by decide +kernel
theorem d10_25 : decode prog_151_method_11_code 25 = .ok (.lreturn, 1) := by decide +kernel
def F10 (q2 : Int64) (u0_panesPerWindow : Int64) : Int64 := (if q2 < ((-9223372036854775808 : Int64) + u0_panesPerWindow) then (-9223372036854775808 : Int64)
  else (q2 - u0_panesPerWindow))
theorem pn_10 : plainName "weirstream/engine/WindowGeometry" = true := by first | (simp [plainName, overriddenIn]; done) | decide +kernel
theorem ef_10 (m : MethodId) (a1 : Addr) (q2 : Int64) : entryFrame m #[(.ref a1), (.long q2)] 3 = mkF m 0 #[.val (.ref a1), .val (.long q2), .second] [] := by first | (simp [entryFrame, mkF, argsToLocals, Value.category]; done) | rfl
def Qrm10 (Z : State) (a1 : Addr) (q2 : Int64) (u0_panesPerWindow : Int64) (h0 : Heap) (n0 : Nat) : Option Value → Heap → List Loc → Prop := fun v h L => v = some (.long (F10 q2 u0_panesPerWindow)) ∧ Fr n0 L ∧ h = h0
set_option maxRecDepth 65536 in
set_option maxHeartbeats 40000000 in
theorem rm10 (l : Launch) (Z : State) (a0 : Array Value) (hw : ∀ d ∈ tables_1, d.before a0 Z = true) (ws : List Jvm.Cond) (a1 : Addr) (q2 : Int64) (u0_panesPerWindow : Int64) (h0 : Heap) (n0 : Nat) (Z0 : n0 ≤ h0.size) (F0_panesPerWindow : Fld Z h0 a1 "weirstream/engine/WindowGeometry" "panesPerWindow" "J" (.long u0_panesPerWindow)) :
    MetFree l (⟨"weirstream/engine/WindowGeometry", "lastWindowEndingBy", "(J)J"⟩ : MethodName) (head1 (Jvm.Cond.code (⟨"weirstream/engine/WindowGeometry", "lastWindowEndingBy", "(J)J"⟩ : MethodName) prog_151_method_11_code 3 (some .long) :: ws) ({ frames := 0, cells := 0, slots := 0, locals := 0 } : Room)) (fun a U => a = #[(.ref a1), (.long q2)] ∧ Z.Warmed39 U.vm ∧ U.heap = h0) (fun _ _ _ _ _ => True) (fun _ U o U' => ∃ v L, o = .returned v ∧ Qrm10 Z a1 q2 u0_panesPerWindow h0 n0 v U'.heap L ∧ FrameEnd U o U' L ({ frames := 0, cells := 0, slots := 0, locals := 0 } : Room).cells ({ frames := 0, cells := 0, slots := 0, locals := 0 } : Room).slots) := by
  refine MetFree.of_bodySF (plainFor_of_name pn_10) hisR ?_
  intro p e s m args below meth c s₁ Bd hml0 hP hK
  obtain ⟨rfl, hZ, hh⟩ := hP
  have hx := Bd.exec
  have hby := Bd.bytes
  have hml : c.maxLocals = 3 := hml0
  have hown : s.vm.findClass "weirstream/engine/WindowGeometry" = some m.cls := findClass_of_methodNamed Bd.named
  have hnm := (name_of_methodNamed Bd.named Bd.method).1
  have hlk : meth.locks = false := BodyLoose.notSynchronized Bd
  have hret := Bd.returns
  have X0 : Stand p l e ({ frames := 0, cells := 0, slots := 0, locals := 0 } : Room) s m #[(.ref a1), (.long q2)] below meth c s₁ [] 0 0 := Stand.of_body Bd
  have e0 : s₁.heap = h0 := by rw [← hh, Bd.state]; rfl
  have N0 := Fr.nil n0
  show Done p e below s (Qrm10 Z a1 q2 u0_panesPerWindow h0 n0) ({ frames := 0, cells := 0, slots := 0, locals := 0 } : Room).cells ({ frames := 0, cells := 0, slots := 0, locals := 0 } : Room).slots (s₁.setTop (entryFrame m #[(.ref a1), (.long q2)] 3))
  refine Done.step (fun t k => castTop (ef_10 m a1 q2) k) ?_
  show Done p e below s _ _ _ (s₁.setTop (mkF m 0 #[.val (.ref a1), .val (.long q2), .second] []))
  refine Done.step (fun t k => XS.lloadN X0.here hx rfl (hb hby d10_0) rfl k) ?_
  show Done p e below s _ _ _ (s₁.setTop (mkF m 1 #[.val (.ref a1), .val (.long q2), .second] [(.long q2)]))
  refine Done.step (X0.ldc2Long hx hown (mvT hZ (hw _ (List.mem_of_getElem? (i := 48) rfl))) (g := (mkF m 1 #[.val (.ref a1), .val (.long q2), .second] [(.long q2)])) rfl (hb hby d10_1)) ?_
  show Done p e below s _ _ _ (s₁.setTop (mkF m 4 #[.val (.ref a1), .val (.long q2), .second] [(.long (-9223372036854775808 : Int64)), (.long q2)]))
  refine Done.step (fun t k => XS.aloadN X0.here hx rfl (hb hby d10_4) rfl rfl k) ?_
  show Done p e below s _ _ _ (s₁.setTop (mkF m 5 #[.val (.ref a1), .val (.long q2), .second] [(.ref a1), (.long (-9223372036854775808 : Int64)), (.long q2)]))
  obtain ⟨T1, X1, e1, st1⟩ := getF X0 hx hZ hown (host := "") (Or.inl (hw _ (List.mem_of_getElem? (i := 19) rfl))) Via.refl e0 F0_panesPerWindow (g := (mkF m 5 #[.val (.ref a1), .val (.long q2), .second] [(.ref a1), (.long (-9223372036854775808 : Int64)), (.long q2)])) rfl rfl (hb hby d10_5)
  refine Done.step st1 ?_
  show Done p e below s _ _ _ (T1.setTop (mkF m 8 #[.val (.ref a1), .val (.long q2), .second] [(.long u0_panesPerWindow), (.long (-9223372036854775808 : Int64)), (.long q2)]))
  refine Done.step (fun t k => XS.ladd X1.here hx rfl (hb hby d10_8) rfl k) ?_
  show Done p e below s _ _ _ (T1.setTop (mkF m 9 #[.val (.ref a1), .val (.long q2), .second] [(.long ((-9223372036854775808 : Int64) + u0_panesPerWindow)), (.long q2)]))
  refine Done.step (fun t k => XS.lcmp X1.here hx rfl (hb hby d10_9) rfl k) ?_
  show Done p e below s _ _ _ (T1.setTop (mkF m 10 #[.val (.ref a1), .val (.long q2), .second] [(.int (lcmpW q2 ((-9223372036854775808 : Int64) + u0_panesPerWindow)))]))
  by_cases c2 : q2 < ((-9223372036854775808 : Int64) + u0_panesPerWindow)
  · refine Done.step (fun t k => XS.ifYes X1.here hx rfl (pc0 := 10) (pc' := 22) rfl (hb hby d10_10) rfl ((if0 _ _).trans (tlt ((lw_lt _ _).mpr c2)).1) (by decide) (by decide) k) ?_
    show Done p e below s _ _ _ (T1.setTop (mkF m 22 #[.val (.ref a1), .val (.long q2), .second] []))
    refine Done.step (X1.ldc2Long hx hown (mvT hZ (hw _ (List.mem_of_getElem? (i := 48) rfl))) (g := (mkF m 22 #[.val (.ref a1), .val (.long q2), .second] [])) rfl (hb hby d10_22)) ?_
    show Done p e below s _ _ _ (T1.setTop (mkF m 25 #[.val (.ref a1), .val (.long q2), .second] [(.long (-9223372036854775808 : Int64))]))
    exact Done.long X1 hx hlk hret (hb hby d10_25) (by decide) (by decide) ⟨by rw [show F10 q2 u0_panesPerWindow = (-9223372036854775808 : Int64) from by unfold F10; rw [if_pos c2]] <;> rfl, N0, e1⟩
  · refine Done.step (fun t k => XS.ifNo X1.here hx rfl (hb hby d10_10) rfl ((if0 _ _).trans (flt (fun q_ => c2 ((lw_lt _ _).mp q_))).1) k) ?_
    show Done p e below s _ _ _ (T1.setTop (mkF m 13 #[.val (.ref a1), .val (.long q2), .second] []))
    refine Done.step (fun t k => XS.lloadN X1.here hx rfl (hb hby d10_13) rfl k) ?_
    show Done p e below s _ _ _ (T1.setTop (mkF m 14 #[.val (.ref a1), .val (.long q2), .second] [(.long q2)]))
    refine Done.step (fun t k => XS.aloadN X1.here hx rfl (hb hby d10_14) rfl rfl k) ?_
    show Done p e below s _ _ _ (T1.setTop (mkF m 15 #[.val (.ref a1), .val (.long q2), .second] [(.ref a1), (.long q2)]))
    obtain ⟨T3, X3, e3, st3⟩ := getF X1 hx hZ hown (host := "") (Or.inl (hw _ (List.mem_of_getElem? (i := 19) rfl))) Via.refl e1 F0_panesPerWindow (g := (mkF m 15 #[.val (.ref a1), .val (.long q2), .second] [(.ref a1), (.long q2)])) rfl rfl (hb hby d10_15)
    refine Done.step st3 ?_
    show Done p e below s _ _ _ (T3.setTop (mkF m 18 #[.val (.ref a1), .val (.long q2), .second] [(.long u0_panesPerWindow), (.long q2)]))
    refine Done.step (fun t k => XS.lsub X3.here hx rfl (hb hby d10_18) rfl k) ?_
    show Done p e below s _ _ _ (T3.setTop (mkF m 19 #[.val (.ref a1), .val (.long q2), .second] [(.long (q2 - u0_panesPerWindow))]))
    refine Done.step (fun t k => XS.goto X3.here hx rfl (pc0 := 19) (pc' := 25) rfl (hb hby d10_19) (by decide) (by decide) k) ?_
    show Done p e below s _ _ _ (T3.setTop (mkF m 25 #[.val (.ref a1), .val (.long q2), .second] [(.long (q2 - u0_panesPerWindow))]))
    exact Done.long X3 hx hlk hret (hb hby d10_25) (by decide) (by decide) ⟨by rw [show F10 q2 u0_panesPerWindow = (q2 - u0_panesPerWindow) from by unfold F10; rw [if_neg c2]] <;> rfl, N0, e3⟩
theorem d1_0 : decode prog_151_method_1_code 0 = .ok (.aload_n 0, 1) := by decide +kernel
theorem d1_1 : decode prog_151_method_1_code 1 = .ok (.invokespecial 1, 3) := by decide +kernel
theorem d1_4 : decode prog_151_method_1_code 4 = .ok (.aload_n 0, 1) := by decide +kernel
theorem d1_5 : decode prog_151_method_1_code 5 = .ok (.aload_n 1, 1) := by decide +kernel
theorem d1_6 : decode prog_151_method_1_code 6 = .ok (.putfield 7, 3) := by decide +kernel
theorem d1_9 : decode prog_151_method_1_code 9 = .ok (.aload_n 0, 1) := by decide +kernel
theorem d1_10 : decode prog_151_method_1_code 10 = .ok (.lload_n 2, 1) := by decide +kernel
theorem d1_11 : decode prog_151_method_1_code 11 = .ok (.putfield 13, 3) := by decide +kernel
theorem d1_14 : decode prog_151_method_1_code 14 = .ok (.aload_n 0, 1) := by decide +kernel
theorem d1_15 : decode prog_151_method_1_code 15 = .ok (.lload 4, 2) := by decide +kernel
theorem d1_17 : decode prog_151_method_1_code 17 = .ok (.putfield 17, 3) := by decide +kernel
theorem d1_20 : decode prog_151_method_1_code 20 = .ok (.aload_n 0, 1) := by decide +kernel
theorem d1_21 : decode prog_151_method_1_code 21 = .ok (.lload_n 2, 1) := by decide +kernel
theorem d1_22 : decode prog_151_method_1_code 22 = .ok (.lload 4, 2) := by decide +kernel
theorem d1_24 : decode prog_151_method_1_code 24 = .ok (.ldiv, 1) := by decide +kernel
theorem d1_25 : decode prog_151_method_1_code 25 = .ok (.putfield 20, 3) := by decide +kernel
theorem d1_28 : decode prog_151_method_1_code 28 = .ok (.aload_n 0, 1) := by decide +kernel
theorem d1_29 : decode prog_151_method_1_code 29 = .ok (.ldc2_w 25, 3) := by decide +kernel
theorem d1_32 : decode prog_151_method_1_code 32 = .ok (.lload 4, 2) := by decide +kernel
theorem d1_34 : decode prog_151_method_1_code 34 = .ok (.ldiv, 1) := by decide +kernel
theorem d1_35 : decode prog_151_method_1_code 35 = .ok (.lconst 1, 1) := by decide +kernel
theorem d1_36 : decode prog_151_method_1_code 36 = .ok (.lsub, 1) := by decide +kernel
theorem d1_37 : decode prog_151_method_1_code 37 = .ok (.putfield 27, 3) := by decide +kernel
theorem d1_40 : decode prog_151_method_1_code 40 = .ok (.aload_n 1, 1) := by decide +kernel
theorem d1_41 : decode prog_151_method_1_code 41 = .ok (.invokevirtual 30, 3) := by decide +kernel
theorem d1_44 : decode prog_151_method_1_code 44 = .ok (.lstore 6, 2) := by decide +kernel
theorem d1_46 : decode prog_151_method_1_code 46 = .ok (.aload_n 0, 1) := by decide +kernel
theorem d1_47 : decode prog_151_method_1_code 47 = .ok (.lload 6, 2) := by decide +kernel
theorem d1_49 : decode prog_151_method_1_code 49 = .ok (.invokevirtual 36, 3) := by decide +kernel
theorem d1_52 : decode prog_151_method_1_code 52 = .ok (.lload 6, 2) := by decide +kernel
theorem d1_54 : decode prog_151_method_1_code 54 = .ok (.lload 4, 2) := by decide +kernel
theorem d1_56 : decode prog_151_method_1_code 56 = .ok (.invokestatic 40, 3) := by decide +kernel
theorem d1_59 : decode prog_151_method_1_code 59 = .ok (.lconst 0, 1) := by decide +kernel
theorem d1_60 : decode prog_151_method_1_code 60 = .ok (.lcmp, 1) := by decide +kernel
theorem d1_61 : decode prog_151_method_1_code 61 = .ok (.ifCond .ne 7, 3) := by decide +kernel
theorem d1_64 : decode prog_151_method_1_code 64 = .ok (.iconst 0, 1) := by decide +kernel
theorem d1_65 : decode prog_151_method_1_code 65 = .ok (.goto 4, 3) := by decide +kernel
theorem d1_68 : decode prog_151_method_1_code 68 = .ok (.iconst 1, 1) := by decide +kernel
theorem d1_69 : decode prog_151_method_1_code 69 = .ok (.i2l, 1) := by decide +kernel
theorem d1_70 : decode prog_151_method_1_code 70 = .ok (.ladd, 1) := by decide +kernel
theorem d1_71 : decode prog_151_method_1_code 71 = .ok (.lstore 8, 2) := by decide +kernel
theorem d1_73 : decode prog_151_method_1_code 73 = .ok (.aload_n 0, 1) := by decide +kernel
theorem d1_74 : decode prog_151_method_1_code 74 = .ok (.aload_n 0, 1) := by decide +kernel
theorem d1_75 : decode prog_151_method_1_code 75 = .ok (.lload 8, 2) := by decide +kernel
theorem d1_77 : decode prog_151_method_1_code 77 = .ok (.invokevirtual 46, 3) := by decide +kernel
theorem d1_80 : decode prog_151_method_1_code 80 = .ok (.ldc2_w 49, 3) := by decide +kernel
theorem d1_83 : decode prog_151_method_1_code 83 = .ok (.aload_n 0, 1) := by decide +kernel
theorem d1_84 : decode prog_151_method_1_code 84 = .ok (.getfield 20, 3) := by decide +kernel
theorem d1_87 : decode prog_151_method_1_code 87 = .ok (.ladd, 1) := by decide +kernel
theorem d1_88 : decode prog_151_method_1_code 88 = .ok (.invokestatic 51, 3) := by decide +kernel
theorem d1_91 : decode prog_151_method_1_code 91 = .ok (.putfield 54, 3) := by decide +kernel
theorem d1_94 : decode prog_151_method_1_code 94 = .ok (.aload_n 0, 1) := by decide +kernel
theorem d1_95 : decode prog_151_method_1_code 95 = .ok (.aload_n 0, 1) := by decide +kernel
theorem d1_96 : decode prog_151_method_1_code 96 = .ok (.aload_n 1, 1) := by decide +kernel
theorem d1_97 : decode prog_151_method_1_code 97 = .ok (.invokevirtual 57, 3) := by decide +kernel
theorem d1_100 : decode prog_151_method_1_code 100 = .ok (.lload_n 2, 1) := by decide +kernel
theorem d1_101 : decode prog_151_method_1_code 101 = .ok (.lsub, 1) := by decide +kernel
theorem d1_102 : decode prog_151_method_1_code 102 = .ok (.invokevirtual 36, 3) := by decide +kernel
theorem d1_105 : decode prog_151_method_1_code 105 = .ok (.putfield 60, 3) := by decide +kernel
theorem d1_108 : decode prog_151_method_1_code 108 = .ok (.aload_n 0, 1) := by decide +kernel
theorem d1_109 : decode prog_151_method_1_code 109 = .ok (.getfield 54, 3) := by decide +kernel
theorem d1_112 : decode prog_151_method_1_code 112 = .ok (.aload_n 0, 1) := by decide +kernel
theorem d1_113 : decode prog_151_method_1_code 113 = .ok (.getfield 60, 3) := by decide +kernel
theorem d1_116 : decode prog_151_method_1_code 116 = .ok (.lcmp, 1) := by decide +kernel
theorem d1_117 : decode prog_151_method_1_code 117 = .ok (.ifCond .gt 33, 3) := by decide +kernel
theorem d1_120 : decode prog_151_method_1_code 120 = .ok (.aload_n 0, 1) := by decide +kernel
theorem d1_121 : decode prog_151_method_1_code 121 = .ok (.aload_n 0, 1) := by decide +kernel
theorem d1_122 : decode prog_151_method_1_code 122 = .ok (.getfield 54, 3) := by decide +kernel
theorem d1_125 : decode prog_151_method_1_code 125 = .ok (.lload 4, 2) := by decide +kernel
theorem d1_127 : decode prog_151_method_1_code 127 = .ok (.lmul, 1) := by decide +kernel
theorem d1_128 : decode prog_151_method_1_code 128 = .ok (.putfield 63, 3) := by decide +kernel
theorem d1_131 : decode prog_151_method_1_code 131 = .ok (.aload_n 0, 1) := by decide +kernel
theorem d1_132 : decode prog_151_method_1_code 132 = .ok (.aload_n 0, 1) := by decide +kernel
theorem d1_133 : decode prog_151_method_1_code 133 = .ok (.getfield 60, 3) := by decide +kernel
theorem d1_136 : decode prog_151_method_1_code 136 = .ok (.lload 4, 2) := by decide +kernel
theorem d1_138 : decode prog_151_method_1_code 138 = .ok (.lmul, 1) := by decide +kernel
theorem d1_139 : decode prog_151_method_1_code 139 = .ok (.lload 4, 2) := by decide +kernel
theorem d1_141 : decode prog_151_method_1_code 141 = .ok (.lconst 1, 1) := by decide +kernel
theorem d1_142 : decode prog_151_method_1_code 142 = .ok (.lsub, 1) := by decide +kernel
theorem d1_143 : decode prog_151_method_1_code 143 = .ok (.ladd, 1) := by decide +kernel
theorem d1_144 : decode prog_151_method_1_code 144 = .ok (.putfield 66, 3) := by decide +kernel
theorem d1_147 : decode prog_151_method_1_code 147 = .ok (.goto 17, 3) := by decide +kernel
theorem d1_150 : decode prog_151_method_1_code 150 = .ok (.aload_n 0, 1) := by decide +kernel
theorem d1_151 : decode prog_151_method_1_code 151 = .ok (.ldc2_w 25, 3) := by decide +kernel
theorem d1_154 : decode prog_151_method_1_code 154 = .ok (.putfield 63, 3) := by decide +kernel
theorem d1_157 : decode prog_151_method_1_code 157 = .ok (.aload_n 0, 1) := by decide +kernel
theorem d1_158 : decode prog_151_method_1_code 158 = .ok (.ldc2_w 49, 3) := by decide +kernel
theorem d1_161 : decode prog_151_method_1_code 161 = .ok (.putfield 66, 3) := by decide +kernel
theorem d1_164 : decode prog_151_method_1_code 164 = .ok (.return_, 1) := by decide +kernel
theorem pn_1 : plainName "weirstream/engine/WindowGeometry" = true := by first | (simp [plainName, overriddenIn]; done) | decide +kernel
theorem ef_1 (m : MethodId) (a1 : Addr) (a2 : Addr) (q3 : Int64) (q4 : Int64) : entryFrame m #[(.ref a1), (.ref a2), (.long q3), (.long q4)] 10 = mkF m 0 #[.val (.ref a1), .val (.ref a2), .val (.long q3), .second, .val (.long q4), .second, .unset, .unset, .unset, .unset] [] := by first | (simp [entryFrame, mkF, argsToLocals, Value.category]; done) | rfl
def Qrm1 (Z : State) (a1 : Addr) (a2 : Addr) (q3 : Int64) (q4 : Int64) (h0 : Heap) (n0 : Nat) : Option Value → Heap → List Loc → Prop := fun v h L => v = none ∧ Fr n0 L ∧ Keep h0 h [a1] ∧ Exa Z h a1 "weirstream/engine/WindowGeometry" ∧ Fld Z h a1 "weirstream/engine/WindowGeometry" "panesPerWindow" "J" (.long (q3 / q4))
set_option maxRecDepth 65536 in
set_option maxHeartbeats 40000000 in
theorem rm1 (l : Launch) (Z : State) (a0 : Array Value) (hw : ∀ d ∈ tables_1, d.before a0 Z = true) (ws : List Jvm.Cond) (a1 : Addr) (a2 : Addr) (q3 : Int64) (q4 : Int64) (h0 : Heap) (n0 : Nat) (Z0 : n0 ≤ h0.size) (E1 : Exa Z h0 a1 "weirstream/engine/WindowGeometry") (F_axis : Fld Z h0 a1 "weirstream/engine/WindowGeometry" "axis" "Lweirstream/engine/WindowAxis;" .null) (F_range : Fld Z h0 a1 "weirstream/engine/WindowGeometry" "range" "J" (.long (0 : Int64))) (F_slide : Fld Z h0 a1 "weirstream/engine/WindowGeometry" "slide" "J" (.long (0 : Int64))) (F_panesPerWindow : Fld Z h0 a1 "weirstream/engine/WindowGeometry" "panesPerWindow" "J" (.long (0 : Int64))) (F_highestEnding : Fld Z h0 a1 "weirstream/engine/WindowGeometry" "highestEnding" "J" (.long (0 : Int64))) (F_lowestPane : Fld Z h0 a1 "weirstream/engine/WindowGeometry" "lowestPane" "J" (.long (0 : Int64))) (F_highestPane : Fld Z h0 a1 "weirstream/engine/WindowGeometry" "highestPane" "J" (.long (0 : Int64))) (F_lowestValue : Fld Z h0 a1 "weirstream/engine/WindowGeometry" "lowestValue" "J" (.long (0 : Int64))) (F_highestValue : Fld Z h0 a1 "weirstream/engine/WindowGeometry" "highestValue" "J" (.long (0 : Int64))) (g1 : n0 ≤ a1) (Ea : Exa Z h0 a2 "weirstream/engine/WindowAxis$1") (Fl : Fld Z h0 a2 "weirstream/engine/WindowAxis" "lowest" "J" (.long (-9223372036854775808 : Int64))) (Fh : Fld Z h0 a2 "weirstream/engine/WindowAxis" "highest" "J" (.long (9223372036854775807 : Int64))) (hnz : ¬ q4 = (0 : Int64)) :
    MetFree l (⟨"weirstream/engine/WindowGeometry", "<init>", "(Lweirstream/engine/WindowAxis;JJ)V"⟩ : MethodName) (head1 (Jvm.Cond.code (⟨"weirstream/engine/WindowGeometry", "<init>", "(Lweirstream/engine/WindowAxis;JJ)V"⟩ : MethodName) prog_151_method_1_code 10 none :: ws) ({ frames := 2, cells := 0, slots := 0, locals := 32 } : Room)) (fun a U => a = #[(.ref a1), (.ref a2), (.long q3), (.long q4)] ∧ Z.Warmed39 U.vm ∧ U.heap = h0) (fun _ _ _ _ _ => True) (fun _ U o U' => ∃ v L, o = .returned v ∧ Qrm1 Z a1 a2 q3 q4 h0 n0 v U'.heap L ∧ FrameEnd U o U' L ({ frames := 2, cells := 0, slots := 0, locals := 32 } : Room).cells ({ frames := 2, cells := 0, slots := 0, locals := 32 } : Room).slots) := by
  refine MetFree.of_bodySF (plainFor_of_name pn_1) hisR ?_
  intro p e s m args below meth c s₁ Bd hml0 hP hK
  obtain ⟨rfl, hZ, hh⟩ := hP
  have hx := Bd.exec
  have hby := Bd.bytes
  have hml : c.maxLocals = 10 := hml0
  have hown : s.vm.findClass "weirstream/engine/WindowGeometry" = some m.cls := findClass_of_methodNamed Bd.named
  have hnm := (name_of_methodNamed Bd.named Bd.method).1
  have hlk : meth.locks = false := BodyLoose.notSynchronized Bd
  have hret := Bd.returns
  have X0 : Stand p l e ({ frames := 2, cells := 0, slots := 0, locals := 32 } : Room) s m #[(.ref a1), (.ref a2), (.long q3), (.long q4)] below meth c s₁ [] 0 0 := Stand.of_body Bd
  have e0 : s₁.heap = h0 := by rw [← hh, Bd.state]; rfl
  have N0 := Fr.nil n0
  show Done p e below s (Qrm1 Z a1 a2 q3 q4 h0 n0) ({ frames := 2, cells := 0, slots := 0, locals := 32 } : Room).cells ({ frames := 2, cells := 0, slots := 0, locals := 32 } : Room).slots (s₁.setTop (entryFrame m #[(.ref a1), (.ref a2), (.long q3), (.long q4)] 10))
  refine Done.step (fun t k => castTop (ef_1 m a1 a2 q3 q4) k) ?_
  show Done p e below s _ _ _ (s₁.setTop (mkF m 0 #[.val (.ref a1), .val (.ref a2), .val (.long q3), .second, .val (.long q4), .second, .unset, .unset, .unset, .unset] []))
  refine Done.step (fun t k => XS.aloadN X0.here hx rfl (hb hby d1_0) rfl rfl k) ?_
  show Done p e below s _ _ _ (s₁.setTop (mkF m 1 #[.val (.ref a1), .val (.ref a2), .val (.long q3), .second, .val (.long q4), .second, .unset, .unset, .unset, .unset] [(.ref a1)]))
  obtain ⟨T1, X1, e1, st1⟩ := initO X0 hx hZ hown (hw _ (List.mem_of_getElem? (i := 10) rfl)) (hw _ (List.mem_of_getElem? (i := 11) rfl)) (hw _ (List.mem_of_getElem? (i := 12) rfl)) e0 (g := (mkF m 1 #[.val (.ref a1), .val (.ref a2), .val (.long q3), .second, .val (.long q4), .second, .unset, .unset, .unset, .unset] [(.ref a1)])) rfl (by rw [hml]; rfl) rfl (hb hby d1_1) (by decide) (W := 0) (by show 2 * 0 + _ ≤ _; exact Nat.le_of_eq rfl) (by decide)
  refine Done.step st1 ?_
  show Done p e below s _ _ _ (T1.setTop (mkF m 4 #[.val (.ref a1), .val (.ref a2), .val (.long q3), .second, .val (.long q4), .second, .unset, .unset, .unset, .unset] []))
  refine Done.step (fun t k => XS.aloadN X1.here hx rfl (hb hby d1_4) rfl rfl k) ?_
  show Done p e below s _ _ _ (T1.setTop (mkF m 5 #[.val (.ref a1), .val (.ref a2), .val (.long q3), .second, .val (.long q4), .second, .unset, .unset, .unset, .unset] [(.ref a1)]))
  refine Done.step (fun t k => XS.aloadN X1.here hx rfl (hb hby d1_5) rfl rfl k) ?_
  show Done p e below s _ _ _ (T1.setTop (mkF m 6 #[.val (.ref a1), .val (.ref a2), .val (.long q3), .second, .val (.long q4), .second, .unset, .unset, .unset, .unset] [(.ref a2), (.ref a1)]))
  obtain ⟨T2, h2, X2, e2, W2, st2⟩ := putF X1 hx hZ hown (host := "") (Or.inl (hw _ (List.mem_of_getElem? (i := 13) rfl))) Via.refl e1 F_axis E1 (Or.inr ⟨(hw _ (List.mem_of_getElem? (i := 14) rfl)), rfl, hnm⟩) (hw _ (List.mem_of_getElem? (i := 2) rfl)) (ty := (.object "weirstream/engine/WindowAxis")) (by decide) rfl rfl (g := (mkF m 6 #[.val (.ref a1), .val (.ref a2), .val (.long q3), .second, .val (.long q4), .second, .unset, .unset, .unset, .unset] [(.ref a2), (.ref a1)])) rfl rfl (hb hby d1_6)
  have f3 : Exa Z h2 a1 "weirstream/engine/WindowGeometry" := E1.wr W2
  have f4 : Fld Z h2 a1 "weirstream/engine/WindowGeometry" "axis" "Lweirstream/engine/WindowAxis;" (.ref a2) := F_axis.same W2
  have f5 : Fld Z h2 a1 "weirstream/engine/WindowGeometry" "range" "J" (.long (0 : Int64)) := F_range.other W2 (Or.inr (slot_ne (Or.inr (hw _ (List.mem_of_getElem? (i := 16) rfl))) (Or.inr (hw _ (List.mem_of_getElem? (i := 14) rfl))) (by decide) (t := .long) (t' := (.object "weirstream/engine/WindowAxis")) (by decide) (by decide)))
  have f6 : Fld Z h2 a1 "weirstream/engine/WindowGeometry" "slide" "J" (.long (0 : Int64)) := F_slide.other W2 (Or.inr (slot_ne (Or.inr (hw _ (List.mem_of_getElem? (i := 18) rfl))) (Or.inr (hw _ (List.mem_of_getElem? (i := 14) rfl))) (by decide) (t := .long) (t' := (.object "weirstream/engine/WindowAxis")) (by decide) (by decide)))
  have f7 : Fld Z h2 a1 "weirstream/engine/WindowGeometry" "panesPerWindow" "J" (.long (0 : Int64)) := F_panesPerWindow.other W2 (Or.inr (slot_ne (Or.inr (hw _ (List.mem_of_getElem? (i := 20) rfl))) (Or.inr (hw _ (List.mem_of_getElem? (i := 14) rfl))) (by decide) (t := .long) (t' := (.object "weirstream/engine/WindowAxis")) (by decide) (by decide)))
  have f8 : Fld Z h2 a1 "weirstream/engine/WindowGeometry" "highestEnding" "J" (.long (0 : Int64)) := F_highestEnding.other W2 (Or.inr (slot_ne (Or.inr (hw _ (List.mem_of_getElem? (i := 23) rfl))) (Or.inr (hw _ (List.mem_of_getElem? (i := 14) rfl))) (by decide) (t := .long) (t' := (.object "weirstream/engine/WindowAxis")) (by decide) (by decide)))
  have f9 : Fld Z h2 a1 "weirstream/engine/WindowGeometry" "lowestPane" "J" (.long (0 : Int64)) := F_lowestPane.other W2 (Or.inr (slot_ne (Or.inr (hw _ (List.mem_of_getElem? (i := 53) rfl))) (Or.inr (hw _ (List.mem_of_getElem? (i := 14) rfl))) (by decide) (t := .long) (t' := (.object "weirstream/engine/WindowAxis")) (by decide) (by decide)))
  have f10 : Fld Z h2 a1 "weirstream/engine/WindowGeometry" "highestPane" "J" (.long (0 : Int64)) := F_highestPane.other W2 (Or.inr (slot_ne (Or.inr (hw _ (List.mem_of_getElem? (i := 62) rfl))) (Or.inr (hw _ (List.mem_of_getElem? (i := 14) rfl))) (by decide) (t := .long) (t' := (.object "weirstream/engine/WindowAxis")) (by decide) (by decide)))
  have f11 : Fld Z h2 a1 "weirstream/engine/WindowGeometry" "lowestValue" "J" (.long (0 : Int64)) := F_lowestValue.other W2 (Or.inr (slot_ne (Or.inr (hw _ (List.mem_of_getElem? (i := 64) rfl))) (Or.inr (hw _ (List.mem_of_getElem? (i := 14) rfl))) (by decide) (t := .long) (t' := (.object "weirstream/engine/WindowAxis")) (by decide) (by decide)))
  have f12 : Fld Z h2 a1 "weirstream/engine/WindowGeometry" "highestValue" "J" (.long (0 : Int64)) := F_highestValue.other W2 (Or.inr (slot_ne (Or.inr (hw _ (List.mem_of_getElem? (i := 66) rfl))) (Or.inr (hw _ (List.mem_of_getElem? (i := 14) rfl))) (by decide) (t := .long) (t' := (.object "weirstream/engine/WindowAxis")) (by decide) (by decide)))
  have f13 : Exa Z h2 a2 "weirstream/engine/WindowAxis$1" := Ea.wr W2
  have f14 : Fld Z h2 a2 "weirstream/engine/WindowAxis" "lowest" "J" (.long (-9223372036854775808 : Int64)) := Fl.other W2 (Or.inl (Ne.symm (ne_exa E1 Ea (by decide))))
  have f15 : Fld Z h2 a2 "weirstream/engine/WindowAxis" "highest" "J" (.long (9223372036854775807 : Int64)) := Fh.other W2 (Or.inl (Ne.symm (ne_exa E1 Ea (by decide))))
  have Z2 : n0 ≤ h2.size := Nat.le_trans Z0 (Keep.of_wr W2).1
  have N2 := Fr.snoc X2 N0 g1
  have K2 : Keep h0 h2 [a1] := (Keep.refl h0 [a1]).wr W2 (Or.inl (by simp))
  refine Done.step st2 ?_
  show Done p e below s _ _ _ (T2.setTop (mkF m 9 #[.val (.ref a1), .val (.ref a2), .val (.long q3), .second, .val (.long q4), .second, .unset, .unset, .unset, .unset] []))
  refine Done.step (fun t k => XS.aloadN X2.here hx rfl (hb hby d1_9) rfl rfl k) ?_
  show Done p e below s _ _ _ (T2.setTop (mkF m 10 #[.val (.ref a1), .val (.ref a2), .val (.long q3), .second, .val (.long q4), .second, .unset, .unset, .unset, .unset] [(.ref a1)]))
  refine Done.step (fun t k => XS.lloadN X2.here hx rfl (hb hby d1_10) rfl k) ?_
  show Done p e below s _ _ _ (T2.setTop (mkF m 11 #[.val (.ref a1), .val (.ref a2), .val (.long q3), .second, .val (.long q4), .second, .unset, .unset, .unset, .unset] [(.long q3), (.ref a1)]))
  obtain ⟨T16, h16, X16, e16, W16, st16⟩ := putF X2 hx hZ hown (host := "") (Or.inl (hw _ (List.mem_of_getElem? (i := 15) rfl))) Via.refl e2 f5 f3 (Or.inr ⟨(hw _ (List.mem_of_getElem? (i := 16) rfl)), rfl, hnm⟩) (hw _ (List.mem_of_getElem? (i := 2) rfl)) (ty := .long) (by decide) rfl rfl (g := (mkF m 11 #[.val (.ref a1), .val (.ref a2), .val (.long q3), .second, .val (.long q4), .second, .unset, .unset, .unset, .unset] [(.long q3), (.ref a1)])) rfl rfl (hb hby d1_11)
  have f17 : Exa Z h16 a1 "weirstream/engine/WindowGeometry" := f3.wr W16
  have f18 : Fld Z h16 a1 "weirstream/engine/WindowGeometry" "axis" "Lweirstream/engine/WindowAxis;" (.ref a2) := f4.other W16 (Or.inr (slot_ne (Or.inr (hw _ (List.mem_of_getElem? (i := 14) rfl))) (Or.inr (hw _ (List.mem_of_getElem? (i := 16) rfl))) (by decide) (t := (.object "weirstream/engine/WindowAxis")) (t' := .long) (by decide) (by decide)))
  have f19 : Fld Z h16 a1 "weirstream/engine/WindowGeometry" "range" "J" (.long q3) := f5.same W16
  have f20 : Fld Z h16 a1 "weirstream/engine/WindowGeometry" "slide" "J" (.long (0 : Int64)) := f6.other W16 (Or.inr (slot_ne (Or.inr (hw _ (List.mem_of_getElem? (i := 18) rfl))) (Or.inr (hw _ (List.mem_of_getElem? (i := 16) rfl))) (by decide) (t := .long) (t' := .long) (by decide) (by decide)))
  have f21 : Fld Z h16 a1 "weirstream/engine/WindowGeometry" "panesPerWindow" "J" (.long (0 : Int64)) := f7.other W16 (Or.inr (slot_ne (Or.inr (hw _ (List.mem_of_getElem? (i := 20) rfl))) (Or.inr (hw _ (List.mem_of_getElem? (i := 16) rfl))) (by decide) (t := .long) (t' := .long) (by decide) (by decide)))
  have f22 : Fld Z h16 a1 "weirstream/engine/WindowGeometry" "highestEnding" "J" (.long (0 : Int64)) := f8.other W16 (Or.inr (slot_ne (Or.inr (hw _ (List.mem_of_getElem? (i := 23) rfl))) (Or.inr (hw _ (List.mem_of_getElem? (i := 16) rfl))) (by decide) (t := .long) (t' := .long) (by decide) (by decide)))
  have f23 : Fld Z h16 a1 "weirstream/engine/WindowGeometry" "lowestPane" "J" (.long (0 : Int64)) := f9.other W16 (Or.inr (slot_ne (Or.inr (hw _ (List.mem_of_getElem? (i := 53) rfl))) (Or.inr (hw _ (List.mem_of_getElem? (i := 16) rfl))) (by decide) (t := .long) (t' := .long) (by decide) (by decide)))
  have f24 : Fld Z h16 a1 "weirstream/engine/WindowGeometry" "highestPane" "J" (.long (0 : Int64)) := f10.other W16 (Or.inr (slot_ne (Or.inr (hw _ (List.mem_of_getElem? (i := 62) rfl))) (Or.inr (hw _ (List.mem_of_getElem? (i := 16) rfl))) (by decide) (t := .long) (t' := .long) (by decide) (by decide)))
  have f25 : Fld Z h16 a1 "weirstream/engine/WindowGeometry" "lowestValue" "J" (.long (0 : Int64)) := f11.other W16 (Or.inr (slot_ne (Or.inr (hw _ (List.mem_of_getElem? (i := 64) rfl))) (Or.inr (hw _ (List.mem_of_getElem? (i := 16) rfl))) (by decide) (t := .long) (t' := .long) (by decide) (by decide)))
  have f26 : Fld Z h16 a1 "weirstream/engine/WindowGeometry" "highestValue" "J" (.long (0 : Int64)) := f12.other W16 (Or.inr (slot_ne (Or.inr (hw _ (List.mem_of_getElem? (i := 66) rfl))) (Or.inr (hw _ (List.mem_of_getElem? (i := 16) rfl))) (by decide) (t := .long) (t' := .long) (by decide) (by decide)))
  have f27 : Exa Z h16 a2 "weirstream/engine/WindowAxis$1" := f13.wr W16
  have f28 : Fld Z h16 a2 "weirstream/engine/WindowAxis" "lowest" "J" (.long (-9223372036854775808 : Int64)) := f14.other W16 (Or.inl (Ne.symm (ne_exa E1 Ea (by decide))))
  have f29 : Fld Z h16 a2 "weirstream/engine/WindowAxis" "highest" "J" (.long (9223372036854775807 : Int64)) := f15.other W16 (Or.inl (Ne.symm (ne_exa E1 Ea (by decide))))
  have Z16 : n0 ≤ h16.size := Nat.le_trans Z2 (Keep.of_wr W16).1
  have N16 := Fr.snoc X16 N2 g1
  have K16 : Keep h0 h16 [a1] := K2.wr W16 (Or.inl (by simp))
  refine Done.step st16 ?_
  show Done p e below s _ _ _ (T16.setTop (mkF m 14 #[.val (.ref a1), .val (.ref a2), .val (.long q3), .second, .val (.long q4), .second, .unset, .unset, .unset, .unset] []))
  refine Done.step (fun t k => XS.aloadN X16.here hx rfl (hb hby d1_14) rfl rfl k) ?_
  show Done p e below s _ _ _ (T16.setTop (mkF m 15 #[.val (.ref a1), .val (.ref a2), .val (.long q3), .second, .val (.long q4), .second, .unset, .unset, .unset, .unset] [(.ref a1)]))
  refine Done.step (fun t k => XS.lload X16.here hx rfl (hb hby d1_15) rfl k) ?_
  show Done p e below s _ _ _ (T16.setTop (mkF m 17 #[.val (.ref a1), .val (.ref a2), .val (.long q3), .second, .val (.long q4), .second, .unset, .unset, .unset, .unset] [(.long q4), (.ref a1)]))
  obtain ⟨T30, h30, X30, e30, W30, st30⟩ := putF X16 hx hZ hown (host := "") (Or.inl (hw _ (List.mem_of_getElem? (i := 17) rfl))) Via.refl e16 f20 f17 (Or.inr ⟨(hw _ (List.mem_of_getElem? (i := 18) rfl)), rfl, hnm⟩) (hw _ (List.mem_of_getElem? (i := 2) rfl)) (ty := .long) (by decide) rfl rfl (g := (mkF m 17 #[.val (.ref a1), .val (.ref a2), .val (.long q3), .second, .val (.long q4), .second, .unset, .unset, .unset, .unset] [(.long q4), (.ref a1)])) rfl rfl (hb hby d1_17)
  have f31 : Exa Z h30 a1 "weirstream/engine/WindowGeometry" := f17.wr W30
  have f32 : Fld Z h30 a1 "weirstream/engine/WindowGeometry" "axis" "Lweirstream/engine/WindowAxis;" (.ref a2) := f18.other W30 (Or.inr (slot_ne (Or.inr (hw _ (List.mem_of_getElem? (i := 14) rfl))) (Or.inr (hw _ (List.mem_of_getElem? (i := 18) rfl))) (by decide) (t := (.object "weirstream/engine/WindowAxis")) (t' := .long) (by decide) (by decide)))
  have f33 : Fld Z h30 a1 "weirstream/engine/WindowGeometry" "range" "J" (.long q3) := f19.other W30 (Or.inr (slot_ne (Or.inr (hw _ (List.mem_of_getElem? (i := 16) rfl))) (Or.inr (hw _ (List.mem_of_getElem? (i := 18) rfl))) (by decide) (t := .long) (t' := .long) (by decide) (by decide)))
  have f34 : Fld Z h30 a1 "weirstream/engine/WindowGeometry" "slide" "J" (.long q4) := f20.same W30
  have f35 : Fld Z h30 a1 "weirstream/engine/WindowGeometry" "panesPerWindow" "J" (.long (0 : Int64)) := f21.other W30 (Or.inr (slot_ne (Or.inr (hw _ (List.mem_of_getElem? (i := 20) rfl))) (Or.inr (hw _ (List.mem_of_getElem? (i := 18) rfl))) (by decide) (t := .long) (t' := .long) (by decide) (by decide)))
  have f36 : Fld Z h30 a1 "weirstream/engine/WindowGeometry" "highestEnding" "J" (.long (0 : Int64)) := f22.other W30 (Or.inr (slot_ne (Or.inr (hw _ (List.mem_of_getElem? (i := 23) rfl))) (Or.inr (hw _ (List.mem_of_getElem? (i := 18) rfl))) (by decide) (t := .long) (t' := .long) (by decide) (by decide)))
  have f37 : Fld Z h30 a1 "weirstream/engine/WindowGeometry" "lowestPane" "J" (.long (0 : Int64)) := f23.other W30 (Or.inr (slot_ne (Or.inr (hw _ (List.mem_of_getElem? (i := 53) rfl))) (Or.inr (hw _ (List.mem_of_getElem? (i := 18) rfl))) (by decide) (t := .long) (t' := .long) (by decide) (by decide)))
  have f38 : Fld Z h30 a1 "weirstream/engine/WindowGeometry" "highestPane" "J" (.long (0 : Int64)) := f24.other W30 (Or.inr (slot_ne (Or.inr (hw _ (List.mem_of_getElem? (i := 62) rfl))) (Or.inr (hw _ (List.mem_of_getElem? (i := 18) rfl))) (by decide) (t := .long) (t' := .long) (by decide) (by decide)))
  have f39 : Fld Z h30 a1 "weirstream/engine/WindowGeometry" "lowestValue" "J" (.long (0 : Int64)) := f25.other W30 (Or.inr (slot_ne (Or.inr (hw _ (List.mem_of_getElem? (i := 64) rfl))) (Or.inr (hw _ (List.mem_of_getElem? (i := 18) rfl))) (by decide) (t := .long) (t' := .long) (by decide) (by decide)))
  have f40 : Fld Z h30 a1 "weirstream/engine/WindowGeometry" "highestValue" "J" (.long (0 : Int64)) := f26.other W30 (Or.inr (slot_ne (Or.inr (hw _ (List.mem_of_getElem? (i := 66) rfl))) (Or.inr (hw _ (List.mem_of_getElem? (i := 18) rfl))) (by decide) (t := .long) (t' := .long) (by decide) (by decide)))
  have f41 : Exa Z h30 a2 "weirstream/engine/WindowAxis$1" := f27.wr W30
  have f42 : Fld Z h30 a2 "weirstream/engine/WindowAxis" "lowest" "J" (.long (-9223372036854775808 : Int64)) := f28.other W30 (Or.inl (Ne.symm (ne_exa E1 Ea (by decide))))
  have f43 : Fld Z h30 a2 "weirstream/engine/WindowAxis" "highest" "J" (.long (9223372036854775807 : Int64)) := f29.other W30 (Or.inl (Ne.symm (ne_exa E1 Ea (by decide))))
  have Z30 : n0 ≤ h30.size := Nat.le_trans Z16 (Keep.of_wr W30).1
  have N30 := Fr.snoc X30 N16 g1
  have K30 : Keep h0 h30 [a1] := K16.wr W30 (Or.inl (by simp))
  refine Done.step st30 ?_
  show Done p e below s _ _ _ (T30.setTop (mkF m 20 #[.val (.ref a1), .val (.ref a2), .val (.long q3), .second, .val (.long q4), .second, .unset, .unset, .unset, .unset] []))
  refine Done.step (fun t k => XS.aloadN X30.here hx rfl (hb hby d1_20) rfl rfl k) ?_
  show Done p e below s _ _ _ (T30.setTop (mkF m 21 #[.val (.ref a1), .val (.ref a2), .val (.long q3), .second, .val (.long q4), .second, .unset, .unset, .unset, .unset] [(.ref a1)]))
  refine Done.step (fun t k => XS.lloadN X30.here hx rfl (hb hby d1_21) rfl k) ?_
  show Done p e below s _ _ _ (T30.setTop (mkF m 22 #[.val (.ref a1), .val (.ref a2), .val (.long q3), .second, .val (.long q4), .second, .unset, .unset, .unset, .unset] [(.long q3), (.ref a1)]))
  refine Done.step (fun t k => XS.lload X30.here hx rfl (hb hby d1_22) rfl k) ?_
  show Done p e below s _ _ _ (T30.setTop (mkF m 24 #[.val (.ref a1), .val (.ref a2), .val (.long q3), .second, .val (.long q4), .second, .unset, .unset, .unset, .unset] [(.long q4), (.long q3), (.ref a1)]))
  refine Done.step (fun t k => XS.ldiv X30.here hx rfl (hb hby d1_24) rfl hnz k) ?_
  show Done p e below s _ _ _ (T30.setTop (mkF m 25 #[.val (.ref a1), .val (.ref a2), .val (.long q3), .second, .val (.long q4), .second, .unset, .unset, .unset, .unset] [(.long (q3 / q4)), (.ref a1)]))
  obtain ⟨T44, h44, X44, e44, W44, st44⟩ := putF X30 hx hZ hown (host := "") (Or.inl (hw _ (List.mem_of_getElem? (i := 19) rfl))) Via.refl e30 f35 f31 (Or.inr ⟨(hw _ (List.mem_of_getElem? (i := 20) rfl)), rfl, hnm⟩) (hw _ (List.mem_of_getElem? (i := 2) rfl)) (ty := .long) (by decide) rfl rfl (g := (mkF m 25 #[.val (.ref a1), .val (.ref a2), .val (.long q3), .second, .val (.long q4), .second, .unset, .unset, .unset, .unset] [(.long (q3 / q4)), (.ref a1)])) rfl rfl (hb hby d1_25)
  have f45 : Exa Z h44 a1 "weirstream/engine/WindowGeometry" := f31.wr W44
  have f46 : Fld Z h44 a1 "weirstream/engine/WindowGeometry" "axis" "Lweirstream/engine/WindowAxis;" (.ref a2) := f32.other W44 (Or.inr (slot_ne (Or.inr (hw _ (List.mem_of_getElem? (i := 14) rfl))) (Or.inr (hw _ (List.mem_of_getElem? (i := 20) rfl))) (by decide) (t := (.object "weirstream/engine/WindowAxis")) (t' := .long) (by decide) (by decide)))
  have f47 : Fld Z h44 a1 "weirstream/engine/WindowGeometry" "range" "J" (.long q3) := f33.other W44 (Or.inr (slot_ne (Or.inr (hw _ (List.mem_of_getElem? (i := 16) rfl))) (Or.inr (hw _ (List.mem_of_getElem? (i := 20) rfl))) (by decide) (t := .long) (t' := .long) (by decide) (by decide)))
  have f48 : Fld Z h44 a1 "weirstream/engine/WindowGeometry" "slide" "J" (.long q4) := f34.other W44 (Or.inr (slot_ne (Or.inr (hw _ (List.mem_of_getElem? (i := 18) rfl))) (Or.inr (hw _ (List.mem_of_getElem? (i := 20) rfl))) (by decide) (t := .long) (t' := .long) (by decide) (by decide)))
  have f49 : Fld Z h44 a1 "weirstream/engine/WindowGeometry" "panesPerWindow" "J" (.long (q3 / q4)) := f35.same W44
  have f50 : Fld Z h44 a1 "weirstream/engine/WindowGeometry" "highestEnding" "J" (.long (0 : Int64)) := f36.other W44 (Or.inr (slot_ne (Or.inr (hw _ (List.mem_of_getElem? (i := 23) rfl))) (Or.inr (hw _ (List.mem_of_getElem? (i := 20) rfl))) (by decide) (t := .long) (t' := .long) (by decide) (by decide)))
  have f51 : Fld Z h44 a1 "weirstream/engine/WindowGeometry" "lowestPane" "J" (.long (0 : Int64)) := f37.other W44 (Or.inr (slot_ne (Or.inr (hw _ (List.mem_of_getElem? (i := 53) rfl))) (Or.inr (hw _ (List.mem_of_getElem? (i := 20) rfl))) (by decide) (t := .long) (t' := .long) (by decide) (by decide)))
  have f52 : Fld Z h44 a1 "weirstream/engine/WindowGeometry" "highestPane" "J" (.long (0 : Int64)) := f38.other W44 (Or.inr (slot_ne (Or.inr (hw _ (List.mem_of_getElem? (i := 62) rfl))) (Or.inr (hw _ (List.mem_of_getElem? (i := 20) rfl))) (by decide) (t := .long) (t' := .long) (by decide) (by decide)))
  have f53 : Fld Z h44 a1 "weirstream/engine/WindowGeometry" "lowestValue" "J" (.long (0 : Int64)) := f39.other W44 (Or.inr (slot_ne (Or.inr (hw _ (List.mem_of_getElem? (i := 64) rfl))) (Or.inr (hw _ (List.mem_of_getElem? (i := 20) rfl))) (by decide) (t := .long) (t' := .long) (by decide) (by decide)))
  have f54 : Fld Z h44 a1 "weirstream/engine/WindowGeometry" "highestValue" "J" (.long (0 : Int64)) := f40.other W44 (Or.inr (slot_ne (Or.inr (hw _ (List.mem_of_getElem? (i := 66) rfl))) (Or.inr (hw _ (List.mem_of_getElem? (i := 20) rfl))) (by decide) (t := .long) (t' := .long) (by decide) (by decide)))
  have f55 : Exa Z h44 a2 "weirstream/engine/WindowAxis$1" := f41.wr W44
  have f56 : Fld Z h44 a2 "weirstream/engine/WindowAxis" "lowest" "J" (.long (-9223372036854775808 : Int64)) := f42.other W44 (Or.inl (Ne.symm (ne_exa E1 Ea (by decide))))
  have f57 : Fld Z h44 a2 "weirstream/engine/WindowAxis" "highest" "J" (.long (9223372036854775807 : Int64)) := f43.other W44 (Or.inl (Ne.symm (ne_exa E1 Ea (by decide))))
  have Z44 : n0 ≤ h44.size := Nat.le_trans Z30 (Keep.of_wr W44).1
  have N44 := Fr.snoc X44 N30 g1
  have K44 : Keep h0 h44 [a1] := K30.wr W44 (Or.inl (by simp))
  refine Done.step st44 ?_
  show Done p e below s _ _ _ (T44.setTop (mkF m 28 #[.val (.ref a1), .val (.ref a2), .val (.long q3), .second, .val (.long q4), .second, .unset, .unset, .unset, .unset] []))
  refine Done.step (fun t k => XS.aloadN X44.here hx rfl (hb hby d1_28) rfl rfl k) ?_
  show Done p e below s _ _ _ (T44.setTop (mkF m 29 #[.val (.ref a1), .val (.ref a2), .val (.long q3), .second, .val (.long q4), .second, .unset, .unset, .unset, .unset] [(.ref a1)]))
  refine Done.step (X44.ldc2Long hx hown (mvT hZ (hw _ (List.mem_of_getElem? (i := 21) rfl))) (g := (mkF m 29 #[.val (.ref a1), .val (.ref a2), .val (.long q3), .second, .val (.long q4), .second, .unset, .unset, .unset, .unset] [(.ref a1)])) rfl (hb hby d1_29)) ?_
  show Done p e below s _ _ _ (T44.setTop (mkF m 32 #[.val (.ref a1), .val (.ref a2), .val (.long q3), .second, .val (.long q4), .second, .unset, .unset, .unset, .unset] [(.long (9223372036854775807 : Int64)), (.ref a1)]))
  refine Done.step (fun t k => XS.lload X44.here hx rfl (hb hby d1_32) rfl k) ?_
  show Done p e below s _ _ _ (T44.setTop (mkF m 34 #[.val (.ref a1), .val (.ref a2), .val (.long q3), .second, .val (.long q4), .second, .unset, .unset, .unset, .unset] [(.long q4), (.long (9223372036854775807 : Int64)), (.ref a1)]))
  refine Done.step (fun t k => XS.ldiv X44.here hx rfl (hb hby d1_34) rfl hnz k) ?_
  show Done p e below s _ _ _ (T44.setTop (mkF m 35 #[.val (.ref a1), .val (.ref a2), .val (.long q3), .second, .val (.long q4), .second, .unset, .unset, .unset, .unset] [(.long ((9223372036854775807 : Int64) / q4)), (.ref a1)]))
  refine Done.step (fun t k => XS.lconst X44.here hx rfl (hb hby d1_35) k) ?_
  show Done p e below s _ _ _ (T44.setTop (mkF m 36 #[.val (.ref a1), .val (.ref a2), .val (.long q3), .second, .val (.long q4), .second, .unset, .unset, .unset, .unset] [(.long (1 : Int64)), (.long ((9223372036854775807 : Int64) / q4)), (.ref a1)]))
  refine Done.step (fun t k => XS.lsub X44.here hx rfl (hb hby d1_36) rfl k) ?_
  show Done p e below s _ _ _ (T44.setTop (mkF m 37 #[.val (.ref a1), .val (.ref a2), .val (.long q3), .second, .val (.long q4), .second, .unset, .unset, .unset, .unset] [(.long (((9223372036854775807 : Int64) / q4) - (1 : Int64))), (.ref a1)]))
  obtain ⟨T58, h58, X58, e58, W58, st58⟩ := putF X44 hx hZ hown (host := "") (Or.inl (hw _ (List.mem_of_getElem? (i := 22) rfl))) Via.refl e44 f50 f45 (Or.inr ⟨(hw _ (List.mem_of_getElem? (i := 23) rfl)), rfl, hnm⟩) (hw _ (List.mem_of_getElem? (i := 2) rfl)) (ty := .long) (by decide) rfl rfl (g := (mkF m 37 #[.val (.ref a1), .val (.ref a2), .val (.long q3), .second, .val (.long q4), .second, .unset, .unset, .unset, .unset] [(.long (((9223372036854775807 : Int64) / q4) - (1 : Int64))), (.ref a1)])) rfl rfl (hb hby d1_37)
  have f59 : Exa Z h58 a1 "weirstream/engine/WindowGeometry" := f45.wr W58
  have f60 : Fld Z h58 a1 "weirstream/engine/WindowGeometry" "axis" "Lweirstream/engine/WindowAxis;" (.ref a2) := f46.other W58 (Or.inr (slot_ne (Or.inr (hw _ (List.mem_of_getElem? (i := 14) rfl))) (Or.inr (hw _ (List.mem_of_getElem? (i := 23) rfl))) (by decide) (t := (.object "weirstream/engine/WindowAxis")) (t' := .long) (by decide) (by decide)))
  have f61 : Fld Z h58 a1 "weirstream/engine/WindowGeometry" "range" "J" (.long q3) := f47.other W58 (Or.inr (slot_ne (Or.inr (hw _ (List.mem_of_getElem? (i := 16) rfl))) (Or.inr (hw _ (List.mem_of_getElem? (i := 23) rfl))) (by decide) (t := .long) (t' := .long) (by decide) (by decide)))
  have f62 : Fld Z h58 a1 "weirstream/engine/WindowGeometry" "slide" "J" (.long q4) := f48.other W58 (Or.inr (slot_ne (Or.inr (hw _ (List.mem_of_getElem? (i := 18) rfl))) (Or.inr (hw _ (List.mem_of_getElem? (i := 23) rfl))) (by decide) (t := .long) (t' := .long) (by decide) (by decide)))
  have f63 : Fld Z h58 a1 "weirstream/engine/WindowGeometry" "panesPerWindow" "J" (.long (q3 / q4)) := f49.other W58 (Or.inr (slot_ne (Or.inr (hw _ (List.mem_of_getElem? (i := 20) rfl))) (Or.inr (hw _ (List.mem_of_getElem? (i := 23) rfl))) (by decide) (t := .long) (t' := .long) (by decide) (by decide)))
  have f64 : Fld Z h58 a1 "weirstream/engine/WindowGeometry" "highestEnding" "J" (.long (((9223372036854775807 : Int64) / q4) - (1 : Int64))) := f50.same W58
  have f65 : Fld Z h58 a1 "weirstream/engine/WindowGeometry" "lowestPane" "J" (.long (0 : Int64)) := f51.other W58 (Or.inr (slot_ne (Or.inr (hw _ (List.mem_of_getElem? (i := 53) rfl))) (Or.inr (hw _ (List.mem_of_getElem? (i := 23) rfl))) (by decide) (t := .long) (t' := .long) (by decide) (by decide)))
  have f66 : Fld Z h58 a1 "weirstream/engine/WindowGeometry" "highestPane" "J" (.long (0 : Int64)) := f52.other W58 (Or.inr (slot_ne (Or.inr (hw _ (List.mem_of_getElem? (i := 62) rfl))) (Or.inr (hw _ (List.mem_of_getElem? (i := 23) rfl))) (by decide) (t := .long) (t' := .long) (by decide) (by decide)))
  have f67 : Fld Z h58 a1 "weirstream/engine/WindowGeometry" "lowestValue" "J" (.long (0 : Int64)) := f53.other W58 (Or.inr (slot_ne (Or.inr (hw _ (List.mem_of_getElem? (i := 64) rfl))) (Or.inr (hw _ (List.mem_of_getElem? (i := 23) rfl))) (by decide) (t := .long) (t' := .long) (by decide) (by decide)))
  have f68 : Fld Z h58 a1 "weirstream/engine/WindowGeometry" "highestValue" "J" (.long (0 : Int64)) := f54.other W58 (Or.inr (slot_ne (Or.inr (hw _ (List.mem_of_getElem? (i := 66) rfl))) (Or.inr (hw _ (List.mem_of_getElem? (i := 23) rfl))) (by decide) (t := .long) (t' := .long) (by decide) (by decide)))
  have f69 : Exa Z h58 a2 "weirstream/engine/WindowAxis$1" := f55.wr W58
  have f70 : Fld Z h58 a2 "weirstream/engine/WindowAxis" "lowest" "J" (.long (-9223372036854775808 : Int64)) := f56.other W58 (Or.inl (Ne.symm (ne_exa E1 Ea (by decide))))
  have f71 : Fld Z h58 a2 "weirstream/engine/WindowAxis" "highest" "J" (.long (9223372036854775807 : Int64)) := f57.other W58 (Or.inl (Ne.symm (ne_exa E1 Ea (by decide))))
  have Z58 : n0 ≤ h58.size := Nat.le_trans Z44 (Keep.of_wr W58).1
  have N58 := Fr.snoc X58 N44 g1
  have K58 : Keep h0 h58 [a1] := K44.wr W58 (Or.inl (by simp))
  refine Done.step st58 ?_
  show Done p e below s _ _ _ (T58.setTop (mkF m 40 #[.val (.ref a1), .val (.ref a2), .val (.long q3), .second, .val (.long q4), .second, .unset, .unset, .unset, .unset] []))
  refine Done.step (fun t k => XS.aloadN X58.here hx rfl (hb hby d1_40) rfl rfl k) ?_
  show Done p e below s _ _ _ (T58.setTop (mkF m 41 #[.val (.ref a1), .val (.ref a2), .val (.long q3), .second, .val (.long q4), .second, .unset, .unset, .unset, .unset] [(.ref a2)]))
  obtain ⟨cq72, kq72, q72a, q72b, q72c⟩ := isOf hZ e58 f69
  obtain ⟨v72, _, ⟨T72, L72, k72, n72⟩, -, X72, ⟨Lc72, hQ72, l72, y72, z72⟩, st72⟩ := X58.virtualBack hx (y := (⟨"weirstream/engine/WindowAxis", "lowest", "()J"⟩ : MethodName)) (z := (⟨"weirstream/engine/WindowAxis", "lowest", "()J"⟩ : MethodName)) hown (mvT hZ (hw _ (List.mem_of_getElem? (i := 24) rfl))) (mvT hZ (hw _ (List.mem_of_getElem? (i := 25) rfl))) (notFace_of_selects (args := #[]) (mvT hZ (hw _ (List.mem_of_getElem? (i := 27) rfl)))) (mvT hZ (hw _ (List.mem_of_getElem? (i := 27) rfl))) (mvT hZ (hw _ (List.mem_of_getElem? (i := 26) rfl))) (by decide) (backOf (W := 0) (rm3 l Z a0 hw [] a2 (-9223372036854775808 : Int64) h58 n0 Z58 f70) hZ (hw _ (List.mem_of_getElem? (i := 28) rfl)) (hw _ (List.mem_of_getElem? (i := 5) rfl)) (by decide) (by decide)) q72a q72c (g := (mkF m 41 #[.val (.ref a1), .val (.ref a2), .val (.long q3), .second, .val (.long q4), .second, .unset, .unset, .unset, .unset] [(.ref a2)])) rfl (by rw [hml]; rfl) (Steps.refl _) (argsL := []) (rest := []) (lenOf pd_1 rfl) rfl (by show 2 * 0 + _ ≤ _; exact Nat.le_of_eq rfl) (hb hby d1_41) (fun _ _ => ⟨rfl, e58, (by decide : 0 + 0 ≤ _), (by decide : 0 + 0 ≤ _)⟩)
  dsimp only [Pt.U, Pt.locs, Pt.cells, Pt.slots] at X72 l72 y72 z72 st72 hQ72
  subst l72 y72 z72
  refine Done.far st72 ?_
  obtain ⟨rfl, N72q, e72⟩ := hQ72
  have N72 := Fr.app N58 N72q
  show Done p e below s _ _ _ (T72.setTop (mkF m 44 #[.val (.ref a1), .val (.ref a2), .val (.long q3), .second, .val (.long q4), .second, .unset, .unset, .unset, .unset] [(.long (F3 (-9223372036854775808 : Int64)))]))
  refine Done.step (fun t k => XS.lstore X72.here hx rfl (hb hby d1_44) rfl (l' := #[.val (.ref a1), .val (.ref a2), .val (.long q3), .second, .val (.long q4), .second, .val (.long (F3 (-9223372036854775808 : Int64))), .second, .unset, .unset]) rfl k) ?_
  show Done p e below s _ _ _ (T72.setTop (mkF m 46 #[.val (.ref a1), .val (.ref a2), .val (.long q3), .second, .val (.long q4), .second, .val (.long (F3 (-9223372036854775808 : Int64))), .second, .unset, .unset] []))
  refine Done.step (fun t k => XS.aloadN X72.here hx rfl (hb hby d1_46) rfl rfl k) ?_
  show Done p e below s _ _ _ (T72.setTop (mkF m 47 #[.val (.ref a1), .val (.ref a2), .val (.long q3), .second, .val (.long q4), .second, .val (.long (F3 (-9223372036854775808 : Int64))), .second, .unset, .unset] [(.ref a1)]))
  refine Done.step (fun t k => XS.lload X72.here hx rfl (hb hby d1_47) rfl k) ?_
  show Done p e below s _ _ _ (T72.setTop (mkF m 49 #[.val (.ref a1), .val (.ref a2), .val (.long q3), .second, .val (.long q4), .second, .val (.long (F3 (-9223372036854775808 : Int64))), .second, .unset, .unset] [(.long (F3 (-9223372036854775808 : Int64))), (.ref a1)]))
  obtain ⟨cq73, kq73, q73a, q73b, q73c⟩ := isOf hZ e72 f59
  obtain ⟨v73, _, ⟨T73, L73, k73, n73⟩, -, X73, ⟨Lc73, hQ73, l73, y73, z73⟩, st73⟩ := X72.virtualBack hx (y := (⟨"weirstream/engine/WindowGeometry", "pane", "(J)J"⟩ : MethodName)) (z := (⟨"weirstream/engine/WindowGeometry", "pane", "(J)J"⟩ : MethodName)) hown (mvT hZ (hw _ (List.mem_of_getElem? (i := 31) rfl))) (mvT hZ (hw _ (List.mem_of_getElem? (i := 32) rfl))) (notFace_of_selects (args := #[]) (mvT hZ (hw _ (List.mem_of_getElem? (i := 34) rfl)))) (mvT hZ (hw _ (List.mem_of_getElem? (i := 34) rfl))) (mvT hZ (hw _ (List.mem_of_getElem? (i := 33) rfl))) (by decide) (backOf (W := 0) (rm4 l Z a0 hw [] a1 (F3 (-9223372036854775808 : Int64)) q4 h58 n0 Z58 f62 hnz) hZ (hw _ (List.mem_of_getElem? (i := 35) rfl)) (hw _ (List.mem_of_getElem? (i := 3) rfl)) (by decide) (by decide)) q73a q73c (g := (mkF m 49 #[.val (.ref a1), .val (.ref a2), .val (.long q3), .second, .val (.long q4), .second, .val (.long (F3 (-9223372036854775808 : Int64))), .second, .unset, .unset] [(.long (F3 (-9223372036854775808 : Int64))), (.ref a1)])) rfl (by rw [hml]; rfl) (Steps.refl _) (argsL := [(.long (F3 (-9223372036854775808 : Int64)))]) (rest := []) (lenOf pd_2 rfl) rfl (by show 2 * 0 + _ ≤ _; exact Nat.le_of_eq rfl) (hb hby d1_49) (fun _ _ => ⟨rfl, e72, (by decide : 0 + 0 ≤ _), (by decide : 0 + 0 ≤ _)⟩)
  dsimp only [Pt.U, Pt.locs, Pt.cells, Pt.slots] at X73 l73 y73 z73 st73 hQ73
  subst l73 y73 z73
  refine Done.far st73 ?_
  obtain ⟨rfl, N73q, e73⟩ := hQ73
  have N73 := Fr.app N72 N73q
  show Done p e below s _ _ _ (T73.setTop (mkF m 52 #[.val (.ref a1), .val (.ref a2), .val (.long q3), .second, .val (.long q4), .second, .val (.long (F3 (-9223372036854775808 : Int64))), .second, .unset, .unset] [(.long (F4 (F3 (-9223372036854775808 : Int64)) q4))]))
  refine Done.step (fun t k => XS.lload X73.here hx rfl (hb hby d1_52) rfl k) ?_
  show Done p e below s _ _ _ (T73.setTop (mkF m 54 #[.val (.ref a1), .val (.ref a2), .val (.long q3), .second, .val (.long q4), .second, .val (.long (F3 (-9223372036854775808 : Int64))), .second, .unset, .unset] [(.long (F3 (-9223372036854775808 : Int64))), (.long (F4 (F3 (-9223372036854775808 : Int64)) q4))]))
  refine Done.step (fun t k => XS.lload X73.here hx rfl (hb hby d1_54) rfl k) ?_
  show Done p e below s _ _ _ (T73.setTop (mkF m 56 #[.val (.ref a1), .val (.ref a2), .val (.long q3), .second, .val (.long q4), .second, .val (.long (F3 (-9223372036854775808 : Int64))), .second, .unset, .unset] [(.long q4), (.long (F3 (-9223372036854775808 : Int64))), (.long (F4 (F3 (-9223372036854775808 : Int64)) q4))]))
  obtain ⟨v74, _, ⟨T74, L74, k74, n74⟩, -, X74, ⟨Lc74, hQ74, l74, y74, z74⟩, st74⟩ := Jvm.LawKit.callS X73 hx (y := (⟨"java/lang/Math", "floorMod", "(JJ)J"⟩ : MethodName)) hown (mvT hZ (hw _ (List.mem_of_getElem? (i := 40) rfl))) (mvT hZ (hw _ (List.mem_of_getElem? (i := 41) rfl))) (mvT hZ (hw _ (List.mem_of_getElem? (i := 38) rfl))) (mvT hZ (hw _ (List.mem_of_getElem? (i := 42) rfl))) (by decide) (backOf (W := 2) (rm6 l Z a0 hw [] (F3 (-9223372036854775808 : Int64)) q4 h58 n0 Z58 hnz) hZ (hw _ (List.mem_of_getElem? (i := 42) rfl)) (hw _ (List.mem_of_getElem? (i := 38) rfl)) (by decide) (by decide)) (g := (mkF m 56 #[.val (.ref a1), .val (.ref a2), .val (.long q3), .second, .val (.long q4), .second, .val (.long (F3 (-9223372036854775808 : Int64))), .second, .unset, .unset] [(.long q4), (.long (F3 (-9223372036854775808 : Int64))), (.long (F4 (F3 (-9223372036854775808 : Int64)) q4))])) rfl (by rw [hml]; rfl) (argsL := [(.long (F3 (-9223372036854775808 : Int64))), (.long q4)]) (rest := [(.long (F4 (F3 (-9223372036854775808 : Int64)) q4))]) (lenOf pd_0 rfl) rfl (by show 2 * 0 + _ ≤ _; exact Nat.le_of_eq rfl) (hb hby d1_56) (fun _ _ => ⟨rfl, e73, (by decide : 0 + 0 ≤ _), (by decide : 0 + 0 ≤ _)⟩)
  dsimp only [Pt.U, Pt.locs, Pt.cells, Pt.slots] at X74 l74 y74 z74 st74 hQ74
  subst l74 y74 z74
  refine Done.step st74 ?_
  obtain ⟨rfl, N74q, e74⟩ := hQ74
  have N74 := Fr.app N73 N74q
  show Done p e below s _ _ _ (T74.setTop (mkF m 59 #[.val (.ref a1), .val (.ref a2), .val (.long q3), .second, .val (.long q4), .second, .val (.long (F3 (-9223372036854775808 : Int64))), .second, .unset, .unset] [(.long (F6 (F3 (-9223372036854775808 : Int64)) q4)), (.long (F4 (F3 (-9223372036854775808 : Int64)) q4))]))
  refine Done.step (fun t k => XS.lconst X74.here hx rfl (hb hby d1_59) k) ?_
  show Done p e below s _ _ _ (T74.setTop (mkF m 60 #[.val (.ref a1), .val (.ref a2), .val (.long q3), .second, .val (.long q4), .second, .val (.long (F3 (-9223372036854775808 : Int64))), .second, .unset, .unset] [(.long (0 : Int64)), (.long (F6 (F3 (-9223372036854775808 : Int64)) q4)), (.long (F4 (F3 (-9223372036854775808 : Int64)) q4))]))
  refine Done.step (fun t k => XS.lcmp X74.here hx rfl (hb hby d1_60) rfl k) ?_
  show Done p e below s _ _ _ (T74.setTop (mkF m 61 #[.val (.ref a1), .val (.ref a2), .val (.long q3), .second, .val (.long q4), .second, .val (.long (F3 (-9223372036854775808 : Int64))), .second, .unset, .unset] [(.int (lcmpW (F6 (F3 (-9223372036854775808 : Int64)) q4) (0 : Int64))), (.long (F4 (F3 (-9223372036854775808 : Int64)) q4))]))
  by_cases c75 : (F6 (F3 (-9223372036854775808 : Int64)) q4) = (0 : Int64)
  · refine Done.step (fun t k => XS.ifNo X74.here hx rfl (hb hby d1_61) rfl ((if0 _ _).trans (teq ((lw_eq _ _).mpr c75)).2) k) ?_
    show Done p e below s _ _ _ (T74.setTop (mkF m 64 #[.val (.ref a1), .val (.ref a2), .val (.long q3), .second, .val (.long q4), .second, .val (.long (F3 (-9223372036854775808 : Int64))), .second, .unset, .unset] [(.long (F4 (F3 (-9223372036854775808 : Int64)) q4))]))
    refine Done.step (fun t k => XS.iconst X74.here hx rfl (hb hby d1_64) k) ?_
    show Done p e below s _ _ _ (T74.setTop (mkF m 65 #[.val (.ref a1), .val (.ref a2), .val (.long q3), .second, .val (.long q4), .second, .val (.long (F3 (-9223372036854775808 : Int64))), .second, .unset, .unset] [(.int (0 : Int32)), (.long (F4 (F3 (-9223372036854775808 : Int64)) q4))]))
    refine Done.step (fun t k => XS.goto X74.here hx rfl (pc0 := 65) (pc' := 69) rfl (hb hby d1_65) (by decide) (by decide) k) ?_
    show Done p e below s _ _ _ (T74.setTop (mkF m 69 #[.val (.ref a1), .val (.ref a2), .val (.long q3), .second, .val (.long q4), .second, .val (.long (F3 (-9223372036854775808 : Int64))), .second, .unset, .unset] [(.int (0 : Int32)), (.long (F4 (F3 (-9223372036854775808 : Int64)) q4))]))
    refine Done.step (fun t k => XS.i2l X74.here hx rfl (hb hby d1_69) rfl k) ?_
    show Done p e below s _ _ _ (T74.setTop (mkF m 70 #[.val (.ref a1), .val (.ref a2), .val (.long q3), .second, .val (.long q4), .second, .val (.long (F3 (-9223372036854775808 : Int64))), .second, .unset, .unset] [(.long ((0 : Int32)).toInt64), (.long (F4 (F3 (-9223372036854775808 : Int64)) q4))]))
    refine Done.step (fun t k => XS.ladd X74.here hx rfl (hb hby d1_70) rfl k) ?_
    show Done p e below s _ _ _ (T74.setTop (mkF m 71 #[.val (.ref a1), .val (.ref a2), .val (.long q3), .second, .val (.long q4), .second, .val (.long (F3 (-9223372036854775808 : Int64))), .second, .unset, .unset] [(.long ((F4 (F3 (-9223372036854775808 : Int64)) q4) + ((0 : Int32)).toInt64))]))
    refine Done.step (fun t k => XS.lstore X74.here hx rfl (hb hby d1_71) rfl (l' := #[.val (.ref a1), .val (.ref a2), .val (.long q3), .second, .val (.long q4), .second, .val (.long (F3 (-9223372036854775808 : Int64))), .second, .val (.long ((F4 (F3 (-9223372036854775808 : Int64)) q4) + ((0 : Int32)).toInt64)), .second]) rfl k) ?_
    show Done p e below s _ _ _ (T74.setTop (mkF m 73 #[.val (.ref a1), .val (.ref a2), .val (.long q3), .second, .val (.long q4), .second, .val (.long (F3 (-9223372036854775808 : Int64))), .second, .val (.long ((F4 (F3 (-9223372036854775808 : Int64)) q4) + ((0 : Int32)).toInt64)), .second] []))
    refine Done.step (fun t k => XS.aloadN X74.here hx rfl (hb hby d1_73) rfl rfl k) ?_
    show Done p e below s _ _ _ (T74.setTop (mkF m 74 #[.val (.ref a1), .val (.ref a2), .val (.long q3), .second, .val (.long q4), .second, .val (.long (F3 (-9223372036854775808 : Int64))), .second, .val (.long ((F4 (F3 (-9223372036854775808 : Int64)) q4) + ((0 : Int32)).toInt64)), .second] [(.ref a1)]))
    refine Done.step (fun t k => XS.aloadN X74.here hx rfl (hb hby d1_74) rfl rfl k) ?_
    show Done p e below s _ _ _ (T74.setTop (mkF m 75 #[.val (.ref a1), .val (.ref a2), .val (.long q3), .second, .val (.long q4), .second, .val (.long (F3 (-9223372036854775808 : Int64))), .second, .val (.long ((F4 (F3 (-9223372036854775808 : Int64)) q4) + ((0 : Int32)).toInt64)), .second] [(.ref a1), (.ref a1)]))
    refine Done.step (fun t k => XS.lload X74.here hx rfl (hb hby d1_75) rfl k) ?_
    show Done p e below s _ _ _ (T74.setTop (mkF m 77 #[.val (.ref a1), .val (.ref a2), .val (.long q3), .second, .val (.long q4), .second, .val (.long (F3 (-9223372036854775808 : Int64))), .second, .val (.long ((F4 (F3 (-9223372036854775808 : Int64)) q4) + ((0 : Int32)).toInt64)), .second] [(.long ((F4 (F3 (-9223372036854775808 : Int64)) q4) + ((0 : Int32)).toInt64)), (.ref a1), (.ref a1)]))
    obtain ⟨cq76, kq76, q76a, q76b, q76c⟩ := isOf hZ e74 f59
    obtain ⟨v76, _, ⟨T76, L76, k76, n76⟩, -, X76, ⟨Lc76, hQ76, l76, y76, z76⟩, st76⟩ := X74.virtualBack hx (y := (⟨"weirstream/engine/WindowGeometry", "lastPane", "(J)J"⟩ : MethodName)) (z := (⟨"weirstream/engine/WindowGeometry", "lastPane", "(J)J"⟩ : MethodName)) hown (mvT hZ (hw _ (List.mem_of_getElem? (i := 43) rfl))) (mvT hZ (hw _ (List.mem_of_getElem? (i := 44) rfl))) (notFace_of_selects (args := #[]) (mvT hZ (hw _ (List.mem_of_getElem? (i := 46) rfl)))) (mvT hZ (hw _ (List.mem_of_getElem? (i := 46) rfl))) (mvT hZ (hw _ (List.mem_of_getElem? (i := 45) rfl))) (by decide) (backOf (W := 1) (rm7 l Z a0 hw [] a1 ((F4 (F3 (-9223372036854775808 : Int64)) q4) + ((0 : Int32)).toInt64) (q3 / q4) h58 n0 Z58 f63) hZ (hw _ (List.mem_of_getElem? (i := 47) rfl)) (hw _ (List.mem_of_getElem? (i := 3) rfl)) (by decide) (by decide)) q76a q76c (g := (mkF m 77 #[.val (.ref a1), .val (.ref a2), .val (.long q3), .second, .val (.long q4), .second, .val (.long (F3 (-9223372036854775808 : Int64))), .second, .val (.long ((F4 (F3 (-9223372036854775808 : Int64)) q4) + ((0 : Int32)).toInt64)), .second] [(.long ((F4 (F3 (-9223372036854775808 : Int64)) q4) + ((0 : Int32)).toInt64)), (.ref a1), (.ref a1)])) rfl (by rw [hml]; rfl) (Steps.refl _) (argsL := [(.long ((F4 (F3 (-9223372036854775808 : Int64)) q4) + ((0 : Int32)).toInt64))]) (rest := [(.ref a1)]) (lenOf pd_2 rfl) rfl (by show 2 * 0 + _ ≤ _; exact Nat.le_of_eq rfl) (hb hby d1_77) (fun _ _ => ⟨rfl, e74, (by decide : 0 + 0 ≤ _), (by decide : 0 + 0 ≤ _)⟩)
    dsimp only [Pt.U, Pt.locs, Pt.cells, Pt.slots] at X76 l76 y76 z76 st76 hQ76
    subst l76 y76 z76
    refine Done.far st76 ?_
    obtain ⟨rfl, N76q, e76⟩ := hQ76
    have N76 := Fr.app N74 N76q
    show Done p e below s _ _ _ (T76.setTop (mkF m 80 #[.val (.ref a1), .val (.ref a2), .val (.long q3), .second, .val (.long q4), .second, .val (.long (F3 (-9223372036854775808 : Int64))), .second, .val (.long ((F4 (F3 (-9223372036854775808 : Int64)) q4) + ((0 : Int32)).toInt64)), .second] [(.long (F7 ((F4 (F3 (-9223372036854775808 : Int64)) q4) + ((0 : Int32)).toInt64) (q3 / q4))), (.ref a1)]))
    refine Done.step (X76.ldc2Long hx hown (mvT hZ (hw _ (List.mem_of_getElem? (i := 48) rfl))) (g := (mkF m 80 #[.val (.ref a1), .val (.ref a2), .val (.long q3), .second, .val (.long q4), .second, .val (.long (F3 (-9223372036854775808 : Int64))), .second, .val (.long ((F4 (F3 (-9223372036854775808 : Int64)) q4) + ((0 : Int32)).toInt64)), .second] [(.long (F7 ((F4 (F3 (-9223372036854775808 : Int64)) q4) + ((0 : Int32)).toInt64) (q3 / q4))), (.ref a1)])) rfl (hb hby d1_80)) ?_
    show Done p e below s _ _ _ (T76.setTop (mkF m 83 #[.val (.ref a1), .val (.ref a2), .val (.long q3), .second, .val (.long q4), .second, .val (.long (F3 (-9223372036854775808 : Int64))), .second, .val (.long ((F4 (F3 (-9223372036854775808 : Int64)) q4) + ((0 : Int32)).toInt64)), .second] [(.long (-9223372036854775808 : Int64)), (.long (F7 ((F4 (F3 (-9223372036854775808 : Int64)) q4) + ((0 : Int32)).toInt64) (q3 / q4))), (.ref a1)]))
    refine Done.step (fun t k => XS.aloadN X76.here hx rfl (hb hby d1_83) rfl rfl k) ?_
    show Done p e below s _ _ _ (T76.setTop (mkF m 84 #[.val (.ref a1), .val (.ref a2), .val (.long q3), .second, .val (.long q4), .second, .val (.long (F3 (-9223372036854775808 : Int64))), .second, .val (.long ((F4 (F3 (-9223372036854775808 : Int64)) q4) + ((0 : Int32)).toInt64)), .second] [(.ref a1), (.long (-9223372036854775808 : Int64)), (.long (F7 ((F4 (F3 (-9223372036854775808 : Int64)) q4) + ((0 : Int32)).toInt64) (q3 / q4))), (.ref a1)]))
    obtain ⟨T77, X77, e77, st77⟩ := getF X76 hx hZ hown (host := "") (Or.inl (hw _ (List.mem_of_getElem? (i := 19) rfl))) Via.refl e76 f63 (g := (mkF m 84 #[.val (.ref a1), .val (.ref a2), .val (.long q3), .second, .val (.long q4), .second, .val (.long (F3 (-9223372036854775808 : Int64))), .second, .val (.long ((F4 (F3 (-9223372036854775808 : Int64)) q4) + ((0 : Int32)).toInt64)), .second] [(.ref a1), (.long (-9223372036854775808 : Int64)), (.long (F7 ((F4 (F3 (-9223372036854775808 : Int64)) q4) + ((0 : Int32)).toInt64) (q3 / q4))), (.ref a1)])) rfl rfl (hb hby d1_84)
    refine Done.step st77 ?_
    show Done p e below s _ _ _ (T77.setTop (mkF m 87 #[.val (.ref a1), .val (.ref a2), .val (.long q3), .second, .val (.long q4), .second, .val (.long (F3 (-9223372036854775808 : Int64))), .second, .val (.long ((F4 (F3 (-9223372036854775808 : Int64)) q4) + ((0 : Int32)).toInt64)), .second] [(.long (q3 / q4)), (.long (-9223372036854775808 : Int64)), (.long (F7 ((F4 (F3 (-9223372036854775808 : Int64)) q4) + ((0 : Int32)).toInt64) (q3 / q4))), (.ref a1)]))
    refine Done.step (fun t k => XS.ladd X77.here hx rfl (hb hby d1_87) rfl k) ?_
    show Done p e below s _ _ _ (T77.setTop (mkF m 88 #[.val (.ref a1), .val (.ref a2), .val (.long q3), .second, .val (.long q4), .second, .val (.long (F3 (-9223372036854775808 : Int64))), .second, .val (.long ((F4 (F3 (-9223372036854775808 : Int64)) q4) + ((0 : Int32)).toInt64)), .second] [(.long ((-9223372036854775808 : Int64) + (q3 / q4))), (.long (F7 ((F4 (F3 (-9223372036854775808 : Int64)) q4) + ((0 : Int32)).toInt64) (q3 / q4))), (.ref a1)]))
    obtain ⟨v78, _, ⟨T78, L78, k78, n78⟩, -, X78, ⟨Lc78, hQ78, l78, y78, z78⟩, st78⟩ := Jvm.LawKit.callS X77 hx (y := (⟨"java/lang/Math", "max", "(JJ)J"⟩ : MethodName)) hown (mvT hZ (hw _ (List.mem_of_getElem? (i := 49) rfl))) (mvT hZ (hw _ (List.mem_of_getElem? (i := 50) rfl))) (mvT hZ (hw _ (List.mem_of_getElem? (i := 38) rfl))) (mvT hZ (hw _ (List.mem_of_getElem? (i := 51) rfl))) (by decide) (backOf (W := 1) (rm8 l Z a0 hw [] (F7 ((F4 (F3 (-9223372036854775808 : Int64)) q4) + ((0 : Int32)).toInt64) (q3 / q4)) ((-9223372036854775808 : Int64) + (q3 / q4)) h58 n0 Z58 ) hZ (hw _ (List.mem_of_getElem? (i := 51) rfl)) (hw _ (List.mem_of_getElem? (i := 38) rfl)) (by decide) (by decide)) (g := (mkF m 88 #[.val (.ref a1), .val (.ref a2), .val (.long q3), .second, .val (.long q4), .second, .val (.long (F3 (-9223372036854775808 : Int64))), .second, .val (.long ((F4 (F3 (-9223372036854775808 : Int64)) q4) + ((0 : Int32)).toInt64)), .second] [(.long ((-9223372036854775808 : Int64) + (q3 / q4))), (.long (F7 ((F4 (F3 (-9223372036854775808 : Int64)) q4) + ((0 : Int32)).toInt64) (q3 / q4))), (.ref a1)])) rfl (by rw [hml]; rfl) (argsL := [(.long (F7 ((F4 (F3 (-9223372036854775808 : Int64)) q4) + ((0 : Int32)).toInt64) (q3 / q4))), (.long ((-9223372036854775808 : Int64) + (q3 / q4)))]) (rest := [(.ref a1)]) (lenOf pd_0 rfl) rfl (by show 2 * 0 + _ ≤ _; exact Nat.le_of_eq rfl) (hb hby d1_88) (fun _ _ => ⟨rfl, e77, (by decide : 0 + 0 ≤ _), (by decide : 0 + 0 ≤ _)⟩)
    dsimp only [Pt.U, Pt.locs, Pt.cells, Pt.slots] at X78 l78 y78 z78 st78 hQ78
    subst l78 y78 z78
    refine Done.step st78 ?_
    obtain ⟨rfl, N78q, e78⟩ := hQ78
    have N78 := Fr.app N76 N78q
    show Done p e below s _ _ _ (T78.setTop (mkF m 91 #[.val (.ref a1), .val (.ref a2), .val (.long q3), .second, .val (.long q4), .second, .val (.long (F3 (-9223372036854775808 : Int64))), .second, .val (.long ((F4 (F3 (-9223372036854775808 : Int64)) q4) + ((0 : Int32)).toInt64)), .second] [(.long (F8 (F7 ((F4 (F3 (-9223372036854775808 : Int64)) q4) + ((0 : Int32)).toInt64) (q3 / q4)) ((-9223372036854775808 : Int64) + (q3 / q4)))), (.ref a1)]))
    obtain ⟨T79, h79, X79, e79, W79, st79⟩ := putF X78 hx hZ hown (host := "") (Or.inl (hw _ (List.mem_of_getElem? (i := 52) rfl))) Via.refl e78 f65 f59 (Or.inr ⟨(hw _ (List.mem_of_getElem? (i := 53) rfl)), rfl, hnm⟩) (hw _ (List.mem_of_getElem? (i := 2) rfl)) (ty := .long) (by decide) rfl rfl (g := (mkF m 91 #[.val (.ref a1), .val (.ref a2), .val (.long q3), .second, .val (.long q4), .second, .val (.long (F3 (-9223372036854775808 : Int64))), .second, .val (.long ((F4 (F3 (-9223372036854775808 : Int64)) q4) + ((0 : Int32)).toInt64)), .second] [(.long (F8 (F7 ((F4 (F3 (-9223372036854775808 : Int64)) q4) + ((0 : Int32)).toInt64) (q3 / q4)) ((-9223372036854775808 : Int64) + (q3 / q4)))), (.ref a1)])) rfl rfl (hb hby d1_91)
    have f80 : Exa Z h79 a1 "weirstream/engine/WindowGeometry" := f59.wr W79
    have f81 : Fld Z h79 a1 "weirstream/engine/WindowGeometry" "axis" "Lweirstream/engine/WindowAxis;" (.ref a2) := f60.other W79 (Or.inr (slot_ne (Or.inr (hw _ (List.mem_of_getElem? (i := 14) rfl))) (Or.inr (hw _ (List.mem_of_getElem? (i := 53) rfl))) (by decide) (t := (.object "weirstream/engine/WindowAxis")) (t' := .long) (by decide) (by decide)))
    have f82 : Fld Z h79 a1 "weirstream/engine/WindowGeometry" "range" "J" (.long q3) := f61.other W79 (Or.inr (slot_ne (Or.inr (hw _ (List.mem_of_getElem? (i := 16) rfl))) (Or.inr (hw _ (List.mem_of_getElem? (i := 53) rfl))) (by decide) (t := .long) (t' := .long) (by decide) (by decide)))
    have f83 : Fld Z h79 a1 "weirstream/engine/WindowGeometry" "slide" "J" (.long q4) := f62.other W79 (Or.inr (slot_ne (Or.inr (hw _ (List.mem_of_getElem? (i := 18) rfl))) (Or.inr (hw _ (List.mem_of_getElem? (i := 53) rfl))) (by decide) (t := .long) (t' := .long) (by decide) (by decide)))
    have f84 : Fld Z h79 a1 "weirstream/engine/WindowGeometry" "panesPerWindow" "J" (.long (q3 / q4)) := f63.other W79 (Or.inr (slot_ne (Or.inr (hw _ (List.mem_of_getElem? (i := 20) rfl))) (Or.inr (hw _ (List.mem_of_getElem? (i := 53) rfl))) (by decide) (t := .long) (t' := .long) (by decide) (by decide)))
    have f85 : Fld Z h79 a1 "weirstream/engine/WindowGeometry" "highestEnding" "J" (.long (((9223372036854775807 : Int64) / q4) - (1 : Int64))) := f64.other W79 (Or.inr (slot_ne (Or.inr (hw _ (List.mem_of_getElem? (i := 23) rfl))) (Or.inr (hw _ (List.mem_of_getElem? (i := 53) rfl))) (by decide) (t := .long) (t' := .long) (by decide) (by decide)))
    have f86 : Fld Z h79 a1 "weirstream/engine/WindowGeometry" "lowestPane" "J" (.long (F8 (F7 ((F4 (F3 (-9223372036854775808 : Int64)) q4) + ((0 : Int32)).toInt64) (q3 / q4)) ((-9223372036854775808 : Int64) + (q3 / q4)))) := f65.same W79
    have f87 : Fld Z h79 a1 "weirstream/engine/WindowGeometry" "highestPane" "J" (.long (0 : Int64)) := f66.other W79 (Or.inr (slot_ne (Or.inr (hw _ (List.mem_of_getElem? (i := 62) rfl))) (Or.inr (hw _ (List.mem_of_getElem? (i := 53) rfl))) (by decide) (t := .long) (t' := .long) (by decide) (by decide)))
    have f88 : Fld Z h79 a1 "weirstream/engine/WindowGeometry" "lowestValue" "J" (.long (0 : Int64)) := f67.other W79 (Or.inr (slot_ne (Or.inr (hw _ (List.mem_of_getElem? (i := 64) rfl))) (Or.inr (hw _ (List.mem_of_getElem? (i := 53) rfl))) (by decide) (t := .long) (t' := .long) (by decide) (by decide)))
    have f89 : Fld Z h79 a1 "weirstream/engine/WindowGeometry" "highestValue" "J" (.long (0 : Int64)) := f68.other W79 (Or.inr (slot_ne (Or.inr (hw _ (List.mem_of_getElem? (i := 66) rfl))) (Or.inr (hw _ (List.mem_of_getElem? (i := 53) rfl))) (by decide) (t := .long) (t' := .long) (by decide) (by decide)))
    have f90 : Exa Z h79 a2 "weirstream/engine/WindowAxis$1" := f69.wr W79
    have f91 : Fld Z h79 a2 "weirstream/engine/WindowAxis" "lowest" "J" (.long (-9223372036854775808 : Int64)) := f70.other W79 (Or.inl (Ne.symm (ne_exa E1 Ea (by decide))))
    have f92 : Fld Z h79 a2 "weirstream/engine/WindowAxis" "highest" "J" (.long (9223372036854775807 : Int64)) := f71.other W79 (Or.inl (Ne.symm (ne_exa E1 Ea (by decide))))
    have Z79 : n0 ≤ h79.size := Nat.le_trans Z58 (Keep.of_wr W79).1
    have N79 := Fr.snoc X79 N78 g1
    have K79 : Keep h0 h79 [a1] := K58.wr W79 (Or.inl (by simp))
    refine Done.step st79 ?_
    show Done p e below s _ _ _ (T79.setTop (mkF m 94 #[.val (.ref a1), .val (.ref a2), .val (.long q3), .second, .val (.long q4), .second, .val (.long (F3 (-9223372036854775808 : Int64))), .second, .val (.long ((F4 (F3 (-9223372036854775808 : Int64)) q4) + ((0 : Int32)).toInt64)), .second] []))
    refine Done.step (fun t k => XS.aloadN X79.here hx rfl (hb hby d1_94) rfl rfl k) ?_
    show Done p e below s _ _ _ (T79.setTop (mkF m 95 #[.val (.ref a1), .val (.ref a2), .val (.long q3), .second, .val (.long q4), .second, .val (.long (F3 (-9223372036854775808 : Int64))), .second, .val (.long ((F4 (F3 (-9223372036854775808 : Int64)) q4) + ((0 : Int32)).toInt64)), .second] [(.ref a1)]))
    refine Done.step (fun t k => XS.aloadN X79.here hx rfl (hb hby d1_95) rfl rfl k) ?_
    show Done p e below s _ _ _ (T79.setTop (mkF m 96 #[.val (.ref a1), .val (.ref a2), .val (.long q3), .second, .val (.long q4), .second, .val (.long (F3 (-9223372036854775808 : Int64))), .second, .val (.long ((F4 (F3 (-9223372036854775808 : Int64)) q4) + ((0 : Int32)).toInt64)), .second] [(.ref a1), (.ref a1)]))
    refine Done.step (fun t k => XS.aloadN X79.here hx rfl (hb hby d1_96) rfl rfl k) ?_
    show Done p e below s _ _ _ (T79.setTop (mkF m 97 #[.val (.ref a1), .val (.ref a2), .val (.long q3), .second, .val (.long q4), .second, .val (.long (F3 (-9223372036854775808 : Int64))), .second, .val (.long ((F4 (F3 (-9223372036854775808 : Int64)) q4) + ((0 : Int32)).toInt64)), .second] [(.ref a2), (.ref a1), (.ref a1)]))
    obtain ⟨cq93, kq93, q93a, q93b, q93c⟩ := isOf hZ e79 f90
    obtain ⟨v93, _, ⟨T93, L93, k93, n93⟩, -, X93, ⟨Lc93, hQ93, l93, y93, z93⟩, st93⟩ := X79.virtualBack hx (y := (⟨"weirstream/engine/WindowAxis", "highest", "()J"⟩ : MethodName)) (z := (⟨"weirstream/engine/WindowAxis", "highest", "()J"⟩ : MethodName)) hown (mvT hZ (hw _ (List.mem_of_getElem? (i := 54) rfl))) (mvT hZ (hw _ (List.mem_of_getElem? (i := 55) rfl))) (notFace_of_selects (args := #[]) (mvT hZ (hw _ (List.mem_of_getElem? (i := 57) rfl)))) (mvT hZ (hw _ (List.mem_of_getElem? (i := 57) rfl))) (mvT hZ (hw _ (List.mem_of_getElem? (i := 56) rfl))) (by decide) (backOf (W := 2) (rm9 l Z a0 hw [] a2 (9223372036854775807 : Int64) h79 n0 Z79 f92) hZ (hw _ (List.mem_of_getElem? (i := 58) rfl)) (hw _ (List.mem_of_getElem? (i := 5) rfl)) (by decide) (by decide)) q93a q93c (g := (mkF m 97 #[.val (.ref a1), .val (.ref a2), .val (.long q3), .second, .val (.long q4), .second, .val (.long (F3 (-9223372036854775808 : Int64))), .second, .val (.long ((F4 (F3 (-9223372036854775808 : Int64)) q4) + ((0 : Int32)).toInt64)), .second] [(.ref a2), (.ref a1), (.ref a1)])) rfl (by rw [hml]; rfl) (Steps.refl _) (argsL := []) (rest := [(.ref a1), (.ref a1)]) (lenOf pd_1 rfl) rfl (by show 2 * 0 + _ ≤ _; exact Nat.le_of_eq rfl) (hb hby d1_97) (fun _ _ => ⟨rfl, e79, (by decide : 0 + 0 ≤ _), (by decide : 0 + 0 ≤ _)⟩)
    dsimp only [Pt.U, Pt.locs, Pt.cells, Pt.slots] at X93 l93 y93 z93 st93 hQ93
    subst l93 y93 z93
    refine Done.far st93 ?_
    obtain ⟨rfl, N93q, e93⟩ := hQ93
    have N93 := Fr.app N79 N93q
    show Done p e below s _ _ _ (T93.setTop (mkF m 100 #[.val (.ref a1), .val (.ref a2), .val (.long q3), .second, .val (.long q4), .second, .val (.long (F3 (-9223372036854775808 : Int64))), .second, .val (.long ((F4 (F3 (-9223372036854775808 : Int64)) q4) + ((0 : Int32)).toInt64)), .second] [(.long (F9 (9223372036854775807 : Int64))), (.ref a1), (.ref a1)]))
    refine Done.step (fun t k => XS.lloadN X93.here hx rfl (hb hby d1_100) rfl k) ?_
    show Done p e below s _ _ _ (T93.setTop (mkF m 101 #[.val (.ref a1), .val (.ref a2), .val (.long q3), .second, .val (.long q4), .second, .val (.long (F3 (-9223372036854775808 : Int64))), .second, .val (.long ((F4 (F3 (-9223372036854775808 : Int64)) q4) + ((0 : Int32)).toInt64)), .second] [(.long q3), (.long (F9 (9223372036854775807 : Int64))), (.ref a1), (.ref a1)]))
    refine Done.step (fun t k => XS.lsub X93.here hx rfl (hb hby d1_101) rfl k) ?_
    show Done p e below s _ _ _ (T93.setTop (mkF m 102 #[.val (.ref a1), .val (.ref a2), .val (.long q3), .second, .val (.long q4), .second, .val (.long (F3 (-9223372036854775808 : Int64))), .second, .val (.long ((F4 (F3 (-9223372036854775808 : Int64)) q4) + ((0 : Int32)).toInt64)), .second] [(.long ((F9 (9223372036854775807 : Int64)) - q3)), (.ref a1), (.ref a1)]))
    obtain ⟨cq94, kq94, q94a, q94b, q94c⟩ := isOf hZ e93 f80
    obtain ⟨v94, _, ⟨T94, L94, k94, n94⟩, -, X94, ⟨Lc94, hQ94, l94, y94, z94⟩, st94⟩ := X93.virtualBack hx (y := (⟨"weirstream/engine/WindowGeometry", "pane", "(J)J"⟩ : MethodName)) (z := (⟨"weirstream/engine/WindowGeometry", "pane", "(J)J"⟩ : MethodName)) hown (mvT hZ (hw _ (List.mem_of_getElem? (i := 31) rfl))) (mvT hZ (hw _ (List.mem_of_getElem? (i := 32) rfl))) (notFace_of_selects (args := #[]) (mvT hZ (hw _ (List.mem_of_getElem? (i := 34) rfl)))) (mvT hZ (hw _ (List.mem_of_getElem? (i := 34) rfl))) (mvT hZ (hw _ (List.mem_of_getElem? (i := 33) rfl))) (by decide) (backOf (W := 1) (rm4 l Z a0 hw [] a1 ((F9 (9223372036854775807 : Int64)) - q3) q4 h79 n0 Z79 f83 hnz) hZ (hw _ (List.mem_of_getElem? (i := 35) rfl)) (hw _ (List.mem_of_getElem? (i := 3) rfl)) (by decide) (by decide)) q94a q94c (g := (mkF m 102 #[.val (.ref a1), .val (.ref a2), .val (.long q3), .second, .val (.long q4), .second, .val (.long (F3 (-9223372036854775808 : Int64))), .second, .val (.long ((F4 (F3 (-9223372036854775808 : Int64)) q4) + ((0 : Int32)).toInt64)), .second] [(.long ((F9 (9223372036854775807 : Int64)) - q3)), (.ref a1), (.ref a1)])) rfl (by rw [hml]; rfl) (Steps.refl _) (argsL := [(.long ((F9 (9223372036854775807 : Int64)) - q3))]) (rest := [(.ref a1)]) (lenOf pd_2 rfl) rfl (by show 2 * 0 + _ ≤ _; exact Nat.le_of_eq rfl) (hb hby d1_102) (fun _ _ => ⟨rfl, e93, (by decide : 0 + 0 ≤ _), (by decide : 0 + 0 ≤ _)⟩)
    dsimp only [Pt.U, Pt.locs, Pt.cells, Pt.slots] at X94 l94 y94 z94 st94 hQ94
    subst l94 y94 z94
    refine Done.far st94 ?_
    obtain ⟨rfl, N94q, e94⟩ := hQ94
    have N94 := Fr.app N93 N94q
    show Done p e below s _ _ _ (T94.setTop (mkF m 105 #[.val (.ref a1), .val (.ref a2), .val (.long q3), .second, .val (.long q4), .second, .val (.long (F3 (-9223372036854775808 : Int64))), .second, .val (.long ((F4 (F3 (-9223372036854775808 : Int64)) q4) + ((0 : Int32)).toInt64)), .second] [(.long (F4 ((F9 (9223372036854775807 : Int64)) - q3) q4)), (.ref a1)]))
    obtain ⟨T95, h95, X95, e95, W95, st95⟩ := putF X94 hx hZ hown (host := "") (Or.inl (hw _ (List.mem_of_getElem? (i := 61) rfl))) Via.refl e94 f87 f80 (Or.inr ⟨(hw _ (List.mem_of_getElem? (i := 62) rfl)), rfl, hnm⟩) (hw _ (List.mem_of_getElem? (i := 2) rfl)) (ty := .long) (by decide) rfl rfl (g := (mkF m 105 #[.val (.ref a1), .val (.ref a2), .val (.long q3), .second, .val (.long q4), .second, .val (.long (F3 (-9223372036854775808 : Int64))), .second, .val (.long ((F4 (F3 (-9223372036854775808 : Int64)) q4) + ((0 : Int32)).toInt64)), .second] [(.long (F4 ((F9 (9223372036854775807 : Int64)) - q3) q4)), (.ref a1)])) rfl rfl (hb hby d1_105)
    have f96 : Exa Z h95 a1 "weirstream/engine/WindowGeometry" := f80.wr W95
    have f97 : Fld Z h95 a1 "weirstream/engine/WindowGeometry" "axis" "Lweirstream/engine/WindowAxis;" (.ref a2) := f81.other W95 (Or.inr (slot_ne (Or.inr (hw _ (List.mem_of_getElem? (i := 14) rfl))) (Or.inr (hw _ (List.mem_of_getElem? (i := 62) rfl))) (by decide) (t := (.object "weirstream/engine/WindowAxis")) (t' := .long) (by decide) (by decide)))
    have f98 : Fld Z h95 a1 "weirstream/engine/WindowGeometry" "range" "J" (.long q3) := f82.other W95 (Or.inr (slot_ne (Or.inr (hw _ (List.mem_of_getElem? (i := 16) rfl))) (Or.inr (hw _ (List.mem_of_getElem? (i := 62) rfl))) (by decide) (t := .long) (t' := .long) (by decide) (by decide)))
    have f99 : Fld Z h95 a1 "weirstream/engine/WindowGeometry" "slide" "J" (.long q4) := f83.other W95 (Or.inr (slot_ne (Or.inr (hw _ (List.mem_of_getElem? (i := 18) rfl))) (Or.inr (hw _ (List.mem_of_getElem? (i := 62) rfl))) (by decide) (t := .long) (t' := .long) (by decide) (by decide)))
    have f100 : Fld Z h95 a1 "weirstream/engine/WindowGeometry" "panesPerWindow" "J" (.long (q3 / q4)) := f84.other W95 (Or.inr (slot_ne (Or.inr (hw _ (List.mem_of_getElem? (i := 20) rfl))) (Or.inr (hw _ (List.mem_of_getElem? (i := 62) rfl))) (by decide) (t := .long) (t' := .long) (by decide) (by decide)))
    have f101 : Fld Z h95 a1 "weirstream/engine/WindowGeometry" "highestEnding" "J" (.long (((9223372036854775807 : Int64) / q4) - (1 : Int64))) := f85.other W95 (Or.inr (slot_ne (Or.inr (hw _ (List.mem_of_getElem? (i := 23) rfl))) (Or.inr (hw _ (List.mem_of_getElem? (i := 62) rfl))) (by decide) (t := .long) (t' := .long) (by decide) (by decide)))
    have f102 : Fld Z h95 a1 "weirstream/engine/WindowGeometry" "lowestPane" "J" (.long (F8 (F7 ((F4 (F3 (-9223372036854775808 : Int64)) q4) + ((0 : Int32)).toInt64) (q3 / q4)) ((-9223372036854775808 : Int64) + (q3 / q4)))) := f86.other W95 (Or.inr (slot_ne (Or.inr (hw _ (List.mem_of_getElem? (i := 53) rfl))) (Or.inr (hw _ (List.mem_of_getElem? (i := 62) rfl))) (by decide) (t := .long) (t' := .long) (by decide) (by decide)))
    have f103 : Fld Z h95 a1 "weirstream/engine/WindowGeometry" "highestPane" "J" (.long (F4 ((F9 (9223372036854775807 : Int64)) - q3) q4)) := f87.same W95
    have f104 : Fld Z h95 a1 "weirstream/engine/WindowGeometry" "lowestValue" "J" (.long (0 : Int64)) := f88.other W95 (Or.inr (slot_ne (Or.inr (hw _ (List.mem_of_getElem? (i := 64) rfl))) (Or.inr (hw _ (List.mem_of_getElem? (i := 62) rfl))) (by decide) (t := .long) (t' := .long) (by decide) (by decide)))
    have f105 : Fld Z h95 a1 "weirstream/engine/WindowGeometry" "highestValue" "J" (.long (0 : Int64)) := f89.other W95 (Or.inr (slot_ne (Or.inr (hw _ (List.mem_of_getElem? (i := 66) rfl))) (Or.inr (hw _ (List.mem_of_getElem? (i := 62) rfl))) (by decide) (t := .long) (t' := .long) (by decide) (by decide)))
    have f106 : Exa Z h95 a2 "weirstream/engine/WindowAxis$1" := f90.wr W95
    have f107 : Fld Z h95 a2 "weirstream/engine/WindowAxis" "lowest" "J" (.long (-9223372036854775808 : Int64)) := f91.other W95 (Or.inl (Ne.symm (ne_exa E1 Ea (by decide))))
    have f108 : Fld Z h95 a2 "weirstream/engine/WindowAxis" "highest" "J" (.long (9223372036854775807 : Int64)) := f92.other W95 (Or.inl (Ne.symm (ne_exa E1 Ea (by decide))))
    have Z95 : n0 ≤ h95.size := Nat.le_trans Z79 (Keep.of_wr W95).1
    have N95 := Fr.snoc X95 N94 g1
    have K95 : Keep h0 h95 [a1] := K79.wr W95 (Or.inl (by simp))
    refine Done.step st95 ?_
    show Done p e below s _ _ _ (T95.setTop (mkF m 108 #[.val (.ref a1), .val (.ref a2), .val (.long q3), .second, .val (.long q4), .second, .val (.long (F3 (-9223372036854775808 : Int64))), .second, .val (.long ((F4 (F3 (-9223372036854775808 : Int64)) q4) + ((0 : Int32)).toInt64)), .second] []))
    refine Done.step (fun t k => XS.aloadN X95.here hx rfl (hb hby d1_108) rfl rfl k) ?_
    show Done p e below s _ _ _ (T95.setTop (mkF m 109 #[.val (.ref a1), .val (.ref a2), .val (.long q3), .second, .val (.long q4), .second, .val (.long (F3 (-9223372036854775808 : Int64))), .second, .val (.long ((F4 (F3 (-9223372036854775808 : Int64)) q4) + ((0 : Int32)).toInt64)), .second] [(.ref a1)]))
    obtain ⟨T109, X109, e109, st109⟩ := getF X95 hx hZ hown (host := "") (Or.inl (hw _ (List.mem_of_getElem? (i := 52) rfl))) Via.refl e95 f102 (g := (mkF m 109 #[.val (.ref a1), .val (.ref a2), .val (.long q3), .second, .val (.long q4), .second, .val (.long (F3 (-9223372036854775808 : Int64))), .second, .val (.long ((F4 (F3 (-9223372036854775808 : Int64)) q4) + ((0 : Int32)).toInt64)), .second] [(.ref a1)])) rfl rfl (hb hby d1_109)
    refine Done.step st109 ?_
    show Done p e below s _ _ _ (T109.setTop (mkF m 112 #[.val (.ref a1), .val (.ref a2), .val (.long q3), .second, .val (.long q4), .second, .val (.long (F3 (-9223372036854775808 : Int64))), .second, .val (.long ((F4 (F3 (-9223372036854775808 : Int64)) q4) + ((0 : Int32)).toInt64)), .second] [(.long (F8 (F7 ((F4 (F3 (-9223372036854775808 : Int64)) q4) + ((0 : Int32)).toInt64) (q3 / q4)) ((-9223372036854775808 : Int64) + (q3 / q4))))]))
    refine Done.step (fun t k => XS.aloadN X109.here hx rfl (hb hby d1_112) rfl rfl k) ?_
    show Done p e below s _ _ _ (T109.setTop (mkF m 113 #[.val (.ref a1), .val (.ref a2), .val (.long q3), .second, .val (.long q4), .second, .val (.long (F3 (-9223372036854775808 : Int64))), .second, .val (.long ((F4 (F3 (-9223372036854775808 : Int64)) q4) + ((0 : Int32)).toInt64)), .second] [(.ref a1), (.long (F8 (F7 ((F4 (F3 (-9223372036854775808 : Int64)) q4) + ((0 : Int32)).toInt64) (q3 / q4)) ((-9223372036854775808 : Int64) + (q3 / q4))))]))
    obtain ⟨T110, X110, e110, st110⟩ := getF X109 hx hZ hown (host := "") (Or.inl (hw _ (List.mem_of_getElem? (i := 61) rfl))) Via.refl e109 f103 (g := (mkF m 113 #[.val (.ref a1), .val (.ref a2), .val (.long q3), .second, .val (.long q4), .second, .val (.long (F3 (-9223372036854775808 : Int64))), .second, .val (.long ((F4 (F3 (-9223372036854775808 : Int64)) q4) + ((0 : Int32)).toInt64)), .second] [(.ref a1), (.long (F8 (F7 ((F4 (F3 (-9223372036854775808 : Int64)) q4) + ((0 : Int32)).toInt64) (q3 / q4)) ((-9223372036854775808 : Int64) + (q3 / q4))))])) rfl rfl (hb hby d1_113)
    refine Done.step st110 ?_
    show Done p e below s _ _ _ (T110.setTop (mkF m 116 #[.val (.ref a1), .val (.ref a2), .val (.long q3), .second, .val (.long q4), .second, .val (.long (F3 (-9223372036854775808 : Int64))), .second, .val (.long ((F4 (F3 (-9223372036854775808 : Int64)) q4) + ((0 : Int32)).toInt64)), .second] [(.long (F4 ((F9 (9223372036854775807 : Int64)) - q3) q4)), (.long (F8 (F7 ((F4 (F3 (-9223372036854775808 : Int64)) q4) + ((0 : Int32)).toInt64) (q3 / q4)) ((-9223372036854775808 : Int64) + (q3 / q4))))]))
    refine Done.step (fun t k => XS.lcmp X110.here hx rfl (hb hby d1_116) rfl k) ?_
    show Done p e below s _ _ _ (T110.setTop (mkF m 117 #[.val (.ref a1), .val (.ref a2), .val (.long q3), .second, .val (.long q4), .second, .val (.long (F3 (-9223372036854775808 : Int64))), .second, .val (.long ((F4 (F3 (-9223372036854775808 : Int64)) q4) + ((0 : Int32)).toInt64)), .second] [(.int (lcmpW (F8 (F7 ((F4 (F3 (-9223372036854775808 : Int64)) q4) + ((0 : Int32)).toInt64) (q3 / q4)) ((-9223372036854775808 : Int64) + (q3 / q4))) (F4 ((F9 (9223372036854775807 : Int64)) - q3) q4)))]))
    by_cases c111 : (F4 ((F9 (9223372036854775807 : Int64)) - q3) q4) < (F8 (F7 ((F4 (F3 (-9223372036854775808 : Int64)) q4) + ((0 : Int32)).toInt64) (q3 / q4)) ((-9223372036854775808 : Int64) + (q3 / q4)))
    · refine Done.step (fun t k => XS.ifYes X110.here hx rfl (pc0 := 117) (pc' := 150) rfl (hb hby d1_117) rfl ((if0 _ _).trans (tlt ((lw_gt _ _).mpr c111)).2.2.1) (by decide) (by decide) k) ?_
      show Done p e below s _ _ _ (T110.setTop (mkF m 150 #[.val (.ref a1), .val (.ref a2), .val (.long q3), .second, .val (.long q4), .second, .val (.long (F3 (-9223372036854775808 : Int64))), .second, .val (.long ((F4 (F3 (-9223372036854775808 : Int64)) q4) + ((0 : Int32)).toInt64)), .second] []))
      refine Done.step (fun t k => XS.aloadN X110.here hx rfl (hb hby d1_150) rfl rfl k) ?_
      show Done p e below s _ _ _ (T110.setTop (mkF m 151 #[.val (.ref a1), .val (.ref a2), .val (.long q3), .second, .val (.long q4), .second, .val (.long (F3 (-9223372036854775808 : Int64))), .second, .val (.long ((F4 (F3 (-9223372036854775808 : Int64)) q4) + ((0 : Int32)).toInt64)), .second] [(.ref a1)]))
      refine Done.step (X110.ldc2Long hx hown (mvT hZ (hw _ (List.mem_of_getElem? (i := 21) rfl))) (g := (mkF m 151 #[.val (.ref a1), .val (.ref a2), .val (.long q3), .second, .val (.long q4), .second, .val (.long (F3 (-9223372036854775808 : Int64))), .second, .val (.long ((F4 (F3 (-9223372036854775808 : Int64)) q4) + ((0 : Int32)).toInt64)), .second] [(.ref a1)])) rfl (hb hby d1_151)) ?_
      show Done p e below s _ _ _ (T110.setTop (mkF m 154 #[.val (.ref a1), .val (.ref a2), .val (.long q3), .second, .val (.long q4), .second, .val (.long (F3 (-9223372036854775808 : Int64))), .second, .val (.long ((F4 (F3 (-9223372036854775808 : Int64)) q4) + ((0 : Int32)).toInt64)), .second] [(.long (9223372036854775807 : Int64)), (.ref a1)]))
      obtain ⟨T112, h112, X112, e112, W112, st112⟩ := putF X110 hx hZ hown (host := "") (Or.inl (hw _ (List.mem_of_getElem? (i := 63) rfl))) Via.refl e110 f104 f96 (Or.inr ⟨(hw _ (List.mem_of_getElem? (i := 64) rfl)), rfl, hnm⟩) (hw _ (List.mem_of_getElem? (i := 2) rfl)) (ty := .long) (by decide) rfl rfl (g := (mkF m 154 #[.val (.ref a1), .val (.ref a2), .val (.long q3), .second, .val (.long q4), .second, .val (.long (F3 (-9223372036854775808 : Int64))), .second, .val (.long ((F4 (F3 (-9223372036854775808 : Int64)) q4) + ((0 : Int32)).toInt64)), .second] [(.long (9223372036854775807 : Int64)), (.ref a1)])) rfl rfl (hb hby d1_154)
      have f113 : Exa Z h112 a1 "weirstream/engine/WindowGeometry" := f96.wr W112
      have f114 : Fld Z h112 a1 "weirstream/engine/WindowGeometry" "axis" "Lweirstream/engine/WindowAxis;" (.ref a2) := f97.other W112 (Or.inr (slot_ne (Or.inr (hw _ (List.mem_of_getElem? (i := 14) rfl))) (Or.inr (hw _ (List.mem_of_getElem? (i := 64) rfl))) (by decide) (t := (.object "weirstream/engine/WindowAxis")) (t' := .long) (by decide) (by decide)))
      have f115 : Fld Z h112 a1 "weirstream/engine/WindowGeometry" "range" "J" (.long q3) := f98.other W112 (Or.inr (slot_ne (Or.inr (hw _ (List.mem_of_getElem? (i := 16) rfl))) (Or.inr (hw _ (List.mem_of_getElem? (i := 64) rfl))) (by decide) (t := .long) (t' := .long) (by decide) (by decide)))
      have f116 : Fld Z h112 a1 "weirstream/engine/WindowGeometry" "slide" "J" (.long q4) := f99.other W112 (Or.inr (slot_ne (Or.inr (hw _ (List.mem_of_getElem? (i := 18) rfl))) (Or.inr (hw _ (List.mem_of_getElem? (i := 64) rfl))) (by decide) (t := .long) (t' := .long) (by decide) (by decide)))
      have f117 : Fld Z h112 a1 "weirstream/engine/WindowGeometry" "panesPerWindow" "J" (.long (q3 / q4)) := f100.other W112 (Or.inr (slot_ne (Or.inr (hw _ (List.mem_of_getElem? (i := 20) rfl))) (Or.inr (hw _ (List.mem_of_getElem? (i := 64) rfl))) (by decide) (t := .long) (t' := .long) (by decide) (by decide)))
      have f118 : Fld Z h112 a1 "weirstream/engine/WindowGeometry" "highestEnding" "J" (.long (((9223372036854775807 : Int64) / q4) - (1 : Int64))) := f101.other W112 (Or.inr (slot_ne (Or.inr (hw _ (List.mem_of_getElem? (i := 23) rfl))) (Or.inr (hw _ (List.mem_of_getElem? (i := 64) rfl))) (by decide) (t := .long) (t' := .long) (by decide) (by decide)))
      have f119 : Fld Z h112 a1 "weirstream/engine/WindowGeometry" "lowestPane" "J" (.long (F8 (F7 ((F4 (F3 (-9223372036854775808 : Int64)) q4) + ((0 : Int32)).toInt64) (q3 / q4)) ((-9223372036854775808 : Int64) + (q3 / q4)))) := f102.other W112 (Or.inr (slot_ne (Or.inr (hw _ (List.mem_of_getElem? (i := 53) rfl))) (Or.inr (hw _ (List.mem_of_getElem? (i := 64) rfl))) (by decide) (t := .long) (t' := .long) (by decide) (by decide)))
      have f120 : Fld Z h112 a1 "weirstream/engine/WindowGeometry" "highestPane" "J" (.long (F4 ((F9 (9223372036854775807 : Int64)) - q3) q4)) := f103.other W112 (Or.inr (slot_ne (Or.inr (hw _ (List.mem_of_getElem? (i := 62) rfl))) (Or.inr (hw _ (List.mem_of_getElem? (i := 64) rfl))) (by decide) (t := .long) (t' := .long) (by decide) (by decide)))
      have f121 : Fld Z h112 a1 "weirstream/engine/WindowGeometry" "lowestValue" "J" (.long (9223372036854775807 : Int64)) := f104.same W112
      have f122 : Fld Z h112 a1 "weirstream/engine/WindowGeometry" "highestValue" "J" (.long (0 : Int64)) := f105.other W112 (Or.inr (slot_ne (Or.inr (hw _ (List.mem_of_getElem? (i := 66) rfl))) (Or.inr (hw _ (List.mem_of_getElem? (i := 64) rfl))) (by decide) (t := .long) (t' := .long) (by decide) (by decide)))
      have f123 : Exa Z h112 a2 "weirstream/engine/WindowAxis$1" := f106.wr W112
      have f124 : Fld Z h112 a2 "weirstream/engine/WindowAxis" "lowest" "J" (.long (-9223372036854775808 : Int64)) := f107.other W112 (Or.inl (Ne.symm (ne_exa E1 Ea (by decide))))
      have f125 : Fld Z h112 a2 "weirstream/engine/WindowAxis" "highest" "J" (.long (9223372036854775807 : Int64)) := f108.other W112 (Or.inl (Ne.symm (ne_exa E1 Ea (by decide))))
      have Z112 : n0 ≤ h112.size := Nat.le_trans Z95 (Keep.of_wr W112).1
      have N112 := Fr.snoc X112 N95 g1
      have K112 : Keep h0 h112 [a1] := K95.wr W112 (Or.inl (by simp))
      refine Done.step st112 ?_
      show Done p e below s _ _ _ (T112.setTop (mkF m 157 #[.val (.ref a1), .val (.ref a2), .val (.long q3), .second, .val (.long q4), .second, .val (.long (F3 (-9223372036854775808 : Int64))), .second, .val (.long ((F4 (F3 (-9223372036854775808 : Int64)) q4) + ((0 : Int32)).toInt64)), .second] []))
      refine Done.step (fun t k => XS.aloadN X112.here hx rfl (hb hby d1_157) rfl rfl k) ?_
      show Done p e below s _ _ _ (T112.setTop (mkF m 158 #[.val (.ref a1), .val (.ref a2), .val (.long q3), .second, .val (.long q4), .second, .val (.long (F3 (-9223372036854775808 : Int64))), .second, .val (.long ((F4 (F3 (-9223372036854775808 : Int64)) q4) + ((0 : Int32)).toInt64)), .second] [(.ref a1)]))
      refine Done.step (X112.ldc2Long hx hown (mvT hZ (hw _ (List.mem_of_getElem? (i := 48) rfl))) (g := (mkF m 158 #[.val (.ref a1), .val (.ref a2), .val (.long q3), .second, .val (.long q4), .second, .val (.long (F3 (-9223372036854775808 : Int64))), .second, .val (.long ((F4 (F3 (-9223372036854775808 : Int64)) q4) + ((0 : Int32)).toInt64)), .second] [(.ref a1)])) rfl (hb hby d1_158)) ?_
      show Done p e below s _ _ _ (T112.setTop (mkF m 161 #[.val (.ref a1), .val (.ref a2), .val (.long q3), .second, .val (.long q4), .second, .val (.long (F3 (-9223372036854775808 : Int64))), .second, .val (.long ((F4 (F3 (-9223372036854775808 : Int64)) q4) + ((0 : Int32)).toInt64)), .second] [(.long (-9223372036854775808 : Int64)), (.ref a1)]))
      obtain ⟨T126, h126, X126, e126, W126, st126⟩ := putF X112 hx hZ hown (host := "") (Or.inl (hw _ (List.mem_of_getElem? (i := 65) rfl))) Via.refl e112 f122 f113 (Or.inr ⟨(hw _ (List.mem_of_getElem? (i := 66) rfl)), rfl, hnm⟩) (hw _ (List.mem_of_getElem? (i := 2) rfl)) (ty := .long) (by decide) rfl rfl (g := (mkF m 161 #[.val (.ref a1), .val (.ref a2), .val (.long q3), .second, .val (.long q4), .second, .val (.long (F3 (-9223372036854775808 : Int64))), .second, .val (.long ((F4 (F3 (-9223372036854775808 : Int64)) q4) + ((0 : Int32)).toInt64)), .second] [(.long (-9223372036854775808 : Int64)), (.ref a1)])) rfl rfl (hb hby d1_161)
      have f127 : Exa Z h126 a1 "weirstream/engine/WindowGeometry" := f113.wr W126
      have f128 : Fld Z h126 a1 "weirstream/engine/WindowGeometry" "axis" "Lweirstream/engine/WindowAxis;" (.ref a2) := f114.other W126 (Or.inr (slot_ne (Or.inr (hw _ (List.mem_of_getElem? (i := 14) rfl))) (Or.inr (hw _ (List.mem_of_getElem? (i := 66) rfl))) (by decide) (t := (.object "weirstream/engine/WindowAxis")) (t' := .long) (by decide) (by decide)))
      have f129 : Fld Z h126 a1 "weirstream/engine/WindowGeometry" "range" "J" (.long q3) := f115.other W126 (Or.inr (slot_ne (Or.inr (hw _ (List.mem_of_getElem? (i := 16) rfl))) (Or.inr (hw _ (List.mem_of_getElem? (i := 66) rfl))) (by decide) (t := .long) (t' := .long) (by decide) (by decide)))
      have f130 : Fld Z h126 a1 "weirstream/engine/WindowGeometry" "slide" "J" (.long q4) := f116.other W126 (Or.inr (slot_ne (Or.inr (hw _ (List.mem_of_getElem? (i := 18) rfl))) (Or.inr (hw _ (List.mem_of_getElem? (i := 66) rfl))) (by decide) (t := .long) (t' := .long) (by decide) (by decide)))
      have f131 : Fld Z h126 a1 "weirstream/engine/WindowGeometry" "panesPerWindow" "J" (.long (q3 / q4)) := f117.other W126 (Or.inr (slot_ne (Or.inr (hw _ (List.mem_of_getElem? (i := 20) rfl))) (Or.inr (hw _ (List.mem_of_getElem? (i := 66) rfl))) (by decide) (t := .long) (t' := .long) (by decide) (by decide)))
      have f132 : Fld Z h126 a1 "weirstream/engine/WindowGeometry" "highestEnding" "J" (.long (((9223372036854775807 : Int64) / q4) - (1 : Int64))) := f118.other W126 (Or.inr (slot_ne (Or.inr (hw _ (List.mem_of_getElem? (i := 23) rfl))) (Or.inr (hw _ (List.mem_of_getElem? (i := 66) rfl))) (by decide) (t := .long) (t' := .long) (by decide) (by decide)))
      have f133 : Fld Z h126 a1 "weirstream/engine/WindowGeometry" "lowestPane" "J" (.long (F8 (F7 ((F4 (F3 (-9223372036854775808 : Int64)) q4) + ((0 : Int32)).toInt64) (q3 / q4)) ((-9223372036854775808 : Int64) + (q3 / q4)))) := f119.other W126 (Or.inr (slot_ne (Or.inr (hw _ (List.mem_of_getElem? (i := 53) rfl))) (Or.inr (hw _ (List.mem_of_getElem? (i := 66) rfl))) (by decide) (t := .long) (t' := .long) (by decide) (by decide)))
      have f134 : Fld Z h126 a1 "weirstream/engine/WindowGeometry" "highestPane" "J" (.long (F4 ((F9 (9223372036854775807 : Int64)) - q3) q4)) := f120.other W126 (Or.inr (slot_ne (Or.inr (hw _ (List.mem_of_getElem? (i := 62) rfl))) (Or.inr (hw _ (List.mem_of_getElem? (i := 66) rfl))) (by decide) (t := .long) (t' := .long) (by decide) (by decide)))
      have f135 : Fld Z h126 a1 "weirstream/engine/WindowGeometry" "lowestValue" "J" (.long (9223372036854775807 : Int64)) := f121.other W126 (Or.inr (slot_ne (Or.inr (hw _ (List.mem_of_getElem? (i := 64) rfl))) (Or.inr (hw _ (List.mem_of_getElem? (i := 66) rfl))) (by decide) (t := .long) (t' := .long) (by decide) (by decide)))
      have f136 : Fld Z h126 a1 "weirstream/engine/WindowGeometry" "highestValue" "J" (.long (-9223372036854775808 : Int64)) := f122.same W126
      have f137 : Exa Z h126 a2 "weirstream/engine/WindowAxis$1" := f123.wr W126
      have f138 : Fld Z h126 a2 "weirstream/engine/WindowAxis" "lowest" "J" (.long (-9223372036854775808 : Int64)) := f124.other W126 (Or.inl (Ne.symm (ne_exa E1 Ea (by decide))))
      have f139 : Fld Z h126 a2 "weirstream/engine/WindowAxis" "highest" "J" (.long (9223372036854775807 : Int64)) := f125.other W126 (Or.inl (Ne.symm (ne_exa E1 Ea (by decide))))
      have Z126 : n0 ≤ h126.size := Nat.le_trans Z112 (Keep.of_wr W126).1
      have N126 := Fr.snoc X126 N112 g1
      have K126 : Keep h0 h126 [a1] := K112.wr W126 (Or.inl (by simp))
      refine Done.step st126 ?_
      show Done p e below s _ _ _ (T126.setTop (mkF m 164 #[.val (.ref a1), .val (.ref a2), .val (.long q3), .second, .val (.long q4), .second, .val (.long (F3 (-9223372036854775808 : Int64))), .second, .val (.long ((F4 (F3 (-9223372036854775808 : Int64)) q4) + ((0 : Int32)).toInt64)), .second] []))
      exact Done.void X126 hx hlk hret (hb hby d1_164) (by decide) (by decide) ⟨rfl, N126, (by rw [e126]; exact ⟨K126, f127, f131⟩)⟩
    · refine Done.step (fun t k => XS.ifNo X110.here hx rfl (hb hby d1_117) rfl ((if0 _ _).trans (flt (fun q_ => c111 ((lw_gt _ _).mp q_))).2.2.1) k) ?_
      show Done p e below s _ _ _ (T110.setTop (mkF m 120 #[.val (.ref a1), .val (.ref a2), .val (.long q3), .second, .val (.long q4), .second, .val (.long (F3 (-9223372036854775808 : Int64))), .second, .val (.long ((F4 (F3 (-9223372036854775808 : Int64)) q4) + ((0 : Int32)).toInt64)), .second] []))
      refine Done.step (fun t k => XS.aloadN X110.here hx rfl (hb hby d1_120) rfl rfl k) ?_
      show Done p e below s _ _ _ (T110.setTop (mkF m 121 #[.val (.ref a1), .val (.ref a2), .val (.long q3), .second, .val (.long q4), .second, .val (.long (F3 (-9223372036854775808 : Int64))), .second, .val (.long ((F4 (F3 (-9223372036854775808 : Int64)) q4) + ((0 : Int32)).toInt64)), .second] [(.ref a1)]))
      refine Done.step (fun t k => XS.aloadN X110.here hx rfl (hb hby d1_121) rfl rfl k) ?_
      show Done p e below s _ _ _ (T110.setTop (mkF m 122 #[.val (.ref a1), .val (.ref a2), .val (.long q3), .second, .val (.long q4), .second, .val (.long (F3 (-9223372036854775808 : Int64))), .second, .val (.long ((F4 (F3 (-9223372036854775808 : Int64)) q4) + ((0 : Int32)).toInt64)), .second] [(.ref a1), (.ref a1)]))
      obtain ⟨T140, X140, e140, st140⟩ := getF X110 hx hZ hown (host := "") (Or.inl (hw _ (List.mem_of_getElem? (i := 52) rfl))) Via.refl e110 f102 (g := (mkF m 122 #[.val (.ref a1), .val (.ref a2), .val (.long q3), .second, .val (.long q4), .second, .val (.long (F3 (-9223372036854775808 : Int64))), .second, .val (.long ((F4 (F3 (-9223372036854775808 : Int64)) q4) + ((0 : Int32)).toInt64)), .second] [(.ref a1), (.ref a1)])) rfl rfl (hb hby d1_122)
      refine Done.step st140 ?_
      show Done p e below s _ _ _ (T140.setTop (mkF m 125 #[.val (.ref a1), .val (.ref a2), .val (.long q3), .second, .val (.long q4), .second, .val (.long (F3 (-9223372036854775808 : Int64))), .second, .val (.long ((F4 (F3 (-9223372036854775808 : Int64)) q4) + ((0 : Int32)).toInt64)), .second] [(.long (F8 (F7 ((F4 (F3 (-9223372036854775808 : Int64)) q4) + ((0 : Int32)).toInt64) (q3 / q4)) ((-9223372036854775808 : Int64) + (q3 / q4)))), (.ref a1)]))
      refine Done.step (fun t k => XS.lload X140.here hx rfl (hb hby d1_125) rfl k) ?_
      show Done p e below s _ _ _ (T140.setTop (mkF m 127 #[.val (.ref a1), .val (.ref a2), .val (.long q3), .second, .val (.long q4), .second, .val (.long (F3 (-9223372036854775808 : Int64))), .second, .val (.long ((F4 (F3 (-9223372036854775808 : Int64)) q4) + ((0 : Int32)).toInt64)), .second] [(.long q4), (.long (F8 (F7 ((F4 (F3 (-9223372036854775808 : Int64)) q4) + ((0 : Int32)).toInt64) (q3 / q4)) ((-9223372036854775808 : Int64) + (q3 / q4)))), (.ref a1)]))
      refine Done.step (fun t k => XS.lmul X140.here hx rfl (hb hby d1_127) rfl k) ?_
      show Done p e below s _ _ _ (T140.setTop (mkF m 128 #[.val (.ref a1), .val (.ref a2), .val (.long q3), .second, .val (.long q4), .second, .val (.long (F3 (-9223372036854775808 : Int64))), .second, .val (.long ((F4 (F3 (-9223372036854775808 : Int64)) q4) + ((0 : Int32)).toInt64)), .second] [(.long ((F8 (F7 ((F4 (F3 (-9223372036854775808 : Int64)) q4) + ((0 : Int32)).toInt64) (q3 / q4)) ((-9223372036854775808 : Int64) + (q3 / q4))) * q4)), (.ref a1)]))
      obtain ⟨T141, h141, X141, e141, W141, st141⟩ := putF X140 hx hZ hown (host := "") (Or.inl (hw _ (List.mem_of_getElem? (i := 63) rfl))) Via.refl e140 f104 f96 (Or.inr ⟨(hw _ (List.mem_of_getElem? (i := 64) rfl)), rfl, hnm⟩) (hw _ (List.mem_of_getElem? (i := 2) rfl)) (ty := .long) (by decide) rfl rfl (g := (mkF m 128 #[.val (.ref a1), .val (.ref a2), .val (.long q3), .second, .val (.long q4), .second, .val (.long (F3 (-9223372036854775808 : Int64))), .second, .val (.long ((F4 (F3 (-9223372036854775808 : Int64)) q4) + ((0 : Int32)).toInt64)), .second] [(.long ((F8 (F7 ((F4 (F3 (-9223372036854775808 : Int64)) q4) + ((0 : Int32)).toInt64) (q3 / q4)) ((-9223372036854775808 : Int64) + (q3 / q4))) * q4)), (.ref a1)])) rfl rfl (hb hby d1_128)
      have f142 : Exa Z h141 a1 "weirstream/engine/WindowGeometry" := f96.wr W141
      have f143 : Fld Z h141 a1 "weirstream/engine/WindowGeometry" "axis" "Lweirstream/engine/WindowAxis;" (.ref a2) := f97.other W141 (Or.inr (slot_ne (Or.inr (hw _ (List.mem_of_getElem? (i := 14) rfl))) (Or.inr (hw _ (List.mem_of_getElem? (i := 64) rfl))) (by decide) (t := (.object "weirstream/engine/WindowAxis")) (t' := .long) (by decide) (by decide)))
      have f144 : Fld Z h141 a1 "weirstream/engine/WindowGeometry" "range" "J" (.long q3) := f98.other W141 (Or.inr (slot_ne (Or.inr (hw _ (List.mem_of_getElem? (i := 16) rfl))) (Or.inr (hw _ (List.mem_of_getElem? (i := 64) rfl))) (by decide) (t := .long) (t' := .long) (by decide) (by decide)))
      have f145 : Fld Z h141 a1 "weirstream/engine/WindowGeometry" "slide" "J" (.long q4) := f99.other W141 (Or.inr (slot_ne (Or.inr (hw _ (List.mem_of_getElem? (i := 18) rfl))) (Or.inr (hw _ (List.mem_of_getElem? (i := 64) rfl))) (by decide) (t := .long) (t' := .long) (by decide) (by decide)))
      have f146 : Fld Z h141 a1 "weirstream/engine/WindowGeometry" "panesPerWindow" "J" (.long (q3 / q4)) := f100.other W141 (Or.inr (slot_ne (Or.inr (hw _ (List.mem_of_getElem? (i := 20) rfl))) (Or.inr (hw _ (List.mem_of_getElem? (i := 64) rfl))) (by decide) (t := .long) (t' := .long) (by decide) (by decide)))
      have f147 : Fld Z h141 a1 "weirstream/engine/WindowGeometry" "highestEnding" "J" (.long (((9223372036854775807 : Int64) / q4) - (1 : Int64))) := f101.other W141 (Or.inr (slot_ne (Or.inr (hw _ (List.mem_of_getElem? (i := 23) rfl))) (Or.inr (hw _ (List.mem_of_getElem? (i := 64) rfl))) (by decide) (t := .long) (t' := .long) (by decide) (by decide)))
      have f148 : Fld Z h141 a1 "weirstream/engine/WindowGeometry" "lowestPane" "J" (.long (F8 (F7 ((F4 (F3 (-9223372036854775808 : Int64)) q4) + ((0 : Int32)).toInt64) (q3 / q4)) ((-9223372036854775808 : Int64) + (q3 / q4)))) := f102.other W141 (Or.inr (slot_ne (Or.inr (hw _ (List.mem_of_getElem? (i := 53) rfl))) (Or.inr (hw _ (List.mem_of_getElem? (i := 64) rfl))) (by decide) (t := .long) (t' := .long) (by decide) (by decide)))
      have f149 : Fld Z h141 a1 "weirstream/engine/WindowGeometry" "highestPane" "J" (.long (F4 ((F9 (9223372036854775807 : Int64)) - q3) q4)) := f103.other W141 (Or.inr (slot_ne (Or.inr (hw _ (List.mem_of_getElem? (i := 62) rfl))) (Or.inr (hw _ (List.mem_of_getElem? (i := 64) rfl))) (by decide) (t := .long) (t' := .long) (by decide) (by decide)))
      have f150 : Fld Z h141 a1 "weirstream/engine/WindowGeometry" "lowestValue" "J" (.long ((F8 (F7 ((F4 (F3 (-9223372036854775808 : Int64)) q4) + ((0 : Int32)).toInt64) (q3 / q4)) ((-9223372036854775808 : Int64) + (q3 / q4))) * q4)) := f104.same W141
      have f151 : Fld Z h141 a1 "weirstream/engine/WindowGeometry" "highestValue" "J" (.long (0 : Int64)) := f105.other W141 (Or.inr (slot_ne (Or.inr (hw _ (List.mem_of_getElem? (i := 66) rfl))) (Or.inr (hw _ (List.mem_of_getElem? (i := 64) rfl))) (by decide) (t := .long) (t' := .long) (by decide) (by decide)))
      have f152 : Exa Z h141 a2 "weirstream/engine/WindowAxis$1" := f106.wr W141
      have f153 : Fld Z h141 a2 "weirstream/engine/WindowAxis" "lowest" "J" (.long (-9223372036854775808 : Int64)) := f107.other W141 (Or.inl (Ne.symm (ne_exa E1 Ea (by decide))))
      have f154 : Fld Z h141 a2 "weirstream/engine/WindowAxis" "highest" "J" (.long (9223372036854775807 : Int64)) := f108.other W141 (Or.inl (Ne.symm (ne_exa E1 Ea (by decide))))
      have Z141 : n0 ≤ h141.size := Nat.le_trans Z95 (Keep.of_wr W141).1
      have N141 := Fr.snoc X141 N95 g1
      have K141 : Keep h0 h141 [a1] := K95.wr W141 (Or.inl (by simp))
      refine Done.step st141 ?_
      show Done p e below s _ _ _ (T141.setTop (mkF m 131 #[.val (.ref a1), .val (.ref a2), .val (.long q3), .second, .val (.long q4), .second, .val (.long (F3 (-9223372036854775808 : Int64))), .second, .val (.long ((F4 (F3 (-9223372036854775808 : Int64)) q4) + ((0 : Int32)).toInt64)), .second] []))
      refine Done.step (fun t k => XS.aloadN X141.here hx rfl (hb hby d1_131) rfl rfl k) ?_
      show Done p e below s _ _ _ (T141.setTop (mkF m 132 #[.val (.ref a1), .val (.ref a2), .val (.long q3), .second, .val (.long q4), .second, .val (.long (F3 (-9223372036854775808 : Int64))), .second, .val (.long ((F4 (F3 (-9223372036854775808 : Int64)) q4) + ((0 : Int32)).toInt64)), .second] [(.ref a1)]))
      refine Done.step (fun t k => XS.aloadN X141.here hx rfl (hb hby d1_132) rfl rfl k) ?_
      show Done p e below s _ _ _ (T141.setTop (mkF m 133 #[.val (.ref a1), .val (.ref a2), .val (.long q3), .second, .val (.long q4), .second, .val (.long (F3 (-9223372036854775808 : Int64))), .second, .val (.long ((F4 (F3 (-9223372036854775808 : Int64)) q4) + ((0 : Int32)).toInt64)), .second] [(.ref a1), (.ref a1)]))
      obtain ⟨T155, X155, e155, st155⟩ := getF X141 hx hZ hown (host := "") (Or.inl (hw _ (List.mem_of_getElem? (i := 61) rfl))) Via.refl e141 f149 (g := (mkF m 133 #[.val (.ref a1), .val (.ref a2), .val (.long q3), .second, .val (.long q4), .second, .val (.long (F3 (-9223372036854775808 : Int64))), .second, .val (.long ((F4 (F3 (-9223372036854775808 : Int64)) q4) + ((0 : Int32)).toInt64)), .second] [(.ref a1), (.ref a1)])) rfl rfl (hb hby d1_133)
      refine Done.step st155 ?_
      show Done p e below s _ _ _ (T155.setTop (mkF m 136 #[.val (.ref a1), .val (.ref a2), .val (.long q3), .second, .val (.long q4), .second, .val (.long (F3 (-9223372036854775808 : Int64))), .second, .val (.long ((F4 (F3 (-9223372036854775808 : Int64)) q4) + ((0 : Int32)).toInt64)), .second] [(.long (F4 ((F9 (9223372036854775807 : Int64)) - q3) q4)), (.ref a1)]))
      refine Done.step (fun t k => XS.lload X155.here hx rfl (hb hby d1_136) rfl k) ?_
      show Done p e below s _ _ _ (T155.setTop (mkF m 138 #[.val (.ref a1), .val (.ref a2), .val (.long q3), .second, .val (.long q4), .second, .val (.long (F3 (-9223372036854775808 : Int64))), .second, .val (.long ((F4 (F3 (-9223372036854775808 : Int64)) q4) + ((0 : Int32)).toInt64)), .second] [(.long q4), (.long (F4 ((F9 (9223372036854775807 : Int64)) - q3) q4)), (.ref a1)]))
      refine Done.step (fun t k => XS.lmul X155.here hx rfl (hb hby d1_138) rfl k) ?_
      show Done p e below s _ _ _ (T155.setTop (mkF m 139 #[.val (.ref a1), .val (.ref a2), .val (.long q3), .second, .val (.long q4), .second, .val (.long (F3 (-9223372036854775808 : Int64))), .second, .val (.long ((F4 (F3 (-9223372036854775808 : Int64)) q4) + ((0 : Int32)).toInt64)), .second] [(.long ((F4 ((F9 (9223372036854775807 : Int64)) - q3) q4) * q4)), (.ref a1)]))
      refine Done.step (fun t k => XS.lload X155.here hx rfl (hb hby d1_139) rfl k) ?_
      show Done p e below s _ _ _ (T155.setTop (mkF m 141 #[.val (.ref a1), .val (.ref a2), .val (.long q3), .second, .val (.long q4), .second, .val (.long (F3 (-9223372036854775808 : Int64))), .second, .val (.long ((F4 (F3 (-9223372036854775808 : Int64)) q4) + ((0 : Int32)).toInt64)), .second] [(.long q4), (.long ((F4 ((F9 (9223372036854775807 : Int64)) - q3) q4) * q4)), (.ref a1)]))
      refine Done.step (fun t k => XS.lconst X155.here hx rfl (hb hby d1_141) k) ?_
      show Done p e below s _ _ _ (T155.setTop (mkF m 142 #[.val (.ref a1), .val (.ref a2), .val (.long q3), .second, .val (.long q4), .second, .val (.long (F3 (-9223372036854775808 : Int64))), .second, .val (.long ((F4 (F3 (-9223372036854775808 : Int64)) q4) + ((0 : Int32)).toInt64)), .second] [(.long (1 : Int64)), (.long q4), (.long ((F4 ((F9 (9223372036854775807 : Int64)) - q3) q4) * q4)), (.ref a1)]))
      refine Done.step (fun t k => XS.lsub X155.here hx rfl (hb hby d1_142) rfl k) ?_
      show Done p e below s _ _ _ (T155.setTop (mkF m 143 #[.val (.ref a1), .val (.ref a2), .val (.long q3), .second, .val (.long q4), .second, .val (.long (F3 (-9223372036854775808 : Int64))), .second, .val (.long ((F4 (F3 (-9223372036854775808 : Int64)) q4) + ((0 : Int32)).toInt64)), .second] [(.long (q4 - (1 : Int64))), (.long ((F4 ((F9 (9223372036854775807 : Int64)) - q3) q4) * q4)), (.ref a1)]))
      refine Done.step (fun t k => XS.ladd X155.here hx rfl (hb hby d1_143) rfl k) ?_
      show Done p e below s _ _ _ (T155.setTop (mkF m 144 #[.val (.ref a1), .val (.ref a2), .val (.long q3), .second, .val (.long q4), .second, .val (.long (F3 (-9223372036854775808 : Int64))), .second, .val (.long ((F4 (F3 (-9223372036854775808 : Int64)) q4) + ((0 : Int32)).toInt64)), .second] [(.long (((F4 ((F9 (9223372036854775807 : Int64)) - q3) q4) * q4) + (q4 - (1 : Int64)))), (.ref a1)]))
      obtain ⟨T156, h156, X156, e156, W156, st156⟩ := putF X155 hx hZ hown (host := "") (Or.inl (hw _ (List.mem_of_getElem? (i := 65) rfl))) Via.refl e155 f151 f142 (Or.inr ⟨(hw _ (List.mem_of_getElem? (i := 66) rfl)), rfl, hnm⟩) (hw _ (List.mem_of_getElem? (i := 2) rfl)) (ty := .long) (by decide) rfl rfl (g := (mkF m 144 #[.val (.ref a1), .val (.ref a2), .val (.long q3), .second, .val (.long q4), .second, .val (.long (F3 (-9223372036854775808 : Int64))), .second, .val (.long ((F4 (F3 (-9223372036854775808 : Int64)) q4) + ((0 : Int32)).toInt64)), .second] [(.long (((F4 ((F9 (9223372036854775807 : Int64)) - q3) q4) * q4) + (q4 - (1 : Int64)))), (.ref a1)])) rfl rfl (hb hby d1_144)
      have f157 : Exa Z h156 a1 "weirstream/engine/WindowGeometry" := f142.wr W156
      have f158 : Fld Z h156 a1 "weirstream/engine/WindowGeometry" "axis" "Lweirstream/engine/WindowAxis;" (.ref a2) := f143.other W156 (Or.inr (slot_ne (Or.inr (hw _ (List.mem_of_getElem? (i := 14) rfl))) (Or.inr (hw _ (List.mem_of_getElem? (i := 66) rfl))) (by decide) (t := (.object "weirstream/engine/WindowAxis")) (t' := .long) (by decide) (by decide)))
      have f159 : Fld Z h156 a1 "weirstream/engine/WindowGeometry" "range" "J" (.long q3) := f144.other W156 (Or.inr (slot_ne (Or.inr (hw _ (List.mem_of_getElem? (i := 16) rfl))) (Or.inr (hw _ (List.mem_of_getElem? (i := 66) rfl))) (by decide) (t := .long) (t' := .long) (by decide) (by decide)))
      have f160 : Fld Z h156 a1 "weirstream/engine/WindowGeometry" "slide" "J" (.long q4) := f145.other W156 (Or.inr (slot_ne (Or.inr (hw _ (List.mem_of_getElem? (i := 18) rfl))) (Or.inr (hw _ (List.mem_of_getElem? (i := 66) rfl))) (by decide) (t := .long) (t' := .long) (by decide) (by decide)))
      have f161 : Fld Z h156 a1 "weirstream/engine/WindowGeometry" "panesPerWindow" "J" (.long (q3 / q4)) := f146.other W156 (Or.inr (slot_ne (Or.inr (hw _ (List.mem_of_getElem? (i := 20) rfl))) (Or.inr (hw _ (List.mem_of_getElem? (i := 66) rfl))) (by decide) (t := .long) (t' := .long) (by decide) (by decide)))
      have f162 : Fld Z h156 a1 "weirstream/engine/WindowGeometry" "highestEnding" "J" (.long (((9223372036854775807 : Int64) / q4) - (1 : Int64))) := f147.other W156 (Or.inr (slot_ne (Or.inr (hw _ (List.mem_of_getElem? (i := 23) rfl))) (Or.inr (hw _ (List.mem_of_getElem? (i := 66) rfl))) (by decide) (t := .long) (t' := .long) (by decide) (by decide)))
      have f163 : Fld Z h156 a1 "weirstream/engine/WindowGeometry" "lowestPane" "J" (.long (F8 (F7 ((F4 (F3 (-9223372036854775808 : Int64)) q4) + ((0 : Int32)).toInt64) (q3 / q4)) ((-9223372036854775808 : Int64) + (q3 / q4)))) := f148.other W156 (Or.inr (slot_ne (Or.inr (hw _ (List.mem_of_getElem? (i := 53) rfl))) (Or.inr (hw _ (List.mem_of_getElem? (i := 66) rfl))) (by decide) (t := .long) (t' := .long) (by decide) (by decide)))
      have f164 : Fld Z h156 a1 "weirstream/engine/WindowGeometry" "highestPane" "J" (.long (F4 ((F9 (9223372036854775807 : Int64)) - q3) q4)) := f149.other W156 (Or.inr (slot_ne (Or.inr (hw _ (List.mem_of_getElem? (i := 62) rfl))) (Or.inr (hw _ (List.mem_of_getElem? (i := 66) rfl))) (by decide) (t := .long) (t' := .long) (by decide) (by decide)))
      have f165 : Fld Z h156 a1 "weirstream/engine/WindowGeometry" "lowestValue" "J" (.long ((F8 (F7 ((F4 (F3 (-9223372036854775808 : Int64)) q4) + ((0 : Int32)).toInt64) (q3 / q4)) ((-9223372036854775808 : Int64) + (q3 / q4))) * q4)) := f150.other W156 (Or.inr (slot_ne (Or.inr (hw _ (List.mem_of_getElem? (i := 64) rfl))) (Or.inr (hw _ (List.mem_of_getElem? (i := 66) rfl))) (by decide) (t := .long) (t' := .long) (by decide) (by decide)))
      have f166 : Fld Z h156 a1 "weirstream/engine/WindowGeometry" "highestValue" "J" (.long (((F4 ((F9 (9223372036854775807 : Int64)) - q3) q4) * q4) + (q4 - (1 : Int64)))) := f151.same W156
      have f167 : Exa Z h156 a2 "weirstream/engine/WindowAxis$1" := f152.wr W156
      have f168 : Fld Z h156 a2 "weirstream/engine/WindowAxis" "lowest" "J" (.long (-9223372036854775808 : Int64)) := f153.other W156 (Or.inl (Ne.symm (ne_exa E1 Ea (by decide))))
      have f169 : Fld Z h156 a2 "weirstream/engine/WindowAxis" "highest" "J" (.long (9223372036854775807 : Int64)) := f154.other W156 (Or.inl (Ne.symm (ne_exa E1 Ea (by decide))))
      have Z156 : n0 ≤ h156.size := Nat.le_trans Z141 (Keep.of_wr W156).1
      have N156 := Fr.snoc X156 N141 g1
      have K156 : Keep h0 h156 [a1] := K141.wr W156 (Or.inl (by simp))
      refine Done.step st156 ?_
      show Done p e below s _ _ _ (T156.setTop (mkF m 147 #[.val (.ref a1), .val (.ref a2), .val (.long q3), .second, .val (.long q4), .second, .val (.long (F3 (-9223372036854775808 : Int64))), .second, .val (.long ((F4 (F3 (-9223372036854775808 : Int64)) q4) + ((0 : Int32)).toInt64)), .second] []))
      refine Done.step (fun t k => XS.goto X156.here hx rfl (pc0 := 147) (pc' := 164) rfl (hb hby d1_147) (by decide) (by decide) k) ?_
      show Done p e below s _ _ _ (T156.setTop (mkF m 164 #[.val (.ref a1), .val (.ref a2), .val (.long q3), .second, .val (.long q4), .second, .val (.long (F3 (-9223372036854775808 : Int64))), .second, .val (.long ((F4 (F3 (-9223372036854775808 : Int64)) q4) + ((0 : Int32)).toInt64)), .second] []))
      exact Done.void X156 hx hlk hret (hb hby d1_164) (by decide) (by decide) ⟨rfl, N156, (by rw [e156]; exact ⟨K156, f157, f161⟩)⟩
  · refine Done.step (fun t k => XS.ifYes X74.here hx rfl (pc0 := 61) (pc' := 68) rfl (hb hby d1_61) rfl ((if0 _ _).trans (feq (fun q_ => c75 ((lw_eq _ _).mp q_))).2) (by decide) (by decide) k) ?_
    show Done p e below s _ _ _ (T74.setTop (mkF m 68 #[.val (.ref a1), .val (.ref a2), .val (.long q3), .second, .val (.long q4), .second, .val (.long (F3 (-9223372036854775808 : Int64))), .second, .unset, .unset] [(.long (F4 (F3 (-9223372036854775808 : Int64)) q4))]))
    refine Done.step (fun t k => XS.iconst X74.here hx rfl (hb hby d1_68) k) ?_
    show Done p e below s _ _ _ (T74.setTop (mkF m 69 #[.val (.ref a1), .val (.ref a2), .val (.long q3), .second, .val (.long q4), .second, .val (.long (F3 (-9223372036854775808 : Int64))), .second, .unset, .unset] [(.int (1 : Int32)), (.long (F4 (F3 (-9223372036854775808 : Int64)) q4))]))
    refine Done.step (fun t k => XS.i2l X74.here hx rfl (hb hby d1_69) rfl k) ?_
    show Done p e below s _ _ _ (T74.setTop (mkF m 70 #[.val (.ref a1), .val (.ref a2), .val (.long q3), .second, .val (.long q4), .second, .val (.long (F3 (-9223372036854775808 : Int64))), .second, .unset, .unset] [(.long ((1 : Int32)).toInt64), (.long (F4 (F3 (-9223372036854775808 : Int64)) q4))]))
    refine Done.step (fun t k => XS.ladd X74.here hx rfl (hb hby d1_70) rfl k) ?_
    show Done p e below s _ _ _ (T74.setTop (mkF m 71 #[.val (.ref a1), .val (.ref a2), .val (.long q3), .second, .val (.long q4), .second, .val (.long (F3 (-9223372036854775808 : Int64))), .second, .unset, .unset] [(.long ((F4 (F3 (-9223372036854775808 : Int64)) q4) + ((1 : Int32)).toInt64))]))
    refine Done.step (fun t k => XS.lstore X74.here hx rfl (hb hby d1_71) rfl (l' := #[.val (.ref a1), .val (.ref a2), .val (.long q3), .second, .val (.long q4), .second, .val (.long (F3 (-9223372036854775808 : Int64))), .second, .val (.long ((F4 (F3 (-9223372036854775808 : Int64)) q4) + ((1 : Int32)).toInt64)), .second]) rfl k) ?_
    show Done p e below s _ _ _ (T74.setTop (mkF m 73 #[.val (.ref a1), .val (.ref a2), .val (.long q3), .second, .val (.long q4), .second, .val (.long (F3 (-9223372036854775808 : Int64))), .second, .val (.long ((F4 (F3 (-9223372036854775808 : Int64)) q4) + ((1 : Int32)).toInt64)), .second] []))
    refine Done.step (fun t k => XS.aloadN X74.here hx rfl (hb hby d1_73) rfl rfl k) ?_
    show Done p e below s _ _ _ (T74.setTop (mkF m 74 #[.val (.ref a1), .val (.ref a2), .val (.long q3), .second, .val (.long q4), .second, .val (.long (F3 (-9223372036854775808 : Int64))), .second, .val (.long ((F4 (F3 (-9223372036854775808 : Int64)) q4) + ((1 : Int32)).toInt64)), .second] [(.ref a1)]))
    refine Done.step (fun t k => XS.aloadN X74.here hx rfl (hb hby d1_74) rfl rfl k) ?_
    show Done p e below s _ _ _ (T74.setTop (mkF m 75 #[.val (.ref a1), .val (.ref a2), .val (.long q3), .second, .val (.long q4), .second, .val (.long (F3 (-9223372036854775808 : Int64))), .second, .val (.long ((F4 (F3 (-9223372036854775808 : Int64)) q4) + ((1 : Int32)).toInt64)), .second] [(.ref a1), (.ref a1)]))
    refine Done.step (fun t k => XS.lload X74.here hx rfl (hb hby d1_75) rfl k) ?_
    show Done p e below s _ _ _ (T74.setTop (mkF m 77 #[.val (.ref a1), .val (.ref a2), .val (.long q3), .second, .val (.long q4), .second, .val (.long (F3 (-9223372036854775808 : Int64))), .second, .val (.long ((F4 (F3 (-9223372036854775808 : Int64)) q4) + ((1 : Int32)).toInt64)), .second] [(.long ((F4 (F3 (-9223372036854775808 : Int64)) q4) + ((1 : Int32)).toInt64)), (.ref a1), (.ref a1)]))
    obtain ⟨cq170, kq170, q170a, q170b, q170c⟩ := isOf hZ e74 f59
    obtain ⟨v170, _, ⟨T170, L170, k170, n170⟩, -, X170, ⟨Lc170, hQ170, l170, y170, z170⟩, st170⟩ := X74.virtualBack hx (y := (⟨"weirstream/engine/WindowGeometry", "lastPane", "(J)J"⟩ : MethodName)) (z := (⟨"weirstream/engine/WindowGeometry", "lastPane", "(J)J"⟩ : MethodName)) hown (mvT hZ (hw _ (List.mem_of_getElem? (i := 43) rfl))) (mvT hZ (hw _ (List.mem_of_getElem? (i := 44) rfl))) (notFace_of_selects (args := #[]) (mvT hZ (hw _ (List.mem_of_getElem? (i := 46) rfl)))) (mvT hZ (hw _ (List.mem_of_getElem? (i := 46) rfl))) (mvT hZ (hw _ (List.mem_of_getElem? (i := 45) rfl))) (by decide) (backOf (W := 1) (rm7 l Z a0 hw [] a1 ((F4 (F3 (-9223372036854775808 : Int64)) q4) + ((1 : Int32)).toInt64) (q3 / q4) h58 n0 Z58 f63) hZ (hw _ (List.mem_of_getElem? (i := 47) rfl)) (hw _ (List.mem_of_getElem? (i := 3) rfl)) (by decide) (by decide)) q170a q170c (g := (mkF m 77 #[.val (.ref a1), .val (.ref a2), .val (.long q3), .second, .val (.long q4), .second, .val (.long (F3 (-9223372036854775808 : Int64))), .second, .val (.long ((F4 (F3 (-9223372036854775808 : Int64)) q4) + ((1 : Int32)).toInt64)), .second] [(.long ((F4 (F3 (-9223372036854775808 : Int64)) q4) + ((1 : Int32)).toInt64)), (.ref a1), (.ref a1)])) rfl (by rw [hml]; rfl) (Steps.refl _) (argsL := [(.long ((F4 (F3 (-9223372036854775808 : Int64)) q4) + ((1 : Int32)).toInt64))]) (rest := [(.ref a1)]) (lenOf pd_2 rfl) rfl (by show 2 * 0 + _ ≤ _; exact Nat.le_of_eq rfl) (hb hby d1_77) (fun _ _ => ⟨rfl, e74, (by decide : 0 + 0 ≤ _), (by decide : 0 + 0 ≤ _)⟩)
    dsimp only [Pt.U, Pt.locs, Pt.cells, Pt.slots] at X170 l170 y170 z170 st170 hQ170
    subst l170 y170 z170
    refine Done.far st170 ?_
    obtain ⟨rfl, N170q, e170⟩ := hQ170
    have N170 := Fr.app N74 N170q
    show Done p e below s _ _ _ (T170.setTop (mkF m 80 #[.val (.ref a1), .val (.ref a2), .val (.long q3), .second, .val (.long q4), .second, .val (.long (F3 (-9223372036854775808 : Int64))), .second, .val (.long ((F4 (F3 (-9223372036854775808 : Int64)) q4) + ((1 : Int32)).toInt64)), .second] [(.long (F7 ((F4 (F3 (-9223372036854775808 : Int64)) q4) + ((1 : Int32)).toInt64) (q3 / q4))), (.ref a1)]))
    refine Done.step (X170.ldc2Long hx hown (mvT hZ (hw _ (List.mem_of_getElem? (i := 48) rfl))) (g := (mkF m 80 #[.val (.ref a1), .val (.ref a2), .val (.long q3), .second, .val (.long q4), .second, .val (.long (F3 (-9223372036854775808 : Int64))), .second, .val (.long ((F4 (F3 (-9223372036854775808 : Int64)) q4) + ((1 : Int32)).toInt64)), .second] [(.long (F7 ((F4 (F3 (-9223372036854775808 : Int64)) q4) + ((1 : Int32)).toInt64) (q3 / q4))), (.ref a1)])) rfl (hb hby d1_80)) ?_
    show Done p e below s _ _ _ (T170.setTop (mkF m 83 #[.val (.ref a1), .val (.ref a2), .val (.long q3), .second, .val (.long q4), .second, .val (.long (F3 (-9223372036854775808 : Int64))), .second, .val (.long ((F4 (F3 (-9223372036854775808 : Int64)) q4) + ((1 : Int32)).toInt64)), .second] [(.long (-9223372036854775808 : Int64)), (.long (F7 ((F4 (F3 (-9223372036854775808 : Int64)) q4) + ((1 : Int32)).toInt64) (q3 / q4))), (.ref a1)]))
    refine Done.step (fun t k => XS.aloadN X170.here hx rfl (hb hby d1_83) rfl rfl k) ?_
    show Done p e below s _ _ _ (T170.setTop (mkF m 84 #[.val (.ref a1), .val (.ref a2), .val (.long q3), .second, .val (.long q4), .second, .val (.long (F3 (-9223372036854775808 : Int64))), .second, .val (.long ((F4 (F3 (-9223372036854775808 : Int64)) q4) + ((1 : Int32)).toInt64)), .second] [(.ref a1), (.long (-9223372036854775808 : Int64)), (.long (F7 ((F4 (F3 (-9223372036854775808 : Int64)) q4) + ((1 : Int32)).toInt64) (q3 / q4))), (.ref a1)]))
    obtain ⟨T171, X171, e171, st171⟩ := getF X170 hx hZ hown (host := "") (Or.inl (hw _ (List.mem_of_getElem? (i := 19) rfl))) Via.refl e170 f63 (g := (mkF m 84 #[.val (.ref a1), .val (.ref a2), .val (.long q3), .second, .val (.long q4), .second, .val (.long (F3 (-9223372036854775808 : Int64))), .second, .val (.long ((F4 (F3 (-9223372036854775808 : Int64)) q4) + ((1 : Int32)).toInt64)), .second] [(.ref a1), (.long (-9223372036854775808 : Int64)), (.long (F7 ((F4 (F3 (-9223372036854775808 : Int64)) q4) + ((1 : Int32)).toInt64) (q3 / q4))), (.ref a1)])) rfl rfl (hb hby d1_84)
    refine Done.step st171 ?_
    show Done p e below s _ _ _ (T171.setTop (mkF m 87 #[.val (.ref a1), .val (.ref a2), .val (.long q3), .second, .val (.long q4), .second, .val (.long (F3 (-9223372036854775808 : Int64))), .second, .val (.long ((F4 (F3 (-9223372036854775808 : Int64)) q4) + ((1 : Int32)).toInt64)), .second] [(.long (q3 / q4)), (.long (-9223372036854775808 : Int64)), (.long (F7 ((F4 (F3 (-9223372036854775808 : Int64)) q4) + ((1 : Int32)).toInt64) (q3 / q4))), (.ref a1)]))
    refine Done.step (fun t k => XS.ladd X171.here hx rfl (hb hby d1_87) rfl k) ?_
    show Done p e below s _ _ _ (T171.setTop (mkF m 88 #[.val (.ref a1), .val (.ref a2), .val (.long q3), .second, .val (.long q4), .second, .val (.long (F3 (-9223372036854775808 : Int64))), .second, .val (.long ((F4 (F3 (-9223372036854775808 : Int64)) q4) + ((1 : Int32)).toInt64)), .second] [(.long ((-9223372036854775808 : Int64) + (q3 / q4))), (.long (F7 ((F4 (F3 (-9223372036854775808 : Int64)) q4) + ((1 : Int32)).toInt64) (q3 / q4))), (.ref a1)]))
    obtain ⟨v172, _, ⟨T172, L172, k172, n172⟩, -, X172, ⟨Lc172, hQ172, l172, y172, z172⟩, st172⟩ := Jvm.LawKit.callS X171 hx (y := (⟨"java/lang/Math", "max", "(JJ)J"⟩ : MethodName)) hown (mvT hZ (hw _ (List.mem_of_getElem? (i := 49) rfl))) (mvT hZ (hw _ (List.mem_of_getElem? (i := 50) rfl))) (mvT hZ (hw _ (List.mem_of_getElem? (i := 38) rfl))) (mvT hZ (hw _ (List.mem_of_getElem? (i := 51) rfl))) (by decide) (backOf (W := 1) (rm8 l Z a0 hw [] (F7 ((F4 (F3 (-9223372036854775808 : Int64)) q4) + ((1 : Int32)).toInt64) (q3 / q4)) ((-9223372036854775808 : Int64) + (q3 / q4)) h58 n0 Z58 ) hZ (hw _ (List.mem_of_getElem? (i := 51) rfl)) (hw _ (List.mem_of_getElem? (i := 38) rfl)) (by decide) (by decide)) (g := (mkF m 88 #[.val (.ref a1), .val (.ref a2), .val (.long q3), .second, .val (.long q4), .second, .val (.long (F3 (-9223372036854775808 : Int64))), .second, .val (.long ((F4 (F3 (-9223372036854775808 : Int64)) q4) + ((1 : Int32)).toInt64)), .second] [(.long ((-9223372036854775808 : Int64) + (q3 / q4))), (.long (F7 ((F4 (F3 (-9223372036854775808 : Int64)) q4) + ((1 : Int32)).toInt64) (q3 / q4))), (.ref a1)])) rfl (by rw [hml]; rfl) (argsL := [(.long (F7 ((F4 (F3 (-9223372036854775808 : Int64)) q4) + ((1 : Int32)).toInt64) (q3 / q4))), (.long ((-9223372036854775808 : Int64) + (q3 / q4)))]) (rest := [(.ref a1)]) (lenOf pd_0 rfl) rfl (by show 2 * 0 + _ ≤ _; exact Nat.le_of_eq rfl) (hb hby d1_88) (fun _ _ => ⟨rfl, e171, (by decide : 0 + 0 ≤ _), (by decide : 0 + 0 ≤ _)⟩)
    dsimp only [Pt.U, Pt.locs, Pt.cells, Pt.slots] at X172 l172 y172 z172 st172 hQ172
    subst l172 y172 z172
    refine Done.step st172 ?_
    obtain ⟨rfl, N172q, e172⟩ := hQ172
    have N172 := Fr.app N170 N172q
    show Done p e below s _ _ _ (T172.setTop (mkF m 91 #[.val (.ref a1), .val (.ref a2), .val (.long q3), .second, .val (.long q4), .second, .val (.long (F3 (-9223372036854775808 : Int64))), .second, .val (.long ((F4 (F3 (-9223372036854775808 : Int64)) q4) + ((1 : Int32)).toInt64)), .second] [(.long (F8 (F7 ((F4 (F3 (-9223372036854775808 : Int64)) q4) + ((1 : Int32)).toInt64) (q3 / q4)) ((-9223372036854775808 : Int64) + (q3 / q4)))), (.ref a1)]))
    obtain ⟨T173, h173, X173, e173, W173, st173⟩ := putF X172 hx hZ hown (host := "") (Or.inl (hw _ (List.mem_of_getElem? (i := 52) rfl))) Via.refl e172 f65 f59 (Or.inr ⟨(hw _ (List.mem_of_getElem? (i := 53) rfl)), rfl, hnm⟩) (hw _ (List.mem_of_getElem? (i := 2) rfl)) (ty := .long) (by decide) rfl rfl (g := (mkF m 91 #[.val (.ref a1), .val (.ref a2), .val (.long q3), .second, .val (.long q4), .second, .val (.long (F3 (-9223372036854775808 : Int64))), .second, .val (.long ((F4 (F3 (-9223372036854775808 : Int64)) q4) + ((1 : Int32)).toInt64)), .second] [(.long (F8 (F7 ((F4 (F3 (-9223372036854775808 : Int64)) q4) + ((1 : Int32)).toInt64) (q3 / q4)) ((-9223372036854775808 : Int64) + (q3 / q4)))), (.ref a1)])) rfl rfl (hb hby d1_91)
    have f174 : Exa Z h173 a1 "weirstream/engine/WindowGeometry" := f59.wr W173
    have f175 : Fld Z h173 a1 "weirstream/engine/WindowGeometry" "axis" "Lweirstream/engine/WindowAxis;" (.ref a2) := f60.other W173 (Or.inr (slot_ne (Or.inr (hw _ (List.mem_of_getElem? (i := 14) rfl))) (Or.inr (hw _ (List.mem_of_getElem? (i := 53) rfl))) (by decide) (t := (.object "weirstream/engine/WindowAxis")) (t' := .long) (by decide) (by decide)))
    have f176 : Fld Z h173 a1 "weirstream/engine/WindowGeometry" "range" "J" (.long q3) := f61.other W173 (Or.inr (slot_ne (Or.inr (hw _ (List.mem_of_getElem? (i := 16) rfl))) (Or.inr (hw _ (List.mem_of_getElem? (i := 53) rfl))) (by decide) (t := .long) (t' := .long) (by decide) (by decide)))
    have f177 : Fld Z h173 a1 "weirstream/engine/WindowGeometry" "slide" "J" (.long q4) := f62.other W173 (Or.inr (slot_ne (Or.inr (hw _ (List.mem_of_getElem? (i := 18) rfl))) (Or.inr (hw _ (List.mem_of_getElem? (i := 53) rfl))) (by decide) (t := .long) (t' := .long) (by decide) (by decide)))
    have f178 : Fld Z h173 a1 "weirstream/engine/WindowGeometry" "panesPerWindow" "J" (.long (q3 / q4)) := f63.other W173 (Or.inr (slot_ne (Or.inr (hw _ (List.mem_of_getElem? (i := 20) rfl))) (Or.inr (hw _ (List.mem_of_getElem? (i := 53) rfl))) (by decide) (t := .long) (t' := .long) (by decide) (by decide)))
    have f179 : Fld Z h173 a1 "weirstream/engine/WindowGeometry" "highestEnding" "J" (.long (((9223372036854775807 : Int64) / q4) - (1 : Int64))) := f64.other W173 (Or.inr (slot_ne (Or.inr (hw _ (List.mem_of_getElem? (i := 23) rfl))) (Or.inr (hw _ (List.mem_of_getElem? (i := 53) rfl))) (by decide) (t := .long) (t' := .long) (by decide) (by decide)))
    have f180 : Fld Z h173 a1 "weirstream/engine/WindowGeometry" "lowestPane" "J" (.long (F8 (F7 ((F4 (F3 (-9223372036854775808 : Int64)) q4) + ((1 : Int32)).toInt64) (q3 / q4)) ((-9223372036854775808 : Int64) + (q3 / q4)))) := f65.same W173
    have f181 : Fld Z h173 a1 "weirstream/engine/WindowGeometry" "highestPane" "J" (.long (0 : Int64)) := f66.other W173 (Or.inr (slot_ne (Or.inr (hw _ (List.mem_of_getElem? (i := 62) rfl))) (Or.inr (hw _ (List.mem_of_getElem? (i := 53) rfl))) (by decide) (t := .long) (t' := .long) (by decide) (by decide)))
    have f182 : Fld Z h173 a1 "weirstream/engine/WindowGeometry" "lowestValue" "J" (.long (0 : Int64)) := f67.other W173 (Or.inr (slot_ne (Or.inr (hw _ (List.mem_of_getElem? (i := 64) rfl))) (Or.inr (hw _ (List.mem_of_getElem? (i := 53) rfl))) (by decide) (t := .long) (t' := .long) (by decide) (by decide)))
    have f183 : Fld Z h173 a1 "weirstream/engine/WindowGeometry" "highestValue" "J" (.long (0 : Int64)) := f68.other W173 (Or.inr (slot_ne (Or.inr (hw _ (List.mem_of_getElem? (i := 66) rfl))) (Or.inr (hw _ (List.mem_of_getElem? (i := 53) rfl))) (by decide) (t := .long) (t' := .long) (by decide) (by decide)))
    have f184 : Exa Z h173 a2 "weirstream/engine/WindowAxis$1" := f69.wr W173
    have f185 : Fld Z h173 a2 "weirstream/engine/WindowAxis" "lowest" "J" (.long (-9223372036854775808 : Int64)) := f70.other W173 (Or.inl (Ne.symm (ne_exa E1 Ea (by decide))))
    have f186 : Fld Z h173 a2 "weirstream/engine/WindowAxis" "highest" "J" (.long (9223372036854775807 : Int64)) := f71.other W173 (Or.inl (Ne.symm (ne_exa E1 Ea (by decide))))
    have Z173 : n0 ≤ h173.size := Nat.le_trans Z58 (Keep.of_wr W173).1
    have N173 := Fr.snoc X173 N172 g1
    have K173 : Keep h0 h173 [a1] := K58.wr W173 (Or.inl (by simp))
    refine Done.step st173 ?_
    show Done p e below s _ _ _ (T173.setTop (mkF m 94 #[.val (.ref a1), .val (.ref a2), .val (.long q3), .second, .val (.long q4), .second, .val (.long (F3 (-9223372036854775808 : Int64))), .second, .val (.long ((F4 (F3 (-9223372036854775808 : Int64)) q4) + ((1 : Int32)).toInt64)), .second] []))
    refine Done.step (fun t k => XS.aloadN X173.here hx rfl (hb hby d1_94) rfl rfl k) ?_
    show Done p e below s _ _ _ (T173.setTop (mkF m 95 #[.val (.ref a1), .val (.ref a2), .val (.long q3), .second, .val (.long q4), .second, .val (.long (F3 (-9223372036854775808 : Int64))), .second, .val (.long ((F4 (F3 (-9223372036854775808 : Int64)) q4) + ((1 : Int32)).toInt64)), .second] [(.ref a1)]))
    refine Done.step (fun t k => XS.aloadN X173.here hx rfl (hb hby d1_95) rfl rfl k) ?_
    show Done p e below s _ _ _ (T173.setTop (mkF m 96 #[.val (.ref a1), .val (.ref a2), .val (.long q3), .second, .val (.long q4), .second, .val (.long (F3 (-9223372036854775808 : Int64))), .second, .val (.long ((F4 (F3 (-9223372036854775808 : Int64)) q4) + ((1 : Int32)).toInt64)), .second] [(.ref a1), (.ref a1)]))
    refine Done.step (fun t k => XS.aloadN X173.here hx rfl (hb hby d1_96) rfl rfl k) ?_
    show Done p e below s _ _ _ (T173.setTop (mkF m 97 #[.val (.ref a1), .val (.ref a2), .val (.long q3), .second, .val (.long q4), .second, .val (.long (F3 (-9223372036854775808 : Int64))), .second, .val (.long ((F4 (F3 (-9223372036854775808 : Int64)) q4) + ((1 : Int32)).toInt64)), .second] [(.ref a2), (.ref a1), (.ref a1)]))
    obtain ⟨cq187, kq187, q187a, q187b, q187c⟩ := isOf hZ e173 f184
    obtain ⟨v187, _, ⟨T187, L187, k187, n187⟩, -, X187, ⟨Lc187, hQ187, l187, y187, z187⟩, st187⟩ := X173.virtualBack hx (y := (⟨"weirstream/engine/WindowAxis", "highest", "()J"⟩ : MethodName)) (z := (⟨"weirstream/engine/WindowAxis", "highest", "()J"⟩ : MethodName)) hown (mvT hZ (hw _ (List.mem_of_getElem? (i := 54) rfl))) (mvT hZ (hw _ (List.mem_of_getElem? (i := 55) rfl))) (notFace_of_selects (args := #[]) (mvT hZ (hw _ (List.mem_of_getElem? (i := 57) rfl)))) (mvT hZ (hw _ (List.mem_of_getElem? (i := 57) rfl))) (mvT hZ (hw _ (List.mem_of_getElem? (i := 56) rfl))) (by decide) (backOf (W := 2) (rm9 l Z a0 hw [] a2 (9223372036854775807 : Int64) h173 n0 Z173 f186) hZ (hw _ (List.mem_of_getElem? (i := 58) rfl)) (hw _ (List.mem_of_getElem? (i := 5) rfl)) (by decide) (by decide)) q187a q187c (g := (mkF m 97 #[.val (.ref a1), .val (.ref a2), .val (.long q3), .second, .val (.long q4), .second, .val (.long (F3 (-9223372036854775808 : Int64))), .second, .val (.long ((F4 (F3 (-9223372036854775808 : Int64)) q4) + ((1 : Int32)).toInt64)), .second] [(.ref a2), (.ref a1), (.ref a1)])) rfl (by rw [hml]; rfl) (Steps.refl _) (argsL := []) (rest := [(.ref a1), (.ref a1)]) (lenOf pd_1 rfl) rfl (by show 2 * 0 + _ ≤ _; exact Nat.le_of_eq rfl) (hb hby d1_97) (fun _ _ => ⟨rfl, e173, (by decide : 0 + 0 ≤ _), (by decide : 0 + 0 ≤ _)⟩)
    dsimp only [Pt.U, Pt.locs, Pt.cells, Pt.slots] at X187 l187 y187 z187 st187 hQ187
    subst l187 y187 z187
    refine Done.far st187 ?_
    obtain ⟨rfl, N187q, e187⟩ := hQ187
    have N187 := Fr.app N173 N187q
    show Done p e below s _ _ _ (T187.setTop (mkF m 100 #[.val (.ref a1), .val (.ref a2), .val (.long q3), .second, .val (.long q4), .second, .val (.long (F3 (-9223372036854775808 : Int64))), .second, .val (.long ((F4 (F3 (-9223372036854775808 : Int64)) q4) + ((1 : Int32)).toInt64)), .second] [(.long (F9 (9223372036854775807 : Int64))), (.ref a1), (.ref a1)]))
    refine Done.step (fun t k => XS.lloadN X187.here hx rfl (hb hby d1_100) rfl k) ?_
    show Done p e below s _ _ _ (T187.setTop (mkF m 101 #[.val (.ref a1), .val (.ref a2), .val (.long q3), .second, .val (.long q4), .second, .val (.long (F3 (-9223372036854775808 : Int64))), .second, .val (.long ((F4 (F3 (-9223372036854775808 : Int64)) q4) + ((1 : Int32)).toInt64)), .second] [(.long q3), (.long (F9 (9223372036854775807 : Int64))), (.ref a1), (.ref a1)]))
    refine Done.step (fun t k => XS.lsub X187.here hx rfl (hb hby d1_101) rfl k) ?_
    show Done p e below s _ _ _ (T187.setTop (mkF m 102 #[.val (.ref a1), .val (.ref a2), .val (.long q3), .second, .val (.long q4), .second, .val (.long (F3 (-9223372036854775808 : Int64))), .second, .val (.long ((F4 (F3 (-9223372036854775808 : Int64)) q4) + ((1 : Int32)).toInt64)), .second] [(.long ((F9 (9223372036854775807 : Int64)) - q3)), (.ref a1), (.ref a1)]))
    obtain ⟨cq188, kq188, q188a, q188b, q188c⟩ := isOf hZ e187 f174
    obtain ⟨v188, _, ⟨T188, L188, k188, n188⟩, -, X188, ⟨Lc188, hQ188, l188, y188, z188⟩, st188⟩ := X187.virtualBack hx (y := (⟨"weirstream/engine/WindowGeometry", "pane", "(J)J"⟩ : MethodName)) (z := (⟨"weirstream/engine/WindowGeometry", "pane", "(J)J"⟩ : MethodName)) hown (mvT hZ (hw _ (List.mem_of_getElem? (i := 31) rfl))) (mvT hZ (hw _ (List.mem_of_getElem? (i := 32) rfl))) (notFace_of_selects (args := #[]) (mvT hZ (hw _ (List.mem_of_getElem? (i := 34) rfl)))) (mvT hZ (hw _ (List.mem_of_getElem? (i := 34) rfl))) (mvT hZ (hw _ (List.mem_of_getElem? (i := 33) rfl))) (by decide) (backOf (W := 1) (rm4 l Z a0 hw [] a1 ((F9 (9223372036854775807 : Int64)) - q3) q4 h173 n0 Z173 f177 hnz) hZ (hw _ (List.mem_of_getElem? (i := 35) rfl)) (hw _ (List.mem_of_getElem? (i := 3) rfl)) (by decide) (by decide)) q188a q188c (g := (mkF m 102 #[.val (.ref a1), .val (.ref a2), .val (.long q3), .second, .val (.long q4), .second, .val (.long (F3 (-9223372036854775808 : Int64))), .second, .val (.long ((F4 (F3 (-9223372036854775808 : Int64)) q4) + ((1 : Int32)).toInt64)), .second] [(.long ((F9 (9223372036854775807 : Int64)) - q3)), (.ref a1), (.ref a1)])) rfl (by rw [hml]; rfl) (Steps.refl _) (argsL := [(.long ((F9 (9223372036854775807 : Int64)) - q3))]) (rest := [(.ref a1)]) (lenOf pd_2 rfl) rfl (by show 2 * 0 + _ ≤ _; exact Nat.le_of_eq rfl) (hb hby d1_102) (fun _ _ => ⟨rfl, e187, (by decide : 0 + 0 ≤ _), (by decide : 0 + 0 ≤ _)⟩)
    dsimp only [Pt.U, Pt.locs, Pt.cells, Pt.slots] at X188 l188 y188 z188 st188 hQ188
    subst l188 y188 z188
    refine Done.far st188 ?_
    obtain ⟨rfl, N188q, e188⟩ := hQ188
    have N188 := Fr.app N187 N188q
    show Done p e below s _ _ _ (T188.setTop (mkF m 105 #[.val (.ref a1), .val (.ref a2), .val (.long q3), .second, .val (.long q4), .second, .val (.long (F3 (-9223372036854775808 : Int64))), .second, .val (.long ((F4 (F3 (-9223372036854775808 : Int64)) q4) + ((1 : Int32)).toInt64)), .second] [(.long (F4 ((F9 (9223372036854775807 : Int64)) - q3) q4)), (.ref a1)]))
    obtain ⟨T189, h189, X189, e189, W189, st189⟩ := putF X188 hx hZ hown (host := "") (Or.inl (hw _ (List.mem_of_getElem? (i := 61) rfl))) Via.refl e188 f181 f174 (Or.inr ⟨(hw _ (List.mem_of_getElem? (i := 62) rfl)), rfl, hnm⟩) (hw _ (List.mem_of_getElem? (i := 2) rfl)) (ty := .long) (by decide) rfl rfl (g := (mkF m 105 #[.val (.ref a1), .val (.ref a2), .val (.long q3), .second, .val (.long q4), .second, .val (.long (F3 (-9223372036854775808 : Int64))), .second, .val (.long ((F4 (F3 (-9223372036854775808 : Int64)) q4) + ((1 : Int32)).toInt64)), .second] [(.long (F4 ((F9 (9223372036854775807 : Int64)) - q3) q4)), (.ref a1)])) rfl rfl (hb hby d1_105)
    have f190 : Exa Z h189 a1 "weirstream/engine/WindowGeometry" := f174.wr W189
    have f191 : Fld Z h189 a1 "weirstream/engine/WindowGeometry" "axis" "Lweirstream/engine/WindowAxis;" (.ref a2) := f175.other W189 (Or.inr (slot_ne (Or.inr (hw _ (List.mem_of_getElem? (i := 14) rfl))) (Or.inr (hw _ (List.mem_of_getElem? (i := 62) rfl))) (by decide) (t := (.object "weirstream/engine/WindowAxis")) (t' := .long) (by decide) (by decide)))
    have f192 : Fld Z h189 a1 "weirstream/engine/WindowGeometry" "range" "J" (.long q3) := f176.other W189 (Or.inr (slot_ne (Or.inr (hw _ (List.mem_of_getElem? (i := 16) rfl))) (Or.inr (hw _ (List.mem_of_getElem? (i := 62) rfl))) (by decide) (t := .long) (t' := .long) (by decide) (by decide)))
    have f193 : Fld Z h189 a1 "weirstream/engine/WindowGeometry" "slide" "J" (.long q4) := f177.other W189 (Or.inr (slot_ne (Or.inr (hw _ (List.mem_of_getElem? (i := 18) rfl))) (Or.inr (hw _ (List.mem_of_getElem? (i := 62) rfl))) (by decide) (t := .long) (t' := .long) (by decide) (by decide)))
    have f194 : Fld Z h189 a1 "weirstream/engine/WindowGeometry" "panesPerWindow" "J" (.long (q3 / q4)) := f178.other W189 (Or.inr (slot_ne (Or.inr (hw _ (List.mem_of_getElem? (i := 20) rfl))) (Or.inr (hw _ (List.mem_of_getElem? (i := 62) rfl))) (by decide) (t := .long) (t' := .long) (by decide) (by decide)))
    have f195 : Fld Z h189 a1 "weirstream/engine/WindowGeometry" "highestEnding" "J" (.long (((9223372036854775807 : Int64) / q4) - (1 : Int64))) := f179.other W189 (Or.inr (slot_ne (Or.inr (hw _ (List.mem_of_getElem? (i := 23) rfl))) (Or.inr (hw _ (List.mem_of_getElem? (i := 62) rfl))) (by decide) (t := .long) (t' := .long) (by decide) (by decide)))
    have f196 : Fld Z h189 a1 "weirstream/engine/WindowGeometry" "lowestPane" "J" (.long (F8 (F7 ((F4 (F3 (-9223372036854775808 : Int64)) q4) + ((1 : Int32)).toInt64) (q3 / q4)) ((-9223372036854775808 : Int64) + (q3 / q4)))) := f180.other W189 (Or.inr (slot_ne (Or.inr (hw _ (List.mem_of_getElem? (i := 53) rfl))) (Or.inr (hw _ (List.mem_of_getElem? (i := 62) rfl))) (by decide) (t := .long) (t' := .long) (by decide) (by decide)))
    have f197 : Fld Z h189 a1 "weirstream/engine/WindowGeometry" "highestPane" "J" (.long (F4 ((F9 (9223372036854775807 : Int64)) - q3) q4)) := f181.same W189
    have f198 : Fld Z h189 a1 "weirstream/engine/WindowGeometry" "lowestValue" "J" (.long (0 : Int64)) := f182.other W189 (Or.inr (slot_ne (Or.inr (hw _ (List.mem_of_getElem? (i := 64) rfl))) (Or.inr (hw _ (List.mem_of_getElem? (i := 62) rfl))) (by decide) (t := .long) (t' := .long) (by decide) (by decide)))
    have f199 : Fld Z h189 a1 "weirstream/engine/WindowGeometry" "highestValue" "J" (.long (0 : Int64)) := f183.other W189 (Or.inr (slot_ne (Or.inr (hw _ (List.mem_of_getElem? (i := 66) rfl))) (Or.inr (hw _ (List.mem_of_getElem? (i := 62) rfl))) (by decide) (t := .long) (t' := .long) (by decide) (by decide)))
    have f200 : Exa Z h189 a2 "weirstream/engine/WindowAxis$1" := f184.wr W189
    have f201 : Fld Z h189 a2 "weirstream/engine/WindowAxis" "lowest" "J" (.long (-9223372036854775808 : Int64)) := f185.other W189 (Or.inl (Ne.symm (ne_exa E1 Ea (by decide))))
    have f202 : Fld Z h189 a2 "weirstream/engine/WindowAxis" "highest" "J" (.long (9223372036854775807 : Int64)) := f186.other W189 (Or.inl (Ne.symm (ne_exa E1 Ea (by decide))))
    have Z189 : n0 ≤ h189.size := Nat.le_trans Z173 (Keep.of_wr W189).1
    have N189 := Fr.snoc X189 N188 g1
    have K189 : Keep h0 h189 [a1] := K173.wr W189 (Or.inl (by simp))
    refine Done.step st189 ?_
    show Done p e below s _ _ _ (T189.setTop (mkF m 108 #[.val (.ref a1), .val (.ref a2), .val (.long q3), .second, .val (.long q4), .second, .val (.long (F3 (-9223372036854775808 : Int64))), .second, .val (.long ((F4 (F3 (-9223372036854775808 : Int64)) q4) + ((1 : Int32)).toInt64)), .second] []))
    refine Done.step (fun t k => XS.aloadN X189.here hx rfl (hb hby d1_108) rfl rfl k) ?_
    show Done p e below s _ _ _ (T189.setTop (mkF m 109 #[.val (.ref a1), .val (.ref a2), .val (.long q3), .second, .val (.long q4), .second, .val (.long (F3 (-9223372036854775808 : Int64))), .second, .val (.long ((F4 (F3 (-9223372036854775808 : Int64)) q4) + ((1 : Int32)).toInt64)), .second] [(.ref a1)]))
    obtain ⟨T203, X203, e203, st203⟩ := getF X189 hx hZ hown (host := "") (Or.inl (hw _ (List.mem_of_getElem? (i := 52) rfl))) Via.refl e189 f196 (g := (mkF m 109 #[.val (.ref a1), .val (.ref a2), .val (.long q3), .second, .val (.long q4), .second, .val (.long (F3 (-9223372036854775808 : Int64))), .second, .val (.long ((F4 (F3 (-9223372036854775808 : Int64)) q4) + ((1 : Int32)).toInt64)), .second] [(.ref a1)])) rfl rfl (hb hby d1_109)
    refine Done.step st203 ?_
    show Done p e below s _ _ _ (T203.setTop (mkF m 112 #[.val (.ref a1), .val (.ref a2), .val (.long q3), .second, .val (.long q4), .second, .val (.long (F3 (-9223372036854775808 : Int64))), .second, .val (.long ((F4 (F3 (-9223372036854775808 : Int64)) q4) + ((1 : Int32)).toInt64)), .second] [(.long (F8 (F7 ((F4 (F3 (-9223372036854775808 : Int64)) q4) + ((1 : Int32)).toInt64) (q3 / q4)) ((-9223372036854775808 : Int64) + (q3 / q4))))]))
    refine Done.step (fun t k => XS.aloadN X203.here hx rfl (hb hby d1_112) rfl rfl k) ?_
    show Done p e below s _ _ _ (T203.setTop (mkF m 113 #[.val (.ref a1), .val (.ref a2), .val (.long q3), .second, .val (.long q4), .second, .val (.long (F3 (-9223372036854775808 : Int64))), .second, .val (.long ((F4 (F3 (-9223372036854775808 : Int64)) q4) + ((1 : Int32)).toInt64)), .second] [(.ref a1), (.long (F8 (F7 ((F4 (F3 (-9223372036854775808 : Int64)) q4) + ((1 : Int32)).toInt64) (q3 / q4)) ((-9223372036854775808 : Int64) + (q3 / q4))))]))
    obtain ⟨T204, X204, e204, st204⟩ := getF X203 hx hZ hown (host := "") (Or.inl (hw _ (List.mem_of_getElem? (i := 61) rfl))) Via.refl e203 f197 (g := (mkF m 113 #[.val (.ref a1), .val (.ref a2), .val (.long q3), .second, .val (.long q4), .second, .val (.long (F3 (-9223372036854775808 : Int64))), .second, .val (.long ((F4 (F3 (-9223372036854775808 : Int64)) q4) + ((1 : Int32)).toInt64)), .second] [(.ref a1), (.long (F8 (F7 ((F4 (F3 (-9223372036854775808 : Int64)) q4) + ((1 : Int32)).toInt64) (q3 / q4)) ((-9223372036854775808 : Int64) + (q3 / q4))))])) rfl rfl (hb hby d1_113)
    refine Done.step st204 ?_
    show Done p e below s _ _ _ (T204.setTop (mkF m 116 #[.val (.ref a1), .val (.ref a2), .val (.long q3), .second, .val (.long q4), .second, .val (.long (F3 (-9223372036854775808 : Int64))), .second, .val (.long ((F4 (F3 (-9223372036854775808 : Int64)) q4) + ((1 : Int32)).toInt64)), .second] [(.long (F4 ((F9 (9223372036854775807 : Int64)) - q3) q4)), (.long (F8 (F7 ((F4 (F3 (-9223372036854775808 : Int64)) q4) + ((1 : Int32)).toInt64) (q3 / q4)) ((-9223372036854775808 : Int64) + (q3 / q4))))]))
    refine Done.step (fun t k => XS.lcmp X204.here hx rfl (hb hby d1_116) rfl k) ?_
    show Done p e below s _ _ _ (T204.setTop (mkF m 117 #[.val (.ref a1), .val (.ref a2), .val (.long q3), .second, .val (.long q4), .second, .val (.long (F3 (-9223372036854775808 : Int64))), .second, .val (.long ((F4 (F3 (-9223372036854775808 : Int64)) q4) + ((1 : Int32)).toInt64)), .second] [(.int (lcmpW (F8 (F7 ((F4 (F3 (-9223372036854775808 : Int64)) q4) + ((1 : Int32)).toInt64) (q3 / q4)) ((-9223372036854775808 : Int64) + (q3 / q4))) (F4 ((F9 (9223372036854775807 : Int64)) - q3) q4)))]))
    by_cases c205 : (F4 ((F9 (9223372036854775807 : Int64)) - q3) q4) < (F8 (F7 ((F4 (F3 (-9223372036854775808 : Int64)) q4) + ((1 : Int32)).toInt64) (q3 / q4)) ((-9223372036854775808 : Int64) + (q3 / q4)))
    · refine Done.step (fun t k => XS.ifYes X204.here hx rfl (pc0 := 117) (pc' := 150) rfl (hb hby d1_117) rfl ((if0 _ _).trans (tlt ((lw_gt _ _).mpr c205)).2.2.1) (by decide) (by decide) k) ?_
      show Done p e below s _ _ _ (T204.setTop (mkF m 150 #[.val (.ref a1), .val (.ref a2), .val (.long q3), .second, .val (.long q4), .second, .val (.long (F3 (-9223372036854775808 : Int64))), .second, .val (.long ((F4 (F3 (-9223372036854775808 : Int64)) q4) + ((1 : Int32)).toInt64)), .second] []))
      refine Done.step (fun t k => XS.aloadN X204.here hx rfl (hb hby d1_150) rfl rfl k) ?_
      show Done p e below s _ _ _ (T204.setTop (mkF m 151 #[.val (.ref a1), .val (.ref a2), .val (.long q3), .second, .val (.long q4), .second, .val (.long (F3 (-9223372036854775808 : Int64))), .second, .val (.long ((F4 (F3 (-9223372036854775808 : Int64)) q4) + ((1 : Int32)).toInt64)), .second] [(.ref a1)]))
      refine Done.step (X204.ldc2Long hx hown (mvT hZ (hw _ (List.mem_of_getElem? (i := 21) rfl))) (g := (mkF m 151 #[.val (.ref a1), .val (.ref a2), .val (.long q3), .second, .val (.long q4), .second, .val (.long (F3 (-9223372036854775808 : Int64))), .second, .val (.long ((F4 (F3 (-9223372036854775808 : Int64)) q4) + ((1 : Int32)).toInt64)), .second] [(.ref a1)])) rfl (hb hby d1_151)) ?_
      show Done p e below s _ _ _ (T204.setTop (mkF m 154 #[.val (.ref a1), .val (.ref a2), .val (.long q3), .second, .val (.long q4), .second, .val (.long (F3 (-9223372036854775808 : Int64))), .second, .val (.long ((F4 (F3 (-9223372036854775808 : Int64)) q4) + ((1 : Int32)).toInt64)), .second] [(.long (9223372036854775807 : Int64)), (.ref a1)]))
      obtain ⟨T206, h206, X206, e206, W206, st206⟩ := putF X204 hx hZ hown (host := "") (Or.inl (hw _ (List.mem_of_getElem? (i := 63) rfl))) Via.refl e204 f198 f190 (Or.inr ⟨(hw _ (List.mem_of_getElem? (i := 64) rfl)), rfl, hnm⟩) (hw _ (List.mem_of_getElem? (i := 2) rfl)) (ty := .long) (by decide) rfl rfl (g := (mkF m 154 #[.val (.ref a1), .val (.ref a2), .val (.long q3), .second, .val (.long q4), .second, .val (.long (F3 (-9223372036854775808 : Int64))), .second, .val (.long ((F4 (F3 (-9223372036854775808 : Int64)) q4) + ((1 : Int32)).toInt64)), .second] [(.long (9223372036854775807 : Int64)), (.ref a1)])) rfl rfl (hb hby d1_154)
      have f207 : Exa Z h206 a1 "weirstream/engine/WindowGeometry" := f190.wr W206
      have f208 : Fld Z h206 a1 "weirstream/engine/WindowGeometry" "axis" "Lweirstream/engine/WindowAxis;" (.ref a2) := f191.other W206 (Or.inr (slot_ne (Or.inr (hw _ (List.mem_of_getElem? (i := 14) rfl))) (Or.inr (hw _ (List.mem_of_getElem? (i := 64) rfl))) (by decide) (t := (.object "weirstream/engine/WindowAxis")) (t' := .long) (by decide) (by decide)))
      have f209 : Fld Z h206 a1 "weirstream/engine/WindowGeometry" "range" "J" (.long q3) := f192.other W206 (Or.inr (slot_ne (Or.inr (hw _ (List.mem_of_getElem? (i := 16) rfl))) (Or.inr (hw _ (List.mem_of_getElem? (i := 64) rfl))) (by decide) (t := .long) (t' := .long) (by decide) (by decide)))
      have f210 : Fld Z h206 a1 "weirstream/engine/WindowGeometry" "slide" "J" (.long q4) := f193.other W206 (Or.inr (slot_ne (Or.inr (hw _ (List.mem_of_getElem? (i := 18) rfl))) (Or.inr (hw _ (List.mem_of_getElem? (i := 64) rfl))) (by decide) (t := .long) (t' := .long) (by decide) (by decide)))
      have f211 : Fld Z h206 a1 "weirstream/engine/WindowGeometry" "panesPerWindow" "J" (.long (q3 / q4)) := f194.other W206 (Or.inr (slot_ne (Or.inr (hw _ (List.mem_of_getElem? (i := 20) rfl))) (Or.inr (hw _ (List.mem_of_getElem? (i := 64) rfl))) (by decide) (t := .long) (t' := .long) (by decide) (by decide)))
      have f212 : Fld Z h206 a1 "weirstream/engine/WindowGeometry" "highestEnding" "J" (.long (((9223372036854775807 : Int64) / q4) - (1 : Int64))) := f195.other W206 (Or.inr (slot_ne (Or.inr (hw _ (List.mem_of_getElem? (i := 23) rfl))) (Or.inr (hw _ (List.mem_of_getElem? (i := 64) rfl))) (by decide) (t := .long) (t' := .long) (by decide) (by decide)))
      have f213 : Fld Z h206 a1 "weirstream/engine/WindowGeometry" "lowestPane" "J" (.long (F8 (F7 ((F4 (F3 (-9223372036854775808 : Int64)) q4) + ((1 : Int32)).toInt64) (q3 / q4)) ((-9223372036854775808 : Int64) + (q3 / q4)))) := f196.other W206 (Or.inr (slot_ne (Or.inr (hw _ (List.mem_of_getElem? (i := 53) rfl))) (Or.inr (hw _ (List.mem_of_getElem? (i := 64) rfl))) (by decide) (t := .long) (t' := .long) (by decide) (by decide)))
      have f214 : Fld Z h206 a1 "weirstream/engine/WindowGeometry" "highestPane" "J" (.long (F4 ((F9 (9223372036854775807 : Int64)) - q3) q4)) := f197.other W206 (Or.inr (slot_ne (Or.inr (hw _ (List.mem_of_getElem? (i := 62) rfl))) (Or.inr (hw _ (List.mem_of_getElem? (i := 64) rfl))) (by decide) (t := .long) (t' := .long) (by decide) (by decide)))
      have f215 : Fld Z h206 a1 "weirstream/engine/WindowGeometry" "lowestValue" "J" (.long (9223372036854775807 : Int64)) := f198.same W206
      have f216 : Fld Z h206 a1 "weirstream/engine/WindowGeometry" "highestValue" "J" (.long (0 : Int64)) := f199.other W206 (Or.inr (slot_ne (Or.inr (hw _ (List.mem_of_getElem? (i := 66) rfl))) (Or.inr (hw _ (List.mem_of_getElem? (i := 64) rfl))) (by decide) (t := .long) (t' := .long) (by decide) (by decide)))
      have f217 : Exa Z h206 a2 "weirstream/engine/WindowAxis$1" := f200.wr W206
      have f218 : Fld Z h206 a2 "weirstream/engine/WindowAxis" "lowest" "J" (.long (-9223372036854775808 : Int64)) := f201.other W206 (Or.inl (Ne.symm (ne_exa E1 Ea (by decide))))
      have f219 : Fld Z h206 a2 "weirstream/engine/WindowAxis" "highest" "J" (.long (9223372036854775807 : Int64)) := f202.other W206 (Or.inl (Ne.symm (ne_exa E1 Ea (by decide))))
      have Z206 : n0 ≤ h206.size := Nat.le_trans Z189 (Keep.of_wr W206).1
      have N206 := Fr.snoc X206 N189 g1
      have K206 : Keep h0 h206 [a1] := K189.wr W206 (Or.inl (by simp))
      refine Done.step st206 ?_
      show Done p e below s _ _ _ (T206.setTop (mkF m 157 #[.val (.ref a1), .val (.ref a2), .val (.long q3), .second, .val (.long q4), .second, .val (.long (F3 (-9223372036854775808 : Int64))), .second, .val (.long ((F4 (F3 (-9223372036854775808 : Int64)) q4) + ((1 : Int32)).toInt64)), .second] []))
      refine Done.step (fun t k => XS.aloadN X206.here hx rfl (hb hby d1_157) rfl rfl k) ?_
      show Done p e below s _ _ _ (T206.setTop (mkF m 158 #[.val (.ref a1), .val (.ref a2), .val (.long q3), .second, .val (.long q4), .second, .val (.long (F3 (-9223372036854775808 : Int64))), .second, .val (.long ((F4 (F3 (-9223372036854775808 : Int64)) q4) + ((1 : Int32)).toInt64)), .second] [(.ref a1)]))
      refine Done.step (X206.ldc2Long hx hown (mvT hZ (hw _ (List.mem_of_getElem? (i := 48) rfl))) (g := (mkF m 158 #[.val (.ref a1), .val (.ref a2), .val (.long q3), .second, .val (.long q4), .second, .val (.long (F3 (-9223372036854775808 : Int64))), .second, .val (.long ((F4 (F3 (-9223372036854775808 : Int64)) q4) + ((1 : Int32)).toInt64)), .second] [(.ref a1)])) rfl (hb hby d1_158)) ?_
      show Done p e below s _ _ _ (T206.setTop (mkF m 161 #[.val (.ref a1), .val (.ref a2), .val (.long q3), .second, .val (.long q4), .second, .val (.long (F3 (-9223372036854775808 : Int64))), .second, .val (.long ((F4 (F3 (-9223372036854775808 : Int64)) q4) + ((1 : Int32)).toInt64)), .second] [(.long (-9223372036854775808 : Int64)), (.ref a1)]))
      obtain ⟨T220, h220, X220, e220, W220, st220⟩ := putF X206 hx hZ hown (host := "") (Or.inl (hw _ (List.mem_of_getElem? (i := 65) rfl))) Via.refl e206 f216 f207 (Or.inr ⟨(hw _ (List.mem_of_getElem? (i := 66) rfl)), rfl, hnm⟩) (hw _ (List.mem_of_getElem? (i := 2) rfl)) (ty := .long) (by decide) rfl rfl (g := (mkF m 161 #[.val (.ref a1), .val (.ref a2), .val (.long q3), .second, .val (.long q4), .second, .val (.long (F3 (-9223372036854775808 : Int64))), .second, .val (.long ((F4 (F3 (-9223372036854775808 : Int64)) q4) + ((1 : Int32)).toInt64)), .second] [(.long (-9223372036854775808 : Int64)), (.ref a1)])) rfl rfl (hb hby d1_161)
      have f221 : Exa Z h220 a1 "weirstream/engine/WindowGeometry" := f207.wr W220
      have f222 : Fld Z h220 a1 "weirstream/engine/WindowGeometry" "axis" "Lweirstream/engine/WindowAxis;" (.ref a2) := f208.other W220 (Or.inr (slot_ne (Or.inr (hw _ (List.mem_of_getElem? (i := 14) rfl))) (Or.inr (hw _ (List.mem_of_getElem? (i := 66) rfl))) (by decide) (t := (.object "weirstream/engine/WindowAxis")) (t' := .long) (by decide) (by decide)))
      have f223 : Fld Z h220 a1 "weirstream/engine/WindowGeometry" "range" "J" (.long q3) := f209.other W220 (Or.inr (slot_ne (Or.inr (hw _ (List.mem_of_getElem? (i := 16) rfl))) (Or.inr (hw _ (List.mem_of_getElem? (i := 66) rfl))) (by decide) (t := .long) (t' := .long) (by decide) (by decide)))
      have f224 : Fld Z h220 a1 "weirstream/engine/WindowGeometry" "slide" "J" (.long q4) := f210.other W220 (Or.inr (slot_ne (Or.inr (hw _ (List.mem_of_getElem? (i := 18) rfl))) (Or.inr (hw _ (List.mem_of_getElem? (i := 66) rfl))) (by decide) (t := .long) (t' := .long) (by decide) (by decide)))
      have f225 : Fld Z h220 a1 "weirstream/engine/WindowGeometry" "panesPerWindow" "J" (.long (q3 / q4)) := f211.other W220 (Or.inr (slot_ne (Or.inr (hw _ (List.mem_of_getElem? (i := 20) rfl))) (Or.inr (hw _ (List.mem_of_getElem? (i := 66) rfl))) (by decide) (t := .long) (t' := .long) (by decide) (by decide)))
      have f226 : Fld Z h220 a1 "weirstream/engine/WindowGeometry" "highestEnding" "J" (.long (((9223372036854775807 : Int64) / q4) - (1 : Int64))) := f212.other W220 (Or.inr (slot_ne (Or.inr (hw _ (List.mem_of_getElem? (i := 23) rfl))) (Or.inr (hw _ (List.mem_of_getElem? (i := 66) rfl))) (by decide) (t := .long) (t' := .long) (by decide) (by decide)))
      have f227 : Fld Z h220 a1 "weirstream/engine/WindowGeometry" "lowestPane" "J" (.long (F8 (F7 ((F4 (F3 (-9223372036854775808 : Int64)) q4) + ((1 : Int32)).toInt64) (q3 / q4)) ((-9223372036854775808 : Int64) + (q3 / q4)))) := f213.other W220 (Or.inr (slot_ne (Or.inr (hw _ (List.mem_of_getElem? (i := 53) rfl))) (Or.inr (hw _ (List.mem_of_getElem? (i := 66) rfl))) (by decide) (t := .long) (t' := .long) (by decide) (by decide)))
      have f228 : Fld Z h220 a1 "weirstream/engine/WindowGeometry" "highestPane" "J" (.long (F4 ((F9 (9223372036854775807 : Int64)) - q3) q4)) := f214.other W220 (Or.inr (slot_ne (Or.inr (hw _ (List.mem_of_getElem? (i := 62) rfl))) (Or.inr (hw _ (List.mem_of_getElem? (i := 66) rfl))) (by decide) (t := .long) (t' := .long) (by decide) (by decide)))
      have f229 : Fld Z h220 a1 "weirstream/engine/WindowGeometry" "lowestValue" "J" (.long (9223372036854775807 : Int64)) := f215.other W220 (Or.inr (slot_ne (Or.inr (hw _ (List.mem_of_getElem? (i := 64) rfl))) (Or.inr (hw _ (List.mem_of_getElem? (i := 66) rfl))) (by decide) (t := .long) (t' := .long) (by decide) (by decide)))
      have f230 : Fld Z h220 a1 "weirstream/engine/WindowGeometry" "highestValue" "J" (.long (-9223372036854775808 : Int64)) := f216.same W220
      have f231 : Exa Z h220 a2 "weirstream/engine/WindowAxis$1" := f217.wr W220
      have f232 : Fld Z h220 a2 "weirstream/engine/WindowAxis" "lowest" "J" (.long (-9223372036854775808 : Int64)) := f218.other W220 (Or.inl (Ne.symm (ne_exa E1 Ea (by decide))))
      have f233 : Fld Z h220 a2 "weirstream/engine/WindowAxis" "highest" "J" (.long (9223372036854775807 : Int64)) := f219.other W220 (Or.inl (Ne.symm (ne_exa E1 Ea (by decide))))
      have Z220 : n0 ≤ h220.size := Nat.le_trans Z206 (Keep.of_wr W220).1
      have N220 := Fr.snoc X220 N206 g1
      have K220 : Keep h0 h220 [a1] := K206.wr W220 (Or.inl (by simp))
      refine Done.step st220 ?_
      show Done p e below s _ _ _ (T220.setTop (mkF m 164 #[.val (.ref a1), .val (.ref a2), .val (.long q3), .second, .val (.long q4), .second, .val (.long (F3 (-9223372036854775808 : Int64))), .second, .val (.long ((F4 (F3 (-9223372036854775808 : Int64)) q4) + ((1 : Int32)).toInt64)), .second] []))
      exact Done.void X220 hx hlk hret (hb hby d1_164) (by decide) (by decide) ⟨rfl, N220, (by rw [e220]; exact ⟨K220, f221, f225⟩)⟩
    · refine Done.step (fun t k => XS.ifNo X204.here hx rfl (hb hby d1_117) rfl ((if0 _ _).trans (flt (fun q_ => c205 ((lw_gt _ _).mp q_))).2.2.1) k) ?_
      show Done p e below s _ _ _ (T204.setTop (mkF m 120 #[.val (.ref a1), .val (.ref a2), .val (.long q3), .second, .val (.long q4), .second, .val (.long (F3 (-9223372036854775808 : Int64))), .second, .val (.long ((F4 (F3 (-9223372036854775808 : Int64)) q4) + ((1 : Int32)).toInt64)), .second] []))
      refine Done.step (fun t k => XS.aloadN X204.here hx rfl (hb hby d1_120) rfl rfl k) ?_
      show Done p e below s _ _ _ (T204.setTop (mkF m 121 #[.val (.ref a1), .val (.ref a2), .val (.long q3), .second, .val (.long q4), .second, .val (.long (F3 (-9223372036854775808 : Int64))), .second, .val (.long ((F4 (F3 (-9223372036854775808 : Int64)) q4) + ((1 : Int32)).toInt64)), .second] [(.ref a1)]))
      refine Done.step (fun t k => XS.aloadN X204.here hx rfl (hb hby d1_121) rfl rfl k) ?_
      show Done p e below s _ _ _ (T204.setTop (mkF m 122 #[.val (.ref a1), .val (.ref a2), .val (.long q3), .second, .val (.long q4), .second, .val (.long (F3 (-9223372036854775808 : Int64))), .second, .val (.long ((F4 (F3 (-9223372036854775808 : Int64)) q4) + ((1 : Int32)).toInt64)), .second] [(.ref a1), (.ref a1)]))
      obtain ⟨T234, X234, e234, st234⟩ := getF X204 hx hZ hown (host := "") (Or.inl (hw _ (List.mem_of_getElem? (i := 52) rfl))) Via.refl e204 f196 (g := (mkF m 122 #[.val (.ref a1), .val (.ref a2), .val (.long q3), .second, .val (.long q4), .second, .val (.long (F3 (-9223372036854775808 : Int64))), .second, .val (.long ((F4 (F3 (-9223372036854775808 : Int64)) q4) + ((1 : Int32)).toInt64)), .second] [(.ref a1), (.ref a1)])) rfl rfl (hb hby d1_122)
      refine Done.step st234 ?_
      show Done p e below s _ _ _ (T234.setTop (mkF m 125 #[.val (.ref a1), .val (.ref a2), .val (.long q3), .second, .val (.long q4), .second, .val (.long (F3 (-9223372036854775808 : Int64))), .second, .val (.long ((F4 (F3 (-9223372036854775808 : Int64)) q4) + ((1 : Int32)).toInt64)), .second] [(.long (F8 (F7 ((F4 (F3 (-9223372036854775808 : Int64)) q4) + ((1 : Int32)).toInt64) (q3 / q4)) ((-9223372036854775808 : Int64) + (q3 / q4)))), (.ref a1)]))
      refine Done.step (fun t k => XS.lload X234.here hx rfl (hb hby d1_125) rfl k) ?_
      show Done p e below s _ _ _ (T234.setTop (mkF m 127 #[.val (.ref a1), .val (.ref a2), .val (.long q3), .second, .val (.long q4), .second, .val (.long (F3 (-9223372036854775808 : Int64))), .second, .val (.long ((F4 (F3 (-9223372036854775808 : Int64)) q4) + ((1 : Int32)).toInt64)), .second] [(.long q4), (.long (F8 (F7 ((F4 (F3 (-9223372036854775808 : Int64)) q4) + ((1 : Int32)).toInt64) (q3 / q4)) ((-9223372036854775808 : Int64) + (q3 / q4)))), (.ref a1)]))
      refine Done.step (fun t k => XS.lmul X234.here hx rfl (hb hby d1_127) rfl k) ?_
      show Done p e below s _ _ _ (T234.setTop (mkF m 128 #[.val (.ref a1), .val (.ref a2), .val (.long q3), .second, .val (.long q4), .second, .val (.long (F3 (-9223372036854775808 : Int64))), .second, .val (.long ((F4 (F3 (-9223372036854775808 : Int64)) q4) + ((1 : Int32)).toInt64)), .second] [(.long ((F8 (F7 ((F4 (F3 (-9223372036854775808 : Int64)) q4) + ((1 : Int32)).toInt64) (q3 / q4)) ((-9223372036854775808 : Int64) + (q3 / q4))) * q4)), (.ref a1)]))
      obtain ⟨T235, h235, X235, e235, W235, st235⟩ := putF X234 hx hZ hown (host := "") (Or.inl (hw _ (List.mem_of_getElem? (i := 63) rfl))) Via.refl e234 f198 f190 (Or.inr ⟨(hw _ (List.mem_of_getElem? (i := 64) rfl)), rfl, hnm⟩) (hw _ (List.mem_of_getElem? (i := 2) rfl)) (ty := .long) (by decide) rfl rfl (g := (mkF m 128 #[.val (.ref a1), .val (.ref a2), .val (.long q3), .second, .val (.long q4), .second, .val (.long (F3 (-9223372036854775808 : Int64))), .second, .val (.long ((F4 (F3 (-9223372036854775808 : Int64)) q4) + ((1 : Int32)).toInt64)), .second] [(.long ((F8 (F7 ((F4 (F3 (-9223372036854775808 : Int64)) q4) + ((1 : Int32)).toInt64) (q3 / q4)) ((-9223372036854775808 : Int64) + (q3 / q4))) * q4)), (.ref a1)])) rfl rfl (hb hby d1_128)
      have f236 : Exa Z h235 a1 "weirstream/engine/WindowGeometry" := f190.wr W235
      have f237 : Fld Z h235 a1 "weirstream/engine/WindowGeometry" "axis" "Lweirstream/engine/WindowAxis;" (.ref a2) := f191.other W235 (Or.inr (slot_ne (Or.inr (hw _ (List.mem_of_getElem? (i := 14) rfl))) (Or.inr (hw _ (List.mem_of_getElem? (i := 64) rfl))) (by decide) (t := (.object "weirstream/engine/WindowAxis")) (t' := .long) (by decide) (by decide)))
      have f238 : Fld Z h235 a1 "weirstream/engine/WindowGeometry" "range" "J" (.long q3) := f192.other W235 (Or.inr (slot_ne (Or.inr (hw _ (List.mem_of_getElem? (i := 16) rfl))) (Or.inr (hw _ (List.mem_of_getElem? (i := 64) rfl))) (by decide) (t := .long) (t' := .long) (by decide) (by decide)))
      have f239 : Fld Z h235 a1 "weirstream/engine/WindowGeometry" "slide" "J" (.long q4) := f193.other W235 (Or.inr (slot_ne (Or.inr (hw _ (List.mem_of_getElem? (i := 18) rfl))) (Or.inr (hw _ (List.mem_of_getElem? (i := 64) rfl))) (by decide) (t := .long) (t' := .long) (by decide) (by decide)))
      have f240 : Fld Z h235 a1 "weirstream/engine/WindowGeometry" "panesPerWindow" "J" (.long (q3 / q4)) := f194.other W235 (Or.inr (slot_ne (Or.inr (hw _ (List.mem_of_getElem? (i := 20) rfl))) (Or.inr (hw _ (List.mem_of_getElem? (i := 64) rfl))) (by decide) (t := .long) (t' := .long) (by decide) (by decide)))
      have f241 : Fld Z h235 a1 "weirstream/engine/WindowGeometry" "highestEnding" "J" (.long (((9223372036854775807 : Int64) / q4) - (1 : Int64))) := f195.other W235 (Or.inr (slot_ne (Or.inr (hw _ (List.mem_of_getElem? (i := 23) rfl))) (Or.inr (hw _ (List.mem_of_getElem? (i := 64) rfl))) (by decide) (t := .long) (t' := .long) (by decide) (by decide)))
      have f242 : Fld Z h235 a1 "weirstream/engine/WindowGeometry" "lowestPane" "J" (.long (F8 (F7 ((F4 (F3 (-9223372036854775808 : Int64)) q4) + ((1 : Int32)).toInt64) (q3 / q4)) ((-9223372036854775808 : Int64) + (q3 / q4)))) := f196.other W235 (Or.inr (slot_ne (Or.inr (hw _ (List.mem_of_getElem? (i := 53) rfl))) (Or.inr (hw _ (List.mem_of_getElem? (i := 64) rfl))) (by decide) (t := .long) (t' := .long) (by decide) (by decide)))
      have f243 : Fld Z h235 a1 "weirstream/engine/WindowGeometry" "highestPane" "J" (.long (F4 ((F9 (9223372036854775807 : Int64)) - q3) q4)) := f197.other W235 (Or.inr (slot_ne (Or.inr (hw _ (List.mem_of_getElem? (i := 62) rfl))) (Or.inr (hw _ (List.mem_of_getElem? (i := 64) rfl))) (by decide) (t := .long) (t' := .long) (by decide) (by decide)))
      have f244 : Fld Z h235 a1 "weirstream/engine/WindowGeometry" "lowestValue" "J" (.long ((F8 (F7 ((F4 (F3 (-9223372036854775808 : Int64)) q4) + ((1 : Int32)).toInt64) (q3 / q4)) ((-9223372036854775808 : Int64) + (q3 / q4))) * q4)) := f198.same W235
      have f245 : Fld Z h235 a1 "weirstream/engine/WindowGeometry" "highestValue" "J" (.long (0 : Int64)) := f199.other W235 (Or.inr (slot_ne (Or.inr (hw _ (List.mem_of_getElem? (i := 66) rfl))) (Or.inr (hw _ (List.mem_of_getElem? (i := 64) rfl))) (by decide) (t := .long) (t' := .long) (by decide) (by decide)))
      have f246 : Exa Z h235 a2 "weirstream/engine/WindowAxis$1" := f200.wr W235
      have f247 : Fld Z h235 a2 "weirstream/engine/WindowAxis" "lowest" "J" (.long (-9223372036854775808 : Int64)) := f201.other W235 (Or.inl (Ne.symm (ne_exa E1 Ea (by decide))))
      have f248 : Fld Z h235 a2 "weirstream/engine/WindowAxis" "highest" "J" (.long (9223372036854775807 : Int64)) := f202.other W235 (Or.inl (Ne.symm (ne_exa E1 Ea (by decide))))
      have Z235 : n0 ≤ h235.size := Nat.le_trans Z189 (Keep.of_wr W235).1
      have N235 := Fr.snoc X235 N189 g1
      have K235 : Keep h0 h235 [a1] := K189.wr W235 (Or.inl (by simp))
      refine Done.step st235 ?_
      show Done p e below s _ _ _ (T235.setTop (mkF m 131 #[.val (.ref a1), .val (.ref a2), .val (.long q3), .second, .val (.long q4), .second, .val (.long (F3 (-9223372036854775808 : Int64))), .second, .val (.long ((F4 (F3 (-9223372036854775808 : Int64)) q4) + ((1 : Int32)).toInt64)), .second] []))
      refine Done.step (fun t k => XS.aloadN X235.here hx rfl (hb hby d1_131) rfl rfl k) ?_
      show Done p e below s _ _ _ (T235.setTop (mkF m 132 #[.val (.ref a1), .val (.ref a2), .val (.long q3), .second, .val (.long q4), .second, .val (.long (F3 (-9223372036854775808 : Int64))), .second, .val (.long ((F4 (F3 (-9223372036854775808 : Int64)) q4) + ((1 : Int32)).toInt64)), .second] [(.ref a1)]))
      refine Done.step (fun t k => XS.aloadN X235.here hx rfl (hb hby d1_132) rfl rfl k) ?_
      show Done p e below s _ _ _ (T235.setTop (mkF m 133 #[.val (.ref a1), .val (.ref a2), .val (.long q3), .second, .val (.long q4), .second, .val (.long (F3 (-9223372036854775808 : Int64))), .second, .val (.long ((F4 (F3 (-9223372036854775808 : Int64)) q4) + ((1 : Int32)).toInt64)), .second] [(.ref a1), (.ref a1)]))
      obtain ⟨T249, X249, e249, st249⟩ := getF X235 hx hZ hown (host := "") (Or.inl (hw _ (List.mem_of_getElem? (i := 61) rfl))) Via.refl e235 f243 (g := (mkF m 133 #[.val (.ref a1), .val (.ref a2), .val (.long q3), .second, .val (.long q4), .second, .val (.long (F3 (-9223372036854775808 : Int64))), .second, .val (.long ((F4 (F3 (-9223372036854775808 : Int64)) q4) + ((1 : Int32)).toInt64)), .second] [(.ref a1), (.ref a1)])) rfl rfl (hb hby d1_133)
      refine Done.step st249 ?_
      show Done p e below s _ _ _ (T249.setTop (mkF m 136 #[.val (.ref a1), .val (.ref a2), .val (.long q3), .second, .val (.long q4), .second, .val (.long (F3 (-9223372036854775808 : Int64))), .second, .val (.long ((F4 (F3 (-9223372036854775808 : Int64)) q4) + ((1 : Int32)).toInt64)), .second] [(.long (F4 ((F9 (9223372036854775807 : Int64)) - q3) q4)), (.ref a1)]))
      refine Done.step (fun t k => XS.lload X249.here hx rfl (hb hby d1_136) rfl k) ?_
      show Done p e below s _ _ _ (T249.setTop (mkF m 138 #[.val (.ref a1), .val (.ref a2), .val (.long q3), .second, .val (.long q4), .second, .val (.long (F3 (-9223372036854775808 : Int64))), .second, .val (.long ((F4 (F3 (-9223372036854775808 : Int64)) q4) + ((1 : Int32)).toInt64)), .second] [(.long q4), (.long (F4 ((F9 (9223372036854775807 : Int64)) - q3) q4)), (.ref a1)]))
      refine Done.step (fun t k => XS.lmul X249.here hx rfl (hb hby d1_138) rfl k) ?_
      show Done p e below s _ _ _ (T249.setTop (mkF m 139 #[.val (.ref a1), .val (.ref a2), .val (.long q3), .second, .val (.long q4), .second, .val (.long (F3 (-9223372036854775808 : Int64))), .second, .val (.long ((F4 (F3 (-9223372036854775808 : Int64)) q4) + ((1 : Int32)).toInt64)), .second] [(.long ((F4 ((F9 (9223372036854775807 : Int64)) - q3) q4) * q4)), (.ref a1)]))
      refine Done.step (fun t k => XS.lload X249.here hx rfl (hb hby d1_139) rfl k) ?_
      show Done p e below s _ _ _ (T249.setTop (mkF m 141 #[.val (.ref a1), .val (.ref a2), .val (.long q3), .second, .val (.long q4), .second, .val (.long (F3 (-9223372036854775808 : Int64))), .second, .val (.long ((F4 (F3 (-9223372036854775808 : Int64)) q4) + ((1 : Int32)).toInt64)), .second] [(.long q4), (.long ((F4 ((F9 (9223372036854775807 : Int64)) - q3) q4) * q4)), (.ref a1)]))
      refine Done.step (fun t k => XS.lconst X249.here hx rfl (hb hby d1_141) k) ?_
      show Done p e below s _ _ _ (T249.setTop (mkF m 142 #[.val (.ref a1), .val (.ref a2), .val (.long q3), .second, .val (.long q4), .second, .val (.long (F3 (-9223372036854775808 : Int64))), .second, .val (.long ((F4 (F3 (-9223372036854775808 : Int64)) q4) + ((1 : Int32)).toInt64)), .second] [(.long (1 : Int64)), (.long q4), (.long ((F4 ((F9 (9223372036854775807 : Int64)) - q3) q4) * q4)), (.ref a1)]))
      refine Done.step (fun t k => XS.lsub X249.here hx rfl (hb hby d1_142) rfl k) ?_
      show Done p e below s _ _ _ (T249.setTop (mkF m 143 #[.val (.ref a1), .val (.ref a2), .val (.long q3), .second, .val (.long q4), .second, .val (.long (F3 (-9223372036854775808 : Int64))), .second, .val (.long ((F4 (F3 (-9223372036854775808 : Int64)) q4) + ((1 : Int32)).toInt64)), .second] [(.long (q4 - (1 : Int64))), (.long ((F4 ((F9 (9223372036854775807 : Int64)) - q3) q4) * q4)), (.ref a1)]))
      refine Done.step (fun t k => XS.ladd X249.here hx rfl (hb hby d1_143) rfl k) ?_
      show Done p e below s _ _ _ (T249.setTop (mkF m 144 #[.val (.ref a1), .val (.ref a2), .val (.long q3), .second, .val (.long q4), .second, .val (.long (F3 (-9223372036854775808 : Int64))), .second, .val (.long ((F4 (F3 (-9223372036854775808 : Int64)) q4) + ((1 : Int32)).toInt64)), .second] [(.long (((F4 ((F9 (9223372036854775807 : Int64)) - q3) q4) * q4) + (q4 - (1 : Int64)))), (.ref a1)]))
      obtain ⟨T250, h250, X250, e250, W250, st250⟩ := putF X249 hx hZ hown (host := "") (Or.inl (hw _ (List.mem_of_getElem? (i := 65) rfl))) Via.refl e249 f245 f236 (Or.inr ⟨(hw _ (List.mem_of_getElem? (i := 66) rfl)), rfl, hnm⟩) (hw _ (List.mem_of_getElem? (i := 2) rfl)) (ty := .long) (by decide) rfl rfl (g := (mkF m 144 #[.val (.ref a1), .val (.ref a2), .val (.long q3), .second, .val (.long q4), .second, .val (.long (F3 (-9223372036854775808 : Int64))), .second, .val (.long ((F4 (F3 (-9223372036854775808 : Int64)) q4) + ((1 : Int32)).toInt64)), .second] [(.long (((F4 ((F9 (9223372036854775807 : Int64)) - q3) q4) * q4) + (q4 - (1 : Int64)))), (.ref a1)])) rfl rfl (hb hby d1_144)
      have f251 : Exa Z h250 a1 "weirstream/engine/WindowGeometry" := f236.wr W250
      have f252 : Fld Z h250 a1 "weirstream/engine/WindowGeometry" "axis" "Lweirstream/engine/WindowAxis;" (.ref a2) := f237.other W250 (Or.inr (slot_ne (Or.inr (hw _ (List.mem_of_getElem? (i := 14) rfl))) (Or.inr (hw _ (List.mem_of_getElem? (i := 66) rfl))) (by decide) (t := (.object "weirstream/engine/WindowAxis")) (t' := .long) (by decide) (by decide)))
      have f253 : Fld Z h250 a1 "weirstream/engine/WindowGeometry" "range" "J" (.long q3) := f238.other W250 (Or.inr (slot_ne (Or.inr (hw _ (List.mem_of_getElem? (i := 16) rfl))) (Or.inr (hw _ (List.mem_of_getElem? (i := 66) rfl))) (by decide) (t := .long) (t' := .long) (by decide) (by decide)))
      have f254 : Fld Z h250 a1 "weirstream/engine/WindowGeometry" "slide" "J" (.long q4) := f239.other W250 (Or.inr (slot_ne (Or.inr (hw _ (List.mem_of_getElem? (i := 18) rfl))) (Or.inr (hw _ (List.mem_of_getElem? (i := 66) rfl))) (by decide) (t := .long) (t' := .long) (by decide) (by decide)))
      have f255 : Fld Z h250 a1 "weirstream/engine/WindowGeometry" "panesPerWindow" "J" (.long (q3 / q4)) := f240.other W250 (Or.inr (slot_ne (Or.inr (hw _ (List.mem_of_getElem? (i := 20) rfl))) (Or.inr (hw _ (List.mem_of_getElem? (i := 66) rfl))) (by decide) (t := .long) (t' := .long) (by decide) (by decide)))
      have f256 : Fld Z h250 a1 "weirstream/engine/WindowGeometry" "highestEnding" "J" (.long (((9223372036854775807 : Int64) / q4) - (1 : Int64))) := f241.other W250 (Or.inr (slot_ne (Or.inr (hw _ (List.mem_of_getElem? (i := 23) rfl))) (Or.inr (hw _ (List.mem_of_getElem? (i := 66) rfl))) (by decide) (t := .long) (t' := .long) (by decide) (by decide)))
      have f257 : Fld Z h250 a1 "weirstream/engine/WindowGeometry" "lowestPane" "J" (.long (F8 (F7 ((F4 (F3 (-9223372036854775808 : Int64)) q4) + ((1 : Int32)).toInt64) (q3 / q4)) ((-9223372036854775808 : Int64) + (q3 / q4)))) := f242.other W250 (Or.inr (slot_ne (Or.inr (hw _ (List.mem_of_getElem? (i := 53) rfl))) (Or.inr (hw _ (List.mem_of_getElem? (i := 66) rfl))) (by decide) (t := .long) (t' := .long) (by decide) (by decide)))
      have f258 : Fld Z h250 a1 "weirstream/engine/WindowGeometry" "highestPane" "J" (.long (F4 ((F9 (9223372036854775807 : Int64)) - q3) q4)) := f243.other W250 (Or.inr (slot_ne (Or.inr (hw _ (List.mem_of_getElem? (i := 62) rfl))) (Or.inr (hw _ (List.mem_of_getElem? (i := 66) rfl))) (by decide) (t := .long) (t' := .long) (by decide) (by decide)))
      have f259 : Fld Z h250 a1 "weirstream/engine/WindowGeometry" "lowestValue" "J" (.long ((F8 (F7 ((F4 (F3 (-9223372036854775808 : Int64)) q4) + ((1 : Int32)).toInt64) (q3 / q4)) ((-9223372036854775808 : Int64) + (q3 / q4))) * q4)) := f244.other W250 (Or.inr (slot_ne (Or.inr (hw _ (List.mem_of_getElem? (i := 64) rfl))) (Or.inr (hw _ (List.mem_of_getElem? (i := 66) rfl))) (by decide) (t := .long) (t' := .long) (by decide) (by decide)))
      have f260 : Fld Z h250 a1 "weirstream/engine/WindowGeometry" "highestValue" "J" (.long (((F4 ((F9 (9223372036854775807 : Int64)) - q3) q4) * q4) + (q4 - (1 : Int64)))) := f245.same W250
      have f261 : Exa Z h250 a2 "weirstream/engine/WindowAxis$1" := f246.wr W250
      have f262 : Fld Z h250 a2 "weirstream/engine/WindowAxis" "lowest" "J" (.long (-9223372036854775808 : Int64)) := f247.other W250 (Or.inl (Ne.symm (ne_exa E1 Ea (by decide))))
      have f263 : Fld Z h250 a2 "weirstream/engine/WindowAxis" "highest" "J" (.long (9223372036854775807 : Int64)) := f248.other W250 (Or.inl (Ne.symm (ne_exa E1 Ea (by decide))))
      have Z250 : n0 ≤ h250.size := Nat.le_trans Z235 (Keep.of_wr W250).1
      have N250 := Fr.snoc X250 N235 g1
      have K250 : Keep h0 h250 [a1] := K235.wr W250 (Or.inl (by simp))
      refine Done.step st250 ?_
      show Done p e below s _ _ _ (T250.setTop (mkF m 147 #[.val (.ref a1), .val (.ref a2), .val (.long q3), .second, .val (.long q4), .second, .val (.long (F3 (-9223372036854775808 : Int64))), .second, .val (.long ((F4 (F3 (-9223372036854775808 : Int64)) q4) + ((1 : Int32)).toInt64)), .second] []))
      refine Done.step (fun t k => XS.goto X250.here hx rfl (pc0 := 147) (pc' := 164) rfl (hb hby d1_147) (by decide) (by decide) k) ?_
      show Done p e below s _ _ _ (T250.setTop (mkF m 164 #[.val (.ref a1), .val (.ref a2), .val (.long q3), .second, .val (.long q4), .second, .val (.long (F3 (-9223372036854775808 : Int64))), .second, .val (.long ((F4 (F3 (-9223372036854775808 : Int64)) q4) + ((1 : Int32)).toInt64)), .second] []))
      exact Done.void X250 hx hlk hret (hb hby d1_164) (by decide) (by decide) ⟨rfl, N250, (by rw [e250]; exact ⟨K250, f251, f255⟩)⟩
theorem tmax : (9223372036854775807 : Int64).toInt = 9223372036854775807 := by decide
theorem tmin : (-9223372036854775808 : Int64).toInt = -9223372036854775808 := by decide
theorem tone : (1 : Int64).toInt = 1 := by decide
theorem own_mask (x : Int64) : 0 ≤ (x &&& (9223372036854775807 : Int64)).toInt := by
  have := c_maskL x (9223372036854775807 : Int64) 63 (by decide) (by decide)
  omega
theorem own_slide (q x : Int64) (h : ((1 : Int64) + ((q &&& (9223372036854775807 : Int64)) - ((q &&& (9223372036854775807 : Int64)) / (9223372036854775807 : Int64)) * (9223372036854775807 : Int64))) = x) : 1 ≤ x.toInt := by
  have h1 := own_mask q
  have h2 := (c_lrem (q &&& (9223372036854775807 : Int64)) (9223372036854775807 : Int64) 9223372036854775807 tmax).1 h1
  have h3 := c_ladd (1 : Int64) ((q &&& (9223372036854775807 : Int64)) - ((q &&& (9223372036854775807 : Int64)) / (9223372036854775807 : Int64)) * (9223372036854775807 : Int64))
  have h4 := rng64 x
  rw [h, tone] at h3
  omega
theorem own_q (x y : Int64) (h : ((9223372036854775807 : Int64) / x) = y) (hx : 1 ≤ x.toInt) : 1 ≤ y.toInt ∧ y.toInt * x.toInt ≤ 9223372036854775807 := by
  have hr := rng64 x
  have h2 := (c_ldiv (9223372036854775807 : Int64) x x.toInt rfl (by intro q; rw [q] at hx; revert hx; decide)).1 (by rw [tmax]; decide)
  rw [h, tmax] at h2
  have h3 := Int.ediv_mul_le (9223372036854775807 : Int) (b := x.toInt) (by omega)
  rw [← h2] at h3
  refine ⟨?_, h3⟩
  rw [h2]
  exact Int.le_ediv_of_mul_le (by omega) (by omega)
theorem own_ppw (q x y n r : Int64) (hn : ((1 : Int64) + ((q &&& (9223372036854775807 : Int64)) - ((q &&& (9223372036854775807 : Int64)) / y) * y)) = n) (hr : (n * x) = r) (hx : 1 ≤ x.toInt) (hy : 1 ≤ y.toInt ∧ y.toInt * x.toInt ≤ 9223372036854775807) : (r / x) = n ∧ 1 ≤ n.toInt := by
  have h1 := own_mask q
  have h2 := (c_lrem (q &&& (9223372036854775807 : Int64)) y y.toInt rfl).1 h1
  have h3 := c_ladd (1 : Int64) ((q &&& (9223372036854775807 : Int64)) - ((q &&& (9223372036854775807 : Int64)) / y) * y)
  have h4 := rng64 n
  have ry := rng64 y
  rw [hn, tone] at h3
  have h5 : 0 ≤ (q &&& (9223372036854775807 : Int64)).toInt % y.toInt := Int.emod_nonneg _ (by omega)
  have h6 : (q &&& (9223372036854775807 : Int64)).toInt % y.toInt < y.toInt := Int.emod_lt_of_pos _ (by omega)
  have hn1 : 1 ≤ n.toInt ∧ n.toInt ≤ y.toInt := by omega
  have h7 : n.toInt * x.toInt ≤ y.toInt * x.toInt := Int.mul_le_mul_of_nonneg_right hn1.2 (by omega)
  have h8 : 0 ≤ n.toInt * x.toInt := Int.mul_nonneg (by omega) (by omega)
  have h9 := c_lmul n x
  have h10 := rng64 r
  rw [hr] at h9
  generalize hP : n.toInt * x.toInt = P at *
  have h11 : r.toInt = P := by omega
  refine ⟨?_, hn1.1⟩
  have h12 := (c_ldiv r x x.toInt rfl (by intro q; rw [q] at hx; revert hx; decide)).1 (by omega)
  apply Int64.toInt_inj.mp
  rw [h12, h11, ← hP]
  exact Int.mul_ediv_cancel _ (by omega)
theorem own_fin (p n r d : Int64) (hn : 1 ≤ n.toInt) (hr : (F10 p n) = r) (hd : (p - n) = d) : (¬ p < d → r = d) ∧ (p < d → r = (-9223372036854775808 : Int64)) := by
  have a := c_lsub p n
  have b := c_ladd (-9223372036854775808 : Int64) n
  have r1 := rng64 p
  have r2 := rng64 n
  have r3 := rng64 (p - n)
  have r4 := rng64 ((-9223372036854775808 : Int64) + n)
  subst hr hd
  unfold F10
  rw [tmin] at b
  simp only [Int64.lt_iff_toInt_lt]
  constructor
  · intro h
    rw [if_neg (by omega)]
  · intro h
    rw [if_pos (by omega)]
theorem pn_0 : plainName "weirstream/engine/WindowGeometryLastWindowEndingByPinLaw" = true := by first | (simp [plainName, overriddenIn]; done) | decide +kernel
theorem ef_0 (m : MethodId) (q1 : Int64) (q2 : Int64) (q3 : Int64) (p4 : Int32) : entryFrame m #[(.long q1), (.long q2), (.long q3), (.int p4)] maxLocals = mkF m 0 #[.val (.long q1), .second, .val (.long q2), .second, .val (.long q3), .second, .val (.int p4), .unset, .unset, .unset, .unset, .unset, .unset, .unset, .unset, .unset, .unset, .unset, .unset, .unset, .unset, .unset, .unset, .unset, .unset] [] := by first | (simp [entryFrame, mkF, argsToLocals, Value.category, maxLocals]; done) | rfl
def Qrm0 (Z : State) (q1 : Int64) (q2 : Int64) (q3 : Int64) (p4 : Int32) (sx_INTEGER : Addr) (h0 : Heap) (n0 : Nat) : Option Value → Heap → List Loc → Prop := fun v h L => v = some (.int 1) ∧ Fr n0 L
set_option maxRecDepth 65536 in
set_option maxHeartbeats 40000000 in
theorem rm0 (l : Launch) (Z : State) (a0 : Array Value) (hw : ∀ d ∈ tables_1, d.before a0 Z = true) (ws : List Jvm.Cond) (q1 : Int64) (q2 : Int64) (q3 : Int64) (p4 : Int32) (sx_INTEGER : Addr) (h0 : Heap) (n0 : Nat) (Z0 : n0 ≤ h0.size) (S_sx_INTEGER : Sta Z h0 "weirstream/engine/WindowAxis" "INTEGER" "Lweirstream/engine/WindowAxis;" (.ref sx_INTEGER)) (E_sx_INTEGER : Exa Z h0 sx_INTEGER "weirstream/engine/WindowAxis$1") (F_sx_INTEGER_lowest : Fld Z h0 sx_INTEGER "weirstream/engine/WindowAxis" "lowest" "J" (.long (-9223372036854775808 : Int64))) (F_sx_INTEGER_highest : Fld Z h0 sx_INTEGER "weirstream/engine/WindowAxis" "highest" "J" (.long (9223372036854775807 : Int64))) :
    MetFree l x (head1 (Jvm.Cond.code x code maxLocals ret :: ws) room_1) (fun a U => a = #[(.long q1), (.long q2), (.long q3), (.int p4)] ∧ Z.Warmed39 U.vm ∧ U.heap = h0) (fun _ _ _ _ _ => True) (fun _ U o U' => ∃ v L, o = .returned v ∧ Qrm0 Z q1 q2 q3 p4 sx_INTEGER h0 n0 v U'.heap L ∧ FrameEnd U o U' L room_1.cells room_1.slots) := by
  refine MetFree.of_bodySF (plainFor_of_name pn_0) hisR ?_
  intro p e s m args below meth c s₁ Bd hml0 hP hK
  obtain ⟨rfl, hZ, hh⟩ := hP
  have hx := Bd.exec
  have hby := Bd.bytes
  have hml : c.maxLocals = 25 := hml0
  have hown : s.vm.findClass "weirstream/engine/WindowGeometryLastWindowEndingByPinLaw" = some m.cls := findClass_of_methodNamed Bd.named
  have hnm := (name_of_methodNamed Bd.named Bd.method).1
  have hlk : meth.locks = false := BodyLoose.notSynchronized Bd
  have hret := Bd.returns
  have X0 : Stand p l e room_1 s m #[(.long q1), (.long q2), (.long q3), (.int p4)] below meth c s₁ [] 0 0 := Stand.of_body Bd
  have e0 : s₁.heap = h0 := by rw [← hh, Bd.state]; rfl
  have N0 := Fr.nil n0
  show Done p e below s (Qrm0 Z q1 q2 q3 p4 sx_INTEGER h0 n0) room_1.cells room_1.slots (s₁.setTop (entryFrame m #[(.long q1), (.long q2), (.long q3), (.int p4)] maxLocals))
  refine Done.step (fun t k => castTop (ef_0 m q1 q2 q3 p4) k) ?_
  show Done p e below s _ _ _ (s₁.setTop (mkF m 0 #[.val (.long q1), .second, .val (.long q2), .second, .val (.long q3), .second, .val (.int p4), .unset, .unset, .unset, .unset, .unset, .unset, .unset, .unset, .unset, .unset, .unset, .unset, .unset, .unset, .unset, .unset, .unset, .unset] []))
  refine Done.step (fun t k => XS.lconst X0.here hx rfl (hb hby at_0) k) ?_
  show Done p e below s _ _ _ (s₁.setTop (mkF m 1 #[.val (.long q1), .second, .val (.long q2), .second, .val (.long q3), .second, .val (.int p4), .unset, .unset, .unset, .unset, .unset, .unset, .unset, .unset, .unset, .unset, .unset, .unset, .unset, .unset, .unset, .unset, .unset, .unset] [(.long (1 : Int64))]))
  refine Done.step (fun t k => XS.lload X0.here hx rfl (hb hby at_1) rfl k) ?_
  show Done p e below s _ _ _ (s₁.setTop (mkF m 3 #[.val (.long q1), .second, .val (.long q2), .second, .val (.long q3), .second, .val (.int p4), .unset, .unset, .unset, .unset, .unset, .unset, .unset, .unset, .unset, .unset, .unset, .unset, .unset, .unset, .unset, .unset, .unset, .unset] [(.long q3), (.long (1 : Int64))]))
  refine Done.step (X0.ldc2Long hx hown (mvT hZ (hw _ (List.mem_of_getElem? (i := 0) rfl))) (g := (mkF m 3 #[.val (.long q1), .second, .val (.long q2), .second, .val (.long q3), .second, .val (.int p4), .unset, .unset, .unset, .unset, .unset, .unset, .unset, .unset, .unset, .unset, .unset, .unset, .unset, .unset, .unset, .unset, .unset, .unset] [(.long q3), (.long (1 : Int64))])) rfl (hb hby at_3)) ?_
  show Done p e below s _ _ _ (s₁.setTop (mkF m 6 #[.val (.long q1), .second, .val (.long q2), .second, .val (.long q3), .second, .val (.int p4), .unset, .unset, .unset, .unset, .unset, .unset, .unset, .unset, .unset, .unset, .unset, .unset, .unset, .unset, .unset, .unset, .unset, .unset] [(.long (9223372036854775807 : Int64)), (.long q3), (.long (1 : Int64))]))
  refine Done.step (fun t k => XS.land X0.here hx rfl (hb hby at_6) rfl k) ?_
  show Done p e below s _ _ _ (s₁.setTop (mkF m 7 #[.val (.long q1), .second, .val (.long q2), .second, .val (.long q3), .second, .val (.int p4), .unset, .unset, .unset, .unset, .unset, .unset, .unset, .unset, .unset, .unset, .unset, .unset, .unset, .unset, .unset, .unset, .unset, .unset] [(.long (q3 &&& (9223372036854775807 : Int64))), (.long (1 : Int64))]))
  refine Done.step (X0.ldc2Long hx hown (mvT hZ (hw _ (List.mem_of_getElem? (i := 0) rfl))) (g := (mkF m 7 #[.val (.long q1), .second, .val (.long q2), .second, .val (.long q3), .second, .val (.int p4), .unset, .unset, .unset, .unset, .unset, .unset, .unset, .unset, .unset, .unset, .unset, .unset, .unset, .unset, .unset, .unset, .unset, .unset] [(.long (q3 &&& (9223372036854775807 : Int64))), (.long (1 : Int64))])) rfl (hb hby at_7)) ?_
  show Done p e below s _ _ _ (s₁.setTop (mkF m 10 #[.val (.long q1), .second, .val (.long q2), .second, .val (.long q3), .second, .val (.int p4), .unset, .unset, .unset, .unset, .unset, .unset, .unset, .unset, .unset, .unset, .unset, .unset, .unset, .unset, .unset, .unset, .unset, .unset] [(.long (9223372036854775807 : Int64)), (.long (q3 &&& (9223372036854775807 : Int64))), (.long (1 : Int64))]))
  refine Done.step (fun t k => XS.lrem X0.here hx rfl (hb hby at_10) rfl (by decide) k) ?_
  show Done p e below s _ _ _ (s₁.setTop (mkF m 11 #[.val (.long q1), .second, .val (.long q2), .second, .val (.long q3), .second, .val (.int p4), .unset, .unset, .unset, .unset, .unset, .unset, .unset, .unset, .unset, .unset, .unset, .unset, .unset, .unset, .unset, .unset, .unset, .unset] [(.long ((q3 &&& (9223372036854775807 : Int64)) - ((q3 &&& (9223372036854775807 : Int64)) / (9223372036854775807 : Int64)) * (9223372036854775807 : Int64))), (.long (1 : Int64))]))
  refine Done.step (fun t k => XS.ladd X0.here hx rfl (hb hby at_11) rfl k) ?_
  show Done p e below s _ _ _ (s₁.setTop (mkF m 12 #[.val (.long q1), .second, .val (.long q2), .second, .val (.long q3), .second, .val (.int p4), .unset, .unset, .unset, .unset, .unset, .unset, .unset, .unset, .unset, .unset, .unset, .unset, .unset, .unset, .unset, .unset, .unset, .unset] [(.long ((1 : Int64) + ((q3 &&& (9223372036854775807 : Int64)) - ((q3 &&& (9223372036854775807 : Int64)) / (9223372036854775807 : Int64)) * (9223372036854775807 : Int64))))]))
  generalize dx1 : ((1 : Int64) + ((q3 &&& (9223372036854775807 : Int64)) - ((q3 &&& (9223372036854775807 : Int64)) / (9223372036854775807 : Int64)) * (9223372036854775807 : Int64))) = x1
  show Done p e below s _ _ _ (s₁.setTop (mkF m 12 #[.val (.long q1), .second, .val (.long q2), .second, .val (.long q3), .second, .val (.int p4), .unset, .unset, .unset, .unset, .unset, .unset, .unset, .unset, .unset, .unset, .unset, .unset, .unset, .unset, .unset, .unset, .unset, .unset] [(.long x1)]))
  refine Done.step (fun t k => XS.lstore X0.here hx rfl (hb hby at_12) rfl (l' := #[.val (.long q1), .second, .val (.long q2), .second, .val (.long q3), .second, .val (.int p4), .val (.long x1), .second, .unset, .unset, .unset, .unset, .unset, .unset, .unset, .unset, .unset, .unset, .unset, .unset, .unset, .unset, .unset, .unset]) rfl k) ?_
  show Done p e below s _ _ _ (s₁.setTop (mkF m 14 #[.val (.long q1), .second, .val (.long q2), .second, .val (.long q3), .second, .val (.int p4), .val (.long x1), .second, .unset, .unset, .unset, .unset, .unset, .unset, .unset, .unset, .unset, .unset, .unset, .unset, .unset, .unset, .unset, .unset] []))
  refine Done.step (X0.ldc2Long hx hown (mvT hZ (hw _ (List.mem_of_getElem? (i := 0) rfl))) (g := (mkF m 14 #[.val (.long q1), .second, .val (.long q2), .second, .val (.long q3), .second, .val (.int p4), .val (.long x1), .second, .unset, .unset, .unset, .unset, .unset, .unset, .unset, .unset, .unset, .unset, .unset, .unset, .unset, .unset, .unset, .unset] [])) rfl (hb hby at_14)) ?_
  show Done p e below s _ _ _ (s₁.setTop (mkF m 17 #[.val (.long q1), .second, .val (.long q2), .second, .val (.long q3), .second, .val (.int p4), .val (.long x1), .second, .unset, .unset, .unset, .unset, .unset, .unset, .unset, .unset, .unset, .unset, .unset, .unset, .unset, .unset, .unset, .unset] [(.long (9223372036854775807 : Int64))]))
  refine Done.step (fun t k => XS.lload X0.here hx rfl (hb hby at_17) rfl k) ?_
  show Done p e below s _ _ _ (s₁.setTop (mkF m 19 #[.val (.long q1), .second, .val (.long q2), .second, .val (.long q3), .second, .val (.int p4), .val (.long x1), .second, .unset, .unset, .unset, .unset, .unset, .unset, .unset, .unset, .unset, .unset, .unset, .unset, .unset, .unset, .unset, .unset] [(.long x1), (.long (9223372036854775807 : Int64))]))
  have hsl := own_slide q3 x1 dx1
  have hs0 : ¬ x1 = (0 : Int64) := by rw [← Int64.toInt_inj]; show ¬ _ = (0 : Int); omega
  refine Done.step (fun t k => XS.ldiv X0.here hx rfl (hb hby at_19) rfl hs0 k) ?_
  show Done p e below s _ _ _ (s₁.setTop (mkF m 20 #[.val (.long q1), .second, .val (.long q2), .second, .val (.long q3), .second, .val (.int p4), .val (.long x1), .second, .unset, .unset, .unset, .unset, .unset, .unset, .unset, .unset, .unset, .unset, .unset, .unset, .unset, .unset, .unset, .unset] [(.long ((9223372036854775807 : Int64) / x1))]))
  generalize dx2 : ((9223372036854775807 : Int64) / x1) = x2
  show Done p e below s _ _ _ (s₁.setTop (mkF m 20 #[.val (.long q1), .second, .val (.long q2), .second, .val (.long q3), .second, .val (.int p4), .val (.long x1), .second, .unset, .unset, .unset, .unset, .unset, .unset, .unset, .unset, .unset, .unset, .unset, .unset, .unset, .unset, .unset, .unset] [(.long x2)]))
  refine Done.step (fun t k => XS.lstore X0.here hx rfl (hb hby at_20) rfl (l' := #[.val (.long q1), .second, .val (.long q2), .second, .val (.long q3), .second, .val (.int p4), .val (.long x1), .second, .val (.long x2), .second, .unset, .unset, .unset, .unset, .unset, .unset, .unset, .unset, .unset, .unset, .unset, .unset, .unset, .unset]) rfl k) ?_
  show Done p e below s _ _ _ (s₁.setTop (mkF m 22 #[.val (.long q1), .second, .val (.long q2), .second, .val (.long q3), .second, .val (.int p4), .val (.long x1), .second, .val (.long x2), .second, .unset, .unset, .unset, .unset, .unset, .unset, .unset, .unset, .unset, .unset, .unset, .unset, .unset, .unset] []))
  refine Done.step (fun t k => XS.lconst X0.here hx rfl (hb hby at_22) k) ?_
  show Done p e below s _ _ _ (s₁.setTop (mkF m 23 #[.val (.long q1), .second, .val (.long q2), .second, .val (.long q3), .second, .val (.int p4), .val (.long x1), .second, .val (.long x2), .second, .unset, .unset, .unset, .unset, .unset, .unset, .unset, .unset, .unset, .unset, .unset, .unset, .unset, .unset] [(.long (1 : Int64))]))
  refine Done.step (fun t k => XS.lloadN X0.here hx rfl (hb hby at_23) rfl k) ?_
  show Done p e below s _ _ _ (s₁.setTop (mkF m 24 #[.val (.long q1), .second, .val (.long q2), .second, .val (.long q3), .second, .val (.int p4), .val (.long x1), .second, .val (.long x2), .second, .unset, .unset, .unset, .unset, .unset, .unset, .unset, .unset, .unset, .unset, .unset, .unset, .unset, .unset] [(.long q2), (.long (1 : Int64))]))
  refine Done.step (X0.ldc2Long hx hown (mvT hZ (hw _ (List.mem_of_getElem? (i := 0) rfl))) (g := (mkF m 24 #[.val (.long q1), .second, .val (.long q2), .second, .val (.long q3), .second, .val (.int p4), .val (.long x1), .second, .val (.long x2), .second, .unset, .unset, .unset, .unset, .unset, .unset, .unset, .unset, .unset, .unset, .unset, .unset, .unset, .unset] [(.long q2), (.long (1 : Int64))])) rfl (hb hby at_24)) ?_
  show Done p e below s _ _ _ (s₁.setTop (mkF m 27 #[.val (.long q1), .second, .val (.long q2), .second, .val (.long q3), .second, .val (.int p4), .val (.long x1), .second, .val (.long x2), .second, .unset, .unset, .unset, .unset, .unset, .unset, .unset, .unset, .unset, .unset, .unset, .unset, .unset, .unset] [(.long (9223372036854775807 : Int64)), (.long q2), (.long (1 : Int64))]))
  refine Done.step (fun t k => XS.land X0.here hx rfl (hb hby at_27) rfl k) ?_
  show Done p e below s _ _ _ (s₁.setTop (mkF m 28 #[.val (.long q1), .second, .val (.long q2), .second, .val (.long q3), .second, .val (.int p4), .val (.long x1), .second, .val (.long x2), .second, .unset, .unset, .unset, .unset, .unset, .unset, .unset, .unset, .unset, .unset, .unset, .unset, .unset, .unset] [(.long (q2 &&& (9223372036854775807 : Int64))), (.long (1 : Int64))]))
  refine Done.step (fun t k => XS.lload X0.here hx rfl (hb hby at_28) rfl k) ?_
  show Done p e below s _ _ _ (s₁.setTop (mkF m 30 #[.val (.long q1), .second, .val (.long q2), .second, .val (.long q3), .second, .val (.int p4), .val (.long x1), .second, .val (.long x2), .second, .unset, .unset, .unset, .unset, .unset, .unset, .unset, .unset, .unset, .unset, .unset, .unset, .unset, .unset] [(.long x2), (.long (q2 &&& (9223372036854775807 : Int64))), (.long (1 : Int64))]))
  have hqq := own_q x1 x2 dx2 hsl
  have hq0 : ¬ x2 = (0 : Int64) := by rw [← Int64.toInt_inj]; show ¬ _ = (0 : Int); omega
  refine Done.step (fun t k => XS.lrem X0.here hx rfl (hb hby at_30) rfl hq0 k) ?_
  show Done p e below s _ _ _ (s₁.setTop (mkF m 31 #[.val (.long q1), .second, .val (.long q2), .second, .val (.long q3), .second, .val (.int p4), .val (.long x1), .second, .val (.long x2), .second, .unset, .unset, .unset, .unset, .unset, .unset, .unset, .unset, .unset, .unset, .unset, .unset, .unset, .unset] [(.long ((q2 &&& (9223372036854775807 : Int64)) - ((q2 &&& (9223372036854775807 : Int64)) / x2) * x2)), (.long (1 : Int64))]))
  refine Done.step (fun t k => XS.ladd X0.here hx rfl (hb hby at_31) rfl k) ?_
  show Done p e below s _ _ _ (s₁.setTop (mkF m 32 #[.val (.long q1), .second, .val (.long q2), .second, .val (.long q3), .second, .val (.int p4), .val (.long x1), .second, .val (.long x2), .second, .unset, .unset, .unset, .unset, .unset, .unset, .unset, .unset, .unset, .unset, .unset, .unset, .unset, .unset] [(.long ((1 : Int64) + ((q2 &&& (9223372036854775807 : Int64)) - ((q2 &&& (9223372036854775807 : Int64)) / x2) * x2)))]))
  generalize dx3 : ((1 : Int64) + ((q2 &&& (9223372036854775807 : Int64)) - ((q2 &&& (9223372036854775807 : Int64)) / x2) * x2)) = x3
  show Done p e below s _ _ _ (s₁.setTop (mkF m 32 #[.val (.long q1), .second, .val (.long q2), .second, .val (.long q3), .second, .val (.int p4), .val (.long x1), .second, .val (.long x2), .second, .unset, .unset, .unset, .unset, .unset, .unset, .unset, .unset, .unset, .unset, .unset, .unset, .unset, .unset] [(.long x3)]))
  refine Done.step (fun t k => XS.lstore X0.here hx rfl (hb hby at_32) rfl (l' := #[.val (.long q1), .second, .val (.long q2), .second, .val (.long q3), .second, .val (.int p4), .val (.long x1), .second, .val (.long x2), .second, .val (.long x3), .second, .unset, .unset, .unset, .unset, .unset, .unset, .unset, .unset, .unset, .unset, .unset, .unset]) rfl k) ?_
  show Done p e below s _ _ _ (s₁.setTop (mkF m 34 #[.val (.long q1), .second, .val (.long q2), .second, .val (.long q3), .second, .val (.int p4), .val (.long x1), .second, .val (.long x2), .second, .val (.long x3), .second, .unset, .unset, .unset, .unset, .unset, .unset, .unset, .unset, .unset, .unset, .unset, .unset] []))
  refine Done.step (fun t k => XS.lload X0.here hx rfl (hb hby at_34) rfl k) ?_
  show Done p e below s _ _ _ (s₁.setTop (mkF m 36 #[.val (.long q1), .second, .val (.long q2), .second, .val (.long q3), .second, .val (.int p4), .val (.long x1), .second, .val (.long x2), .second, .val (.long x3), .second, .unset, .unset, .unset, .unset, .unset, .unset, .unset, .unset, .unset, .unset, .unset, .unset] [(.long x3)]))
  refine Done.step (fun t k => XS.lload X0.here hx rfl (hb hby at_36) rfl k) ?_
  show Done p e below s _ _ _ (s₁.setTop (mkF m 38 #[.val (.long q1), .second, .val (.long q2), .second, .val (.long q3), .second, .val (.int p4), .val (.long x1), .second, .val (.long x2), .second, .val (.long x3), .second, .unset, .unset, .unset, .unset, .unset, .unset, .unset, .unset, .unset, .unset, .unset, .unset] [(.long x1), (.long x3)]))
  refine Done.step (fun t k => XS.lmul X0.here hx rfl (hb hby at_38) rfl k) ?_
  show Done p e below s _ _ _ (s₁.setTop (mkF m 39 #[.val (.long q1), .second, .val (.long q2), .second, .val (.long q3), .second, .val (.int p4), .val (.long x1), .second, .val (.long x2), .second, .val (.long x3), .second, .unset, .unset, .unset, .unset, .unset, .unset, .unset, .unset, .unset, .unset, .unset, .unset] [(.long (x3 * x1))]))
  generalize dx4 : (x3 * x1) = x4
  show Done p e below s _ _ _ (s₁.setTop (mkF m 39 #[.val (.long q1), .second, .val (.long q2), .second, .val (.long q3), .second, .val (.int p4), .val (.long x1), .second, .val (.long x2), .second, .val (.long x3), .second, .unset, .unset, .unset, .unset, .unset, .unset, .unset, .unset, .unset, .unset, .unset, .unset] [(.long x4)]))
  refine Done.step (fun t k => XS.lstore X0.here hx rfl (hb hby at_39) rfl (l' := #[.val (.long q1), .second, .val (.long q2), .second, .val (.long q3), .second, .val (.int p4), .val (.long x1), .second, .val (.long x2), .second, .val (.long x3), .second, .val (.long x4), .second, .unset, .unset, .unset, .unset, .unset, .unset, .unset, .unset, .unset, .unset]) rfl k) ?_
  show Done p e below s _ _ _ (s₁.setTop (mkF m 41 #[.val (.long q1), .second, .val (.long q2), .second, .val (.long q3), .second, .val (.int p4), .val (.long x1), .second, .val (.long x2), .second, .val (.long x3), .second, .val (.long x4), .second, .unset, .unset, .unset, .unset, .unset, .unset, .unset, .unset, .unset, .unset] []))
  obtain ⟨T5, h5, X5, e5, E5, A5, D5, -, st5⟩ := newO X0 hx hZ hown (hw _ (List.mem_of_getElem? (i := 1) rfl)) (hw _ (List.mem_of_getElem? (i := 2) rfl)) (hw _ (List.mem_of_getElem? (i := 3) rfl)) e0 (g := (mkF m 41 #[.val (.long q1), .second, .val (.long q2), .second, .val (.long q3), .second, .val (.int p4), .val (.long x1), .second, .val (.long x2), .second, .val (.long x3), .second, .val (.long x4), .second, .unset, .unset, .unset, .unset, .unset, .unset, .unset, .unset, .unset, .unset] [])) rfl (hb hby at_41) (by decide) (by decide)
  obtain ⟨b5, gq5⟩ : ∃ z, z = h0.size := ⟨_, rfl⟩
  rw [← gq5] at A5 D5 st5
  have ne6 : sx_INTEGER ≠ b5 := Nat.ne_of_lt (Nat.lt_of_lt_of_le E_sx_INTEGER.lt (Nat.le_of_eq gq5.symm))
  have f7 : Sta Z h5 "weirstream/engine/WindowAxis" "INTEGER" "Lweirstream/engine/WindowAxis;" (.ref sx_INTEGER) := S_sx_INTEGER.ext E5
  have f8 : Exa Z h5 sx_INTEGER "weirstream/engine/WindowAxis$1" := E_sx_INTEGER.ext E5
  have f9 : Fld Z h5 sx_INTEGER "weirstream/engine/WindowAxis" "lowest" "J" (.long (-9223372036854775808 : Int64)) := F_sx_INTEGER_lowest.ext E5
  have f10 : Fld Z h5 sx_INTEGER "weirstream/engine/WindowAxis" "highest" "J" (.long (9223372036854775807 : Int64)) := F_sx_INTEGER_highest.ext E5
  have g_b5 : n0 ≤ b5 := Nat.le_trans Z0 (Nat.le_of_eq gq5.symm)
  have Z5 : n0 ≤ h5.size := Nat.le_trans Z0 E5.1
  have f11 : Fld Z h5 b5 "weirstream/engine/WindowGeometry" "axis" "Lweirstream/engine/WindowAxis;" .null := D5 (Or.inr (hw _ (List.mem_of_getElem? (i := 14) rfl))) (ty := (.object "weirstream/engine/WindowAxis")) (by decide)
  have f12 : Fld Z h5 b5 "weirstream/engine/WindowGeometry" "range" "J" (.long (0 : Int64)) := D5 (Or.inr (hw _ (List.mem_of_getElem? (i := 16) rfl))) (ty := .long) (by decide)
  have f13 : Fld Z h5 b5 "weirstream/engine/WindowGeometry" "slide" "J" (.long (0 : Int64)) := D5 (Or.inr (hw _ (List.mem_of_getElem? (i := 18) rfl))) (ty := .long) (by decide)
  have f14 : Fld Z h5 b5 "weirstream/engine/WindowGeometry" "panesPerWindow" "J" (.long (0 : Int64)) := D5 (Or.inr (hw _ (List.mem_of_getElem? (i := 20) rfl))) (ty := .long) (by decide)
  have f15 : Fld Z h5 b5 "weirstream/engine/WindowGeometry" "highestEnding" "J" (.long (0 : Int64)) := D5 (Or.inr (hw _ (List.mem_of_getElem? (i := 23) rfl))) (ty := .long) (by decide)
  have f16 : Fld Z h5 b5 "weirstream/engine/WindowGeometry" "lowestPane" "J" (.long (0 : Int64)) := D5 (Or.inr (hw _ (List.mem_of_getElem? (i := 53) rfl))) (ty := .long) (by decide)
  have f17 : Fld Z h5 b5 "weirstream/engine/WindowGeometry" "highestPane" "J" (.long (0 : Int64)) := D5 (Or.inr (hw _ (List.mem_of_getElem? (i := 62) rfl))) (ty := .long) (by decide)
  have f18 : Fld Z h5 b5 "weirstream/engine/WindowGeometry" "lowestValue" "J" (.long (0 : Int64)) := D5 (Or.inr (hw _ (List.mem_of_getElem? (i := 64) rfl))) (ty := .long) (by decide)
  have f19 : Fld Z h5 b5 "weirstream/engine/WindowGeometry" "highestValue" "J" (.long (0 : Int64)) := D5 (Or.inr (hw _ (List.mem_of_getElem? (i := 66) rfl))) (ty := .long) (by decide)
  refine Done.step st5 ?_
  show Done p e below s _ _ _ (T5.setTop (mkF m 44 #[.val (.long q1), .second, .val (.long q2), .second, .val (.long q3), .second, .val (.int p4), .val (.long x1), .second, .val (.long x2), .second, .val (.long x3), .second, .val (.long x4), .second, .unset, .unset, .unset, .unset, .unset, .unset, .unset, .unset, .unset, .unset] [(.ref b5)]))
  refine Done.step (fun t k => XS.dup X5.here hx rfl (hb hby at_44) rfl rfl k) ?_
  show Done p e below s _ _ _ (T5.setTop (mkF m 45 #[.val (.long q1), .second, .val (.long q2), .second, .val (.long q3), .second, .val (.int p4), .val (.long x1), .second, .val (.long x2), .second, .val (.long x3), .second, .val (.long x4), .second, .unset, .unset, .unset, .unset, .unset, .unset, .unset, .unset, .unset, .unset] [(.ref b5), (.ref b5)]))
  obtain ⟨T20, X20, e20, st20⟩ := getS2 X5 hx hZ hown (host := "") (Or.inl (hw _ (List.mem_of_getElem? (i := 4) rfl))) Via.refl e5 f7 (g := (mkF m 45 #[.val (.long q1), .second, .val (.long q2), .second, .val (.long q3), .second, .val (.int p4), .val (.long x1), .second, .val (.long x2), .second, .val (.long x3), .second, .val (.long x4), .second, .unset, .unset, .unset, .unset, .unset, .unset, .unset, .unset, .unset, .unset] [(.ref b5), (.ref b5)])) rfl (hb hby at_45)
  refine Done.step st20 ?_
  show Done p e below s _ _ _ (T20.setTop (mkF m 48 #[.val (.long q1), .second, .val (.long q2), .second, .val (.long q3), .second, .val (.int p4), .val (.long x1), .second, .val (.long x2), .second, .val (.long x3), .second, .val (.long x4), .second, .unset, .unset, .unset, .unset, .unset, .unset, .unset, .unset, .unset, .unset] [(.ref sx_INTEGER), (.ref b5), (.ref b5)]))
  refine Done.step (fun t k => XS.lload X20.here hx rfl (hb hby at_48) rfl k) ?_
  show Done p e below s _ _ _ (T20.setTop (mkF m 50 #[.val (.long q1), .second, .val (.long q2), .second, .val (.long q3), .second, .val (.int p4), .val (.long x1), .second, .val (.long x2), .second, .val (.long x3), .second, .val (.long x4), .second, .unset, .unset, .unset, .unset, .unset, .unset, .unset, .unset, .unset, .unset] [(.long x4), (.ref sx_INTEGER), (.ref b5), (.ref b5)]))
  refine Done.step (fun t k => XS.lload X20.here hx rfl (hb hby at_50) rfl k) ?_
  show Done p e below s _ _ _ (T20.setTop (mkF m 52 #[.val (.long q1), .second, .val (.long q2), .second, .val (.long q3), .second, .val (.int p4), .val (.long x1), .second, .val (.long x2), .second, .val (.long x3), .second, .val (.long x4), .second, .unset, .unset, .unset, .unset, .unset, .unset, .unset, .unset, .unset, .unset] [(.long x1), (.long x4), (.ref sx_INTEGER), (.ref b5), (.ref b5)]))
  obtain ⟨v21, _, ⟨T21, L21, k21, n21⟩, -, X21, ⟨Lc21, hQ21, l21, y21, z21⟩, st21⟩ := X20.specialBack hx (y := (⟨"weirstream/engine/WindowGeometry", "<init>", "(Lweirstream/engine/WindowAxis;JJ)V"⟩ : MethodName)) rfl hown (mvT hZ (hw _ (List.mem_of_getElem? (i := 7) rfl))) (mvT hZ (hw _ (List.mem_of_getElem? (i := 8) rfl))) (mvT hZ (hw _ (List.mem_of_getElem? (i := 9) rfl))) (by decide) (backOf (W := 1) (rm1 l Z a0 hw [] b5 sx_INTEGER x4 x1  h5 n0 Z5 A5 f11 f12 f13 f14 f15 f16 f17 f18 f19 g_b5 f8 f9 f10 hs0) hZ (hw _ (List.mem_of_getElem? (i := 9) rfl)) (hw _ (List.mem_of_getElem? (i := 3) rfl)) (by decide) (by decide)) (g := (mkF m 52 #[.val (.long q1), .second, .val (.long q2), .second, .val (.long q3), .second, .val (.int p4), .val (.long x1), .second, .val (.long x2), .second, .val (.long x3), .second, .val (.long x4), .second, .unset, .unset, .unset, .unset, .unset, .unset, .unset, .unset, .unset, .unset] [(.long x1), (.long x4), (.ref sx_INTEGER), (.ref b5), (.ref b5)])) rfl (by rw [hml]; rfl) (Steps.refl _) (a := b5) (argsL := [(.ref sx_INTEGER), (.long x4), (.long x1)]) (rest := [(.ref b5)]) (lenOf pd_3 rfl) rfl (by show 2 * 0 + _ ≤ _; exact Nat.le_of_eq rfl) (hb hby at_52) (fun _ _ => ⟨rfl, e20, (by decide : 1 + 0 ≤ _), (by decide : 9 + 0 ≤ _)⟩)
  dsimp only [Pt.U, Pt.locs, Pt.cells, Pt.slots] at X21 l21 y21 z21 st21 hQ21
  subst l21 y21 z21
  refine Done.far st21 ?_
  obtain ⟨rfl, N21q, K21q, x21, y21_0⟩ := hQ21
  have N21 := Fr.app N0 N21q
  have f22 : Sta Z T21.heap "weirstream/engine/WindowAxis" "INTEGER" "Lweirstream/engine/WindowAxis;" (.ref sx_INTEGER) := own_stakeep f7 K21q (allS (own_unst A5) all0)
  have f23 : Exa Z T21.heap sx_INTEGER "weirstream/engine/WindowAxis$1" := f8.keep K21q
  have f24 : Fld Z T21.heap sx_INTEGER "weirstream/engine/WindowAxis" "lowest" "J" (.long (-9223372036854775808 : Int64)) := f9.keep K21q (ninS ne6 nin0)
  have f25 : Fld Z T21.heap sx_INTEGER "weirstream/engine/WindowAxis" "highest" "J" (.long (9223372036854775807 : Int64)) := f10.keep K21q (ninS ne6 nin0)
  have f26 : Exa Z T21.heap b5 "weirstream/engine/WindowGeometry" := A5.keep K21q
  have Zk21 : n0 ≤ T21.heap.size := Nat.le_trans Z5 K21q.1
  show Done p e below s _ _ _ (T21.setTop (mkF m 55 #[.val (.long q1), .second, .val (.long q2), .second, .val (.long q3), .second, .val (.int p4), .val (.long x1), .second, .val (.long x2), .second, .val (.long x3), .second, .val (.long x4), .second, .unset, .unset, .unset, .unset, .unset, .unset, .unset, .unset, .unset, .unset] [(.ref b5)]))
  refine Done.step (fun t k => XS.astore X21.here hx rfl (hb hby at_55) rfl rfl (l' := #[.val (.long q1), .second, .val (.long q2), .second, .val (.long q3), .second, .val (.int p4), .val (.long x1), .second, .val (.long x2), .second, .val (.long x3), .second, .val (.long x4), .second, .val (.ref b5), .unset, .unset, .unset, .unset, .unset, .unset, .unset, .unset, .unset]) rfl k) ?_
  show Done p e below s _ _ _ (T21.setTop (mkF m 57 #[.val (.long q1), .second, .val (.long q2), .second, .val (.long q3), .second, .val (.int p4), .val (.long x1), .second, .val (.long x2), .second, .val (.long x3), .second, .val (.long x4), .second, .val (.ref b5), .unset, .unset, .unset, .unset, .unset, .unset, .unset, .unset, .unset] []))
  refine Done.step (fun t k => XS.iload X21.here hx rfl (hb hby at_57) rfl k) ?_
  show Done p e below s _ _ _ (T21.setTop (mkF m 59 #[.val (.long q1), .second, .val (.long q2), .second, .val (.long q3), .second, .val (.int p4), .val (.long x1), .second, .val (.long x2), .second, .val (.long x3), .second, .val (.long x4), .second, .val (.ref b5), .unset, .unset, .unset, .unset, .unset, .unset, .unset, .unset, .unset] [(.int p4)]))
  refine Done.step (fun t k => XS.iconst X21.here hx rfl (hb hby at_59) k) ?_
  show Done p e below s _ _ _ (T21.setTop (mkF m 60 #[.val (.long q1), .second, .val (.long q2), .second, .val (.long q3), .second, .val (.int p4), .val (.long x1), .second, .val (.long x2), .second, .val (.long x3), .second, .val (.long x4), .second, .val (.ref b5), .unset, .unset, .unset, .unset, .unset, .unset, .unset, .unset, .unset] [(.int (3 : Int32)), (.int p4)]))
  refine Done.step (fun t k => XS.iand X21.here hx rfl (hb hby at_60) rfl k) ?_
  show Done p e below s _ _ _ (T21.setTop (mkF m 61 #[.val (.long q1), .second, .val (.long q2), .second, .val (.long q3), .second, .val (.int p4), .val (.long x1), .second, .val (.long x2), .second, .val (.long x3), .second, .val (.long x4), .second, .val (.ref b5), .unset, .unset, .unset, .unset, .unset, .unset, .unset, .unset, .unset] [(.int (p4 &&& (3 : Int32)))]))
  generalize dx27 : (p4 &&& (3 : Int32)) = x27
  show Done p e below s _ _ _ (T21.setTop (mkF m 61 #[.val (.long q1), .second, .val (.long q2), .second, .val (.long q3), .second, .val (.int p4), .val (.long x1), .second, .val (.long x2), .second, .val (.long x3), .second, .val (.long x4), .second, .val (.ref b5), .unset, .unset, .unset, .unset, .unset, .unset, .unset, .unset, .unset] [(.int x27)]))
  refine Done.step (fun t k => XS.istore X21.here hx rfl (hb hby at_61) rfl (l' := #[.val (.long q1), .second, .val (.long q2), .second, .val (.long q3), .second, .val (.int p4), .val (.long x1), .second, .val (.long x2), .second, .val (.long x3), .second, .val (.long x4), .second, .val (.ref b5), .val (.int x27), .unset, .unset, .unset, .unset, .unset, .unset, .unset, .unset]) rfl k) ?_
  show Done p e below s _ _ _ (T21.setTop (mkF m 63 #[.val (.long q1), .second, .val (.long q2), .second, .val (.long q3), .second, .val (.int p4), .val (.long x1), .second, .val (.long x2), .second, .val (.long x3), .second, .val (.long x4), .second, .val (.ref b5), .val (.int x27), .unset, .unset, .unset, .unset, .unset, .unset, .unset, .unset] []))
  refine Done.step (fun t k => XS.iload X21.here hx rfl (hb hby at_63) rfl k) ?_
  show Done p e below s _ _ _ (T21.setTop (mkF m 65 #[.val (.long q1), .second, .val (.long q2), .second, .val (.long q3), .second, .val (.int p4), .val (.long x1), .second, .val (.long x2), .second, .val (.long x3), .second, .val (.long x4), .second, .val (.ref b5), .val (.int x27), .unset, .unset, .unset, .unset, .unset, .unset, .unset, .unset] [(.int x27)]))
  refine Done.step (fun t k => XS.iconst X21.here hx rfl (hb hby at_65) k) ?_
  show Done p e below s _ _ _ (T21.setTop (mkF m 66 #[.val (.long q1), .second, .val (.long q2), .second, .val (.long q3), .second, .val (.int p4), .val (.long x1), .second, .val (.long x2), .second, .val (.long x3), .second, .val (.long x4), .second, .val (.ref b5), .val (.int x27), .unset, .unset, .unset, .unset, .unset, .unset, .unset, .unset] [(.int (1 : Int32)), (.int x27)]))
  by_cases c28 : x27 = (1 : Int32)
  · refine Done.step (fun t k => XS.icmpNo X21.here hx rfl (hb hby at_66) rfl (teq c28).2 k) ?_
    show Done p e below s _ _ _ (T21.setTop (mkF m 69 #[.val (.long q1), .second, .val (.long q2), .second, .val (.long q3), .second, .val (.int p4), .val (.long x1), .second, .val (.long x2), .second, .val (.long x3), .second, .val (.long x4), .second, .val (.ref b5), .val (.int x27), .unset, .unset, .unset, .unset, .unset, .unset, .unset, .unset] []))
    refine Done.step (X21.ldc2Long hx hown (mvT hZ (hw _ (List.mem_of_getElem? (i := 73) rfl))) (g := (mkF m 69 #[.val (.long q1), .second, .val (.long q2), .second, .val (.long q3), .second, .val (.int p4), .val (.long x1), .second, .val (.long x2), .second, .val (.long x3), .second, .val (.long x4), .second, .val (.ref b5), .val (.int x27), .unset, .unset, .unset, .unset, .unset, .unset, .unset, .unset] [])) rfl (hb hby at_69)) ?_
    show Done p e below s _ _ _ (T21.setTop (mkF m 72 #[.val (.long q1), .second, .val (.long q2), .second, .val (.long q3), .second, .val (.int p4), .val (.long x1), .second, .val (.long x2), .second, .val (.long x3), .second, .val (.long x4), .second, .val (.ref b5), .val (.int x27), .unset, .unset, .unset, .unset, .unset, .unset, .unset, .unset] [(.long (-9223372036854775808 : Int64))]))
    refine Done.step (fun t k => XS.lload X21.here hx rfl (hb hby at_72) rfl k) ?_
    show Done p e below s _ _ _ (T21.setTop (mkF m 74 #[.val (.long q1), .second, .val (.long q2), .second, .val (.long q3), .second, .val (.int p4), .val (.long x1), .second, .val (.long x2), .second, .val (.long x3), .second, .val (.long x4), .second, .val (.ref b5), .val (.int x27), .unset, .unset, .unset, .unset, .unset, .unset, .unset, .unset] [(.long x3), (.long (-9223372036854775808 : Int64))]))
    refine Done.step (fun t k => XS.lconst X21.here hx rfl (hb hby at_74) k) ?_
    show Done p e below s _ _ _ (T21.setTop (mkF m 75 #[.val (.long q1), .second, .val (.long q2), .second, .val (.long q3), .second, .val (.int p4), .val (.long x1), .second, .val (.long x2), .second, .val (.long x3), .second, .val (.long x4), .second, .val (.ref b5), .val (.int x27), .unset, .unset, .unset, .unset, .unset, .unset, .unset, .unset] [(.long (1 : Int64)), (.long x3), (.long (-9223372036854775808 : Int64))]))
    refine Done.step (fun t k => XS.lsub X21.here hx rfl (hb hby at_75) rfl k) ?_
    show Done p e below s _ _ _ (T21.setTop (mkF m 76 #[.val (.long q1), .second, .val (.long q2), .second, .val (.long q3), .second, .val (.int p4), .val (.long x1), .second, .val (.long x2), .second, .val (.long x3), .second, .val (.long x4), .second, .val (.ref b5), .val (.int x27), .unset, .unset, .unset, .unset, .unset, .unset, .unset, .unset] [(.long (x3 - (1 : Int64))), (.long (-9223372036854775808 : Int64))]))
    refine Done.step (fun t k => XS.ladd X21.here hx rfl (hb hby at_76) rfl k) ?_
    show Done p e below s _ _ _ (T21.setTop (mkF m 77 #[.val (.long q1), .second, .val (.long q2), .second, .val (.long q3), .second, .val (.int p4), .val (.long x1), .second, .val (.long x2), .second, .val (.long x3), .second, .val (.long x4), .second, .val (.ref b5), .val (.int x27), .unset, .unset, .unset, .unset, .unset, .unset, .unset, .unset] [(.long ((-9223372036854775808 : Int64) + (x3 - (1 : Int64))))]))
    refine Done.step (fun t k => XS.lloadN X21.here hx rfl (hb hby at_77) rfl k) ?_
    show Done p e below s _ _ _ (T21.setTop (mkF m 78 #[.val (.long q1), .second, .val (.long q2), .second, .val (.long q3), .second, .val (.int p4), .val (.long x1), .second, .val (.long x2), .second, .val (.long x3), .second, .val (.long x4), .second, .val (.ref b5), .val (.int x27), .unset, .unset, .unset, .unset, .unset, .unset, .unset, .unset] [(.long q1), (.long ((-9223372036854775808 : Int64) + (x3 - (1 : Int64))))]))
    refine Done.step (X21.ldc2Long hx hown (mvT hZ (hw _ (List.mem_of_getElem? (i := 67) rfl))) (g := (mkF m 78 #[.val (.long q1), .second, .val (.long q2), .second, .val (.long q3), .second, .val (.int p4), .val (.long x1), .second, .val (.long x2), .second, .val (.long x3), .second, .val (.long x4), .second, .val (.ref b5), .val (.int x27), .unset, .unset, .unset, .unset, .unset, .unset, .unset, .unset] [(.long q1), (.long ((-9223372036854775808 : Int64) + (x3 - (1 : Int64))))])) rfl (hb hby at_78)) ?_
    show Done p e below s _ _ _ (T21.setTop (mkF m 81 #[.val (.long q1), .second, .val (.long q2), .second, .val (.long q3), .second, .val (.int p4), .val (.long x1), .second, .val (.long x2), .second, .val (.long x3), .second, .val (.long x4), .second, .val (.ref b5), .val (.int x27), .unset, .unset, .unset, .unset, .unset, .unset, .unset, .unset] [(.long (3 : Int64)), (.long q1), (.long ((-9223372036854775808 : Int64) + (x3 - (1 : Int64))))]))
    refine Done.step (fun t k => XS.land X21.here hx rfl (hb hby at_81) rfl k) ?_
    show Done p e below s _ _ _ (T21.setTop (mkF m 82 #[.val (.long q1), .second, .val (.long q2), .second, .val (.long q3), .second, .val (.int p4), .val (.long x1), .second, .val (.long x2), .second, .val (.long x3), .second, .val (.long x4), .second, .val (.ref b5), .val (.int x27), .unset, .unset, .unset, .unset, .unset, .unset, .unset, .unset] [(.long (q1 &&& (3 : Int64))), (.long ((-9223372036854775808 : Int64) + (x3 - (1 : Int64))))]))
    refine Done.step (fun t k => XS.ladd X21.here hx rfl (hb hby at_82) rfl k) ?_
    show Done p e below s _ _ _ (T21.setTop (mkF m 83 #[.val (.long q1), .second, .val (.long q2), .second, .val (.long q3), .second, .val (.int p4), .val (.long x1), .second, .val (.long x2), .second, .val (.long x3), .second, .val (.long x4), .second, .val (.ref b5), .val (.int x27), .unset, .unset, .unset, .unset, .unset, .unset, .unset, .unset] [(.long (((-9223372036854775808 : Int64) + (x3 - (1 : Int64))) + (q1 &&& (3 : Int64))))]))
    generalize dx29 : (((-9223372036854775808 : Int64) + (x3 - (1 : Int64))) + (q1 &&& (3 : Int64))) = x29
    show Done p e below s _ _ _ (T21.setTop (mkF m 83 #[.val (.long q1), .second, .val (.long q2), .second, .val (.long q3), .second, .val (.int p4), .val (.long x1), .second, .val (.long x2), .second, .val (.long x3), .second, .val (.long x4), .second, .val (.ref b5), .val (.int x27), .unset, .unset, .unset, .unset, .unset, .unset, .unset, .unset] [(.long x29)]))
    refine Done.step (fun t k => XS.lstore X21.here hx rfl (hb hby at_83) rfl (l' := #[.val (.long q1), .second, .val (.long q2), .second, .val (.long q3), .second, .val (.int p4), .val (.long x1), .second, .val (.long x2), .second, .val (.long x3), .second, .val (.long x4), .second, .val (.ref b5), .val (.int x27), .val (.long x29), .second, .unset, .unset, .unset, .unset, .unset, .unset]) rfl k) ?_
    show Done p e below s _ _ _ (T21.setTop (mkF m 85 #[.val (.long q1), .second, .val (.long q2), .second, .val (.long q3), .second, .val (.int p4), .val (.long x1), .second, .val (.long x2), .second, .val (.long x3), .second, .val (.long x4), .second, .val (.ref b5), .val (.int x27), .val (.long x29), .second, .unset, .unset, .unset, .unset, .unset, .unset] []))
    refine Done.step (fun t k => XS.goto X21.here hx rfl (pc0 := 85) (pc' := 111) rfl (hb hby at_85) (by decide) (by decide) k) ?_
    show Done p e below s _ _ _ (T21.setTop (mkF m 111 #[.val (.long q1), .second, .val (.long q2), .second, .val (.long q3), .second, .val (.int p4), .val (.long x1), .second, .val (.long x2), .second, .val (.long x3), .second, .val (.long x4), .second, .val (.ref b5), .val (.int x27), .val (.long x29), .second, .unset, .unset, .unset, .unset, .unset, .unset] []))
    refine Done.step (fun t k => XS.aload X21.here hx rfl (hb hby at_111) rfl rfl k) ?_
    show Done p e below s _ _ _ (T21.setTop (mkF m 113 #[.val (.long q1), .second, .val (.long q2), .second, .val (.long q3), .second, .val (.int p4), .val (.long x1), .second, .val (.long x2), .second, .val (.long x3), .second, .val (.long x4), .second, .val (.ref b5), .val (.int x27), .val (.long x29), .second, .unset, .unset, .unset, .unset, .unset, .unset] [(.ref b5)]))
    refine Done.step (fun t k => XS.lload X21.here hx rfl (hb hby at_113) rfl k) ?_
    show Done p e below s _ _ _ (T21.setTop (mkF m 115 #[.val (.long q1), .second, .val (.long q2), .second, .val (.long q3), .second, .val (.int p4), .val (.long x1), .second, .val (.long x2), .second, .val (.long x3), .second, .val (.long x4), .second, .val (.ref b5), .val (.int x27), .val (.long x29), .second, .unset, .unset, .unset, .unset, .unset, .unset] [(.long x29), (.ref b5)]))
    obtain ⟨cq30, kq30, q30a, q30b, q30c⟩ := isOf hZ rfl f26
    obtain ⟨v30, _, ⟨T30, L30, k30, n30⟩, -, X30, ⟨Lc30, hQ30, l30, y30, z30⟩, st30⟩ := X21.virtualBack hx (y := (⟨"weirstream/engine/WindowGeometry", "lastWindowEndingBy", "(J)J"⟩ : MethodName)) (z := (⟨"weirstream/engine/WindowGeometry", "lastWindowEndingBy", "(J)J"⟩ : MethodName)) hown (mvT hZ (hw _ (List.mem_of_getElem? (i := 68) rfl))) (mvT hZ (hw _ (List.mem_of_getElem? (i := 69) rfl))) (notFace_of_selects (args := #[]) (mvT hZ (hw _ (List.mem_of_getElem? (i := 71) rfl)))) (mvT hZ (hw _ (List.mem_of_getElem? (i := 71) rfl))) (mvT hZ (hw _ (List.mem_of_getElem? (i := 70) rfl))) (by decide) (backOf (W := 0) (rm10 l Z a0 hw [] b5 x29 (x4 / x1) T21.heap n0 Zk21 y21_0) hZ (hw _ (List.mem_of_getElem? (i := 72) rfl)) (hw _ (List.mem_of_getElem? (i := 3) rfl)) (by decide) (by decide)) q30a q30c (g := (mkF m 115 #[.val (.long q1), .second, .val (.long q2), .second, .val (.long q3), .second, .val (.int p4), .val (.long x1), .second, .val (.long x2), .second, .val (.long x3), .second, .val (.long x4), .second, .val (.ref b5), .val (.int x27), .val (.long x29), .second, .unset, .unset, .unset, .unset, .unset, .unset] [(.long x29), (.ref b5)])) rfl (by rw [hml]; rfl) (Steps.refl _) (argsL := [(.long x29)]) (rest := []) (lenOf pd_2 rfl) rfl (by show 2 * 0 + _ ≤ _; exact Nat.le_of_eq rfl) (hb hby at_115) (fun _ _ => ⟨rfl, rfl, (by decide : 1 + 0 ≤ _), (by decide : 9 + 0 ≤ _)⟩)
    dsimp only [Pt.U, Pt.locs, Pt.cells, Pt.slots] at X30 l30 y30 z30 st30 hQ30
    subst l30 y30 z30
    refine Done.far st30 ?_
    obtain ⟨rfl, N30q, e30⟩ := hQ30
    have N30 := Fr.app N21 N30q
    show Done p e below s _ _ _ (T30.setTop (mkF m 118 #[.val (.long q1), .second, .val (.long q2), .second, .val (.long q3), .second, .val (.int p4), .val (.long x1), .second, .val (.long x2), .second, .val (.long x3), .second, .val (.long x4), .second, .val (.ref b5), .val (.int x27), .val (.long x29), .second, .unset, .unset, .unset, .unset, .unset, .unset] [(.long (F10 x29 (x4 / x1)))]))
    generalize dx31 : (F10 x29 (x4 / x1)) = x31
    show Done p e below s _ _ _ (T30.setTop (mkF m 118 #[.val (.long q1), .second, .val (.long q2), .second, .val (.long q3), .second, .val (.int p4), .val (.long x1), .second, .val (.long x2), .second, .val (.long x3), .second, .val (.long x4), .second, .val (.ref b5), .val (.int x27), .val (.long x29), .second, .unset, .unset, .unset, .unset, .unset, .unset] [(.long x31)]))
    refine Done.step (fun t k => XS.lstore X30.here hx rfl (hb hby at_118) rfl (l' := #[.val (.long q1), .second, .val (.long q2), .second, .val (.long q3), .second, .val (.int p4), .val (.long x1), .second, .val (.long x2), .second, .val (.long x3), .second, .val (.long x4), .second, .val (.ref b5), .val (.int x27), .val (.long x29), .second, .val (.long x31), .second, .unset, .unset, .unset, .unset]) rfl k) ?_
    show Done p e below s _ _ _ (T30.setTop (mkF m 120 #[.val (.long q1), .second, .val (.long q2), .second, .val (.long q3), .second, .val (.int p4), .val (.long x1), .second, .val (.long x2), .second, .val (.long x3), .second, .val (.long x4), .second, .val (.ref b5), .val (.int x27), .val (.long x29), .second, .val (.long x31), .second, .unset, .unset, .unset, .unset] []))
    have hpp := own_ppw q2 x1 x2 x3 x4 dx3 dx4 hsl hqq
    rw [hpp.1] at dx31
    refine Done.step (fun t k => XS.lload X30.here hx rfl (hb hby at_120) rfl k) ?_
    show Done p e below s _ _ _ (T30.setTop (mkF m 122 #[.val (.long q1), .second, .val (.long q2), .second, .val (.long q3), .second, .val (.int p4), .val (.long x1), .second, .val (.long x2), .second, .val (.long x3), .second, .val (.long x4), .second, .val (.ref b5), .val (.int x27), .val (.long x29), .second, .val (.long x31), .second, .unset, .unset, .unset, .unset] [(.long x29)]))
    refine Done.step (fun t k => XS.lload X30.here hx rfl (hb hby at_122) rfl k) ?_
    show Done p e below s _ _ _ (T30.setTop (mkF m 124 #[.val (.long q1), .second, .val (.long q2), .second, .val (.long q3), .second, .val (.int p4), .val (.long x1), .second, .val (.long x2), .second, .val (.long x3), .second, .val (.long x4), .second, .val (.ref b5), .val (.int x27), .val (.long x29), .second, .val (.long x31), .second, .unset, .unset, .unset, .unset] [(.long x3), (.long x29)]))
    refine Done.step (fun t k => XS.lsub X30.here hx rfl (hb hby at_124) rfl k) ?_
    show Done p e below s _ _ _ (T30.setTop (mkF m 125 #[.val (.long q1), .second, .val (.long q2), .second, .val (.long q3), .second, .val (.int p4), .val (.long x1), .second, .val (.long x2), .second, .val (.long x3), .second, .val (.long x4), .second, .val (.ref b5), .val (.int x27), .val (.long x29), .second, .val (.long x31), .second, .unset, .unset, .unset, .unset] [(.long (x29 - x3))]))
    generalize dx32 : (x29 - x3) = x32
    show Done p e below s _ _ _ (T30.setTop (mkF m 125 #[.val (.long q1), .second, .val (.long q2), .second, .val (.long q3), .second, .val (.int p4), .val (.long x1), .second, .val (.long x2), .second, .val (.long x3), .second, .val (.long x4), .second, .val (.ref b5), .val (.int x27), .val (.long x29), .second, .val (.long x31), .second, .unset, .unset, .unset, .unset] [(.long x32)]))
    refine Done.step (fun t k => XS.lstore X30.here hx rfl (hb hby at_125) rfl (l' := #[.val (.long q1), .second, .val (.long q2), .second, .val (.long q3), .second, .val (.int p4), .val (.long x1), .second, .val (.long x2), .second, .val (.long x3), .second, .val (.long x4), .second, .val (.ref b5), .val (.int x27), .val (.long x29), .second, .val (.long x31), .second, .val (.long x32), .second, .unset, .unset]) rfl k) ?_
    show Done p e below s _ _ _ (T30.setTop (mkF m 127 #[.val (.long q1), .second, .val (.long q2), .second, .val (.long q3), .second, .val (.int p4), .val (.long x1), .second, .val (.long x2), .second, .val (.long x3), .second, .val (.long x4), .second, .val (.ref b5), .val (.int x27), .val (.long x29), .second, .val (.long x31), .second, .val (.long x32), .second, .unset, .unset] []))
    refine Done.step (fun t k => XS.lload X30.here hx rfl (hb hby at_127) rfl k) ?_
    show Done p e below s _ _ _ (T30.setTop (mkF m 129 #[.val (.long q1), .second, .val (.long q2), .second, .val (.long q3), .second, .val (.int p4), .val (.long x1), .second, .val (.long x2), .second, .val (.long x3), .second, .val (.long x4), .second, .val (.ref b5), .val (.int x27), .val (.long x29), .second, .val (.long x31), .second, .val (.long x32), .second, .unset, .unset] [(.long x32)]))
    refine Done.step (fun t k => XS.lload X30.here hx rfl (hb hby at_129) rfl k) ?_
    show Done p e below s _ _ _ (T30.setTop (mkF m 131 #[.val (.long q1), .second, .val (.long q2), .second, .val (.long q3), .second, .val (.int p4), .val (.long x1), .second, .val (.long x2), .second, .val (.long x3), .second, .val (.long x4), .second, .val (.ref b5), .val (.int x27), .val (.long x29), .second, .val (.long x31), .second, .val (.long x32), .second, .unset, .unset] [(.long x29), (.long x32)]))
    refine Done.step (fun t k => XS.lcmp X30.here hx rfl (hb hby at_131) rfl k) ?_
    show Done p e below s _ _ _ (T30.setTop (mkF m 132 #[.val (.long q1), .second, .val (.long q2), .second, .val (.long q3), .second, .val (.int p4), .val (.long x1), .second, .val (.long x2), .second, .val (.long x3), .second, .val (.long x4), .second, .val (.ref b5), .val (.int x27), .val (.long x29), .second, .val (.long x31), .second, .val (.long x32), .second, .unset, .unset] [(.int (lcmpW x32 x29))]))
    by_cases c33 : x29 < x32
    · refine Done.step (fun t k => XS.ifYes X30.here hx rfl (pc0 := 132) (pc' := 140) rfl (hb hby at_132) rfl ((if0 _ _).trans (tlt ((lw_gt _ _).mpr c33)).2.2.1) (by decide) (by decide) k) ?_
      show Done p e below s _ _ _ (T30.setTop (mkF m 140 #[.val (.long q1), .second, .val (.long q2), .second, .val (.long q3), .second, .val (.int p4), .val (.long x1), .second, .val (.long x2), .second, .val (.long x3), .second, .val (.long x4), .second, .val (.ref b5), .val (.int x27), .val (.long x29), .second, .val (.long x31), .second, .val (.long x32), .second, .unset, .unset] []))
      refine Done.step (X30.ldc2Long hx hown (mvT hZ (hw _ (List.mem_of_getElem? (i := 73) rfl))) (g := (mkF m 140 #[.val (.long q1), .second, .val (.long q2), .second, .val (.long q3), .second, .val (.int p4), .val (.long x1), .second, .val (.long x2), .second, .val (.long x3), .second, .val (.long x4), .second, .val (.ref b5), .val (.int x27), .val (.long x29), .second, .val (.long x31), .second, .val (.long x32), .second, .unset, .unset] [])) rfl (hb hby at_140)) ?_
      show Done p e below s _ _ _ (T30.setTop (mkF m 143 #[.val (.long q1), .second, .val (.long q2), .second, .val (.long q3), .second, .val (.int p4), .val (.long x1), .second, .val (.long x2), .second, .val (.long x3), .second, .val (.long x4), .second, .val (.ref b5), .val (.int x27), .val (.long x29), .second, .val (.long x31), .second, .val (.long x32), .second, .unset, .unset] [(.long (-9223372036854775808 : Int64))]))
      refine Done.step (fun t k => XS.lstore X30.here hx rfl (hb hby at_143) rfl (l' := #[.val (.long q1), .second, .val (.long q2), .second, .val (.long q3), .second, .val (.int p4), .val (.long x1), .second, .val (.long x2), .second, .val (.long x3), .second, .val (.long x4), .second, .val (.ref b5), .val (.int x27), .val (.long x29), .second, .val (.long x31), .second, .val (.long x32), .second, .val (.long (-9223372036854775808 : Int64)), .second]) rfl k) ?_
      show Done p e below s _ _ _ (T30.setTop (mkF m 145 #[.val (.long q1), .second, .val (.long q2), .second, .val (.long q3), .second, .val (.int p4), .val (.long x1), .second, .val (.long x2), .second, .val (.long x3), .second, .val (.long x4), .second, .val (.ref b5), .val (.int x27), .val (.long x29), .second, .val (.long x31), .second, .val (.long x32), .second, .val (.long (-9223372036854775808 : Int64)), .second] []))
      refine Done.step (fun t k => XS.lload X30.here hx rfl (hb hby at_145) rfl k) ?_
      show Done p e below s _ _ _ (T30.setTop (mkF m 147 #[.val (.long q1), .second, .val (.long q2), .second, .val (.long q3), .second, .val (.int p4), .val (.long x1), .second, .val (.long x2), .second, .val (.long x3), .second, .val (.long x4), .second, .val (.ref b5), .val (.int x27), .val (.long x29), .second, .val (.long x31), .second, .val (.long x32), .second, .val (.long (-9223372036854775808 : Int64)), .second] [(.long x31)]))
      refine Done.step (fun t k => XS.lload X30.here hx rfl (hb hby at_147) rfl k) ?_
      show Done p e below s _ _ _ (T30.setTop (mkF m 149 #[.val (.long q1), .second, .val (.long q2), .second, .val (.long q3), .second, .val (.int p4), .val (.long x1), .second, .val (.long x2), .second, .val (.long x3), .second, .val (.long x4), .second, .val (.ref b5), .val (.int x27), .val (.long x29), .second, .val (.long x31), .second, .val (.long x32), .second, .val (.long (-9223372036854775808 : Int64)), .second] [(.long (-9223372036854775808 : Int64)), (.long x31)]))
      refine Done.step (fun t k => XS.lcmp X30.here hx rfl (hb hby at_149) rfl k) ?_
      show Done p e below s _ _ _ (T30.setTop (mkF m 150 #[.val (.long q1), .second, .val (.long q2), .second, .val (.long q3), .second, .val (.int p4), .val (.long x1), .second, .val (.long x2), .second, .val (.long x3), .second, .val (.long x4), .second, .val (.ref b5), .val (.int x27), .val (.long x29), .second, .val (.long x31), .second, .val (.long x32), .second, .val (.long (-9223372036854775808 : Int64)), .second] [(.int (lcmpW x31 (-9223372036854775808 : Int64)))]))
      refine Done.step (fun t k => XS.ifNo X30.here hx rfl (hb hby at_150) rfl ((if0 _ _).trans (teq ((lw_eq _ _).mpr ((own_fin x29 x3 x31 x32 hpp.2 dx31 dx32).2 c33))).2) k) ?_
      show Done p e below s _ _ _ (T30.setTop (mkF m 153 #[.val (.long q1), .second, .val (.long q2), .second, .val (.long q3), .second, .val (.int p4), .val (.long x1), .second, .val (.long x2), .second, .val (.long x3), .second, .val (.long x4), .second, .val (.ref b5), .val (.int x27), .val (.long x29), .second, .val (.long x31), .second, .val (.long x32), .second, .val (.long (-9223372036854775808 : Int64)), .second] []))
      refine Done.step (fun t k => XS.iconst X30.here hx rfl (hb hby at_153) k) ?_
      show Done p e below s _ _ _ (T30.setTop (mkF m 154 #[.val (.long q1), .second, .val (.long q2), .second, .val (.long q3), .second, .val (.int p4), .val (.long x1), .second, .val (.long x2), .second, .val (.long x3), .second, .val (.long x4), .second, .val (.ref b5), .val (.int x27), .val (.long x29), .second, .val (.long x31), .second, .val (.long x32), .second, .val (.long (-9223372036854775808 : Int64)), .second] [(.int (1 : Int32))]))
      refine Done.step (fun t k => XS.goto X30.here hx rfl (pc0 := 154) (pc' := 158) rfl (hb hby at_154) (by decide) (by decide) k) ?_
      show Done p e below s _ _ _ (T30.setTop (mkF m 158 #[.val (.long q1), .second, .val (.long q2), .second, .val (.long q3), .second, .val (.int p4), .val (.long x1), .second, .val (.long x2), .second, .val (.long x3), .second, .val (.long x4), .second, .val (.ref b5), .val (.int x27), .val (.long x29), .second, .val (.long x31), .second, .val (.long x32), .second, .val (.long (-9223372036854775808 : Int64)), .second] [(.int (1 : Int32))]))
      exact Done.narr X30 hx hlk hret (by simp) (hb hby at_158) (by decide) (by decide) ⟨rfl, N30⟩
    · refine Done.step (fun t k => XS.ifNo X30.here hx rfl (hb hby at_132) rfl ((if0 _ _).trans (flt (fun q_ => c33 ((lw_gt _ _).mp q_))).2.2.1) k) ?_
      show Done p e below s _ _ _ (T30.setTop (mkF m 135 #[.val (.long q1), .second, .val (.long q2), .second, .val (.long q3), .second, .val (.int p4), .val (.long x1), .second, .val (.long x2), .second, .val (.long x3), .second, .val (.long x4), .second, .val (.ref b5), .val (.int x27), .val (.long x29), .second, .val (.long x31), .second, .val (.long x32), .second, .unset, .unset] []))
      refine Done.step (fun t k => XS.lload X30.here hx rfl (hb hby at_135) rfl k) ?_
      show Done p e below s _ _ _ (T30.setTop (mkF m 137 #[.val (.long q1), .second, .val (.long q2), .second, .val (.long q3), .second, .val (.int p4), .val (.long x1), .second, .val (.long x2), .second, .val (.long x3), .second, .val (.long x4), .second, .val (.ref b5), .val (.int x27), .val (.long x29), .second, .val (.long x31), .second, .val (.long x32), .second, .unset, .unset] [(.long x32)]))
      refine Done.step (fun t k => XS.goto X30.here hx rfl (pc0 := 137) (pc' := 143) rfl (hb hby at_137) (by decide) (by decide) k) ?_
      show Done p e below s _ _ _ (T30.setTop (mkF m 143 #[.val (.long q1), .second, .val (.long q2), .second, .val (.long q3), .second, .val (.int p4), .val (.long x1), .second, .val (.long x2), .second, .val (.long x3), .second, .val (.long x4), .second, .val (.ref b5), .val (.int x27), .val (.long x29), .second, .val (.long x31), .second, .val (.long x32), .second, .unset, .unset] [(.long x32)]))
      refine Done.step (fun t k => XS.lstore X30.here hx rfl (hb hby at_143) rfl (l' := #[.val (.long q1), .second, .val (.long q2), .second, .val (.long q3), .second, .val (.int p4), .val (.long x1), .second, .val (.long x2), .second, .val (.long x3), .second, .val (.long x4), .second, .val (.ref b5), .val (.int x27), .val (.long x29), .second, .val (.long x31), .second, .val (.long x32), .second, .val (.long x32), .second]) rfl k) ?_
      show Done p e below s _ _ _ (T30.setTop (mkF m 145 #[.val (.long q1), .second, .val (.long q2), .second, .val (.long q3), .second, .val (.int p4), .val (.long x1), .second, .val (.long x2), .second, .val (.long x3), .second, .val (.long x4), .second, .val (.ref b5), .val (.int x27), .val (.long x29), .second, .val (.long x31), .second, .val (.long x32), .second, .val (.long x32), .second] []))
      refine Done.step (fun t k => XS.lload X30.here hx rfl (hb hby at_145) rfl k) ?_
      show Done p e below s _ _ _ (T30.setTop (mkF m 147 #[.val (.long q1), .second, .val (.long q2), .second, .val (.long q3), .second, .val (.int p4), .val (.long x1), .second, .val (.long x2), .second, .val (.long x3), .second, .val (.long x4), .second, .val (.ref b5), .val (.int x27), .val (.long x29), .second, .val (.long x31), .second, .val (.long x32), .second, .val (.long x32), .second] [(.long x31)]))
      refine Done.step (fun t k => XS.lload X30.here hx rfl (hb hby at_147) rfl k) ?_
      show Done p e below s _ _ _ (T30.setTop (mkF m 149 #[.val (.long q1), .second, .val (.long q2), .second, .val (.long q3), .second, .val (.int p4), .val (.long x1), .second, .val (.long x2), .second, .val (.long x3), .second, .val (.long x4), .second, .val (.ref b5), .val (.int x27), .val (.long x29), .second, .val (.long x31), .second, .val (.long x32), .second, .val (.long x32), .second] [(.long x32), (.long x31)]))
      refine Done.step (fun t k => XS.lcmp X30.here hx rfl (hb hby at_149) rfl k) ?_
      show Done p e below s _ _ _ (T30.setTop (mkF m 150 #[.val (.long q1), .second, .val (.long q2), .second, .val (.long q3), .second, .val (.int p4), .val (.long x1), .second, .val (.long x2), .second, .val (.long x3), .second, .val (.long x4), .second, .val (.ref b5), .val (.int x27), .val (.long x29), .second, .val (.long x31), .second, .val (.long x32), .second, .val (.long x32), .second] [(.int (lcmpW x31 x32))]))
      refine Done.step (fun t k => XS.ifNo X30.here hx rfl (hb hby at_150) rfl ((if0 _ _).trans (teq ((lw_eq _ _).mpr ((own_fin x29 x3 x31 x32 hpp.2 dx31 dx32).1 c33))).2) k) ?_
      show Done p e below s _ _ _ (T30.setTop (mkF m 153 #[.val (.long q1), .second, .val (.long q2), .second, .val (.long q3), .second, .val (.int p4), .val (.long x1), .second, .val (.long x2), .second, .val (.long x3), .second, .val (.long x4), .second, .val (.ref b5), .val (.int x27), .val (.long x29), .second, .val (.long x31), .second, .val (.long x32), .second, .val (.long x32), .second] []))
      refine Done.step (fun t k => XS.iconst X30.here hx rfl (hb hby at_153) k) ?_
      show Done p e below s _ _ _ (T30.setTop (mkF m 154 #[.val (.long q1), .second, .val (.long q2), .second, .val (.long q3), .second, .val (.int p4), .val (.long x1), .second, .val (.long x2), .second, .val (.long x3), .second, .val (.long x4), .second, .val (.ref b5), .val (.int x27), .val (.long x29), .second, .val (.long x31), .second, .val (.long x32), .second, .val (.long x32), .second] [(.int (1 : Int32))]))
      refine Done.step (fun t k => XS.goto X30.here hx rfl (pc0 := 154) (pc' := 158) rfl (hb hby at_154) (by decide) (by decide) k) ?_
      show Done p e below s _ _ _ (T30.setTop (mkF m 158 #[.val (.long q1), .second, .val (.long q2), .second, .val (.long q3), .second, .val (.int p4), .val (.long x1), .second, .val (.long x2), .second, .val (.long x3), .second, .val (.long x4), .second, .val (.ref b5), .val (.int x27), .val (.long x29), .second, .val (.long x31), .second, .val (.long x32), .second, .val (.long x32), .second] [(.int (1 : Int32))]))
      exact Done.narr X30 hx hlk hret (by simp) (hb hby at_158) (by decide) (by decide) ⟨rfl, N30⟩
  · refine Done.step (fun t k => XS.icmpYes X21.here hx rfl (pc0 := 66) (pc' := 88) rfl (hb hby at_66) rfl (feq c28).2 (by decide) (by decide) k) ?_
    show Done p e below s _ _ _ (T21.setTop (mkF m 88 #[.val (.long q1), .second, .val (.long q2), .second, .val (.long q3), .second, .val (.int p4), .val (.long x1), .second, .val (.long x2), .second, .val (.long x3), .second, .val (.long x4), .second, .val (.ref b5), .val (.int x27), .unset, .unset, .unset, .unset, .unset, .unset, .unset, .unset] []))
    refine Done.step (fun t k => XS.iload X21.here hx rfl (hb hby at_88) rfl k) ?_
    show Done p e below s _ _ _ (T21.setTop (mkF m 90 #[.val (.long q1), .second, .val (.long q2), .second, .val (.long q3), .second, .val (.int p4), .val (.long x1), .second, .val (.long x2), .second, .val (.long x3), .second, .val (.long x4), .second, .val (.ref b5), .val (.int x27), .unset, .unset, .unset, .unset, .unset, .unset, .unset, .unset] [(.int x27)]))
    refine Done.step (fun t k => XS.iconst X21.here hx rfl (hb hby at_90) k) ?_
    show Done p e below s _ _ _ (T21.setTop (mkF m 91 #[.val (.long q1), .second, .val (.long q2), .second, .val (.long q3), .second, .val (.int p4), .val (.long x1), .second, .val (.long x2), .second, .val (.long x3), .second, .val (.long x4), .second, .val (.ref b5), .val (.int x27), .unset, .unset, .unset, .unset, .unset, .unset, .unset, .unset] [(.int (2 : Int32)), (.int x27)]))
    by_cases c34 : x27 = (2 : Int32)
    · refine Done.step (fun t k => XS.icmpNo X21.here hx rfl (hb hby at_91) rfl (teq c34).2 k) ?_
      show Done p e below s _ _ _ (T21.setTop (mkF m 94 #[.val (.long q1), .second, .val (.long q2), .second, .val (.long q3), .second, .val (.int p4), .val (.long x1), .second, .val (.long x2), .second, .val (.long x3), .second, .val (.long x4), .second, .val (.ref b5), .val (.int x27), .unset, .unset, .unset, .unset, .unset, .unset, .unset, .unset] []))
      refine Done.step (X21.ldc2Long hx hown (mvT hZ (hw _ (List.mem_of_getElem? (i := 0) rfl))) (g := (mkF m 94 #[.val (.long q1), .second, .val (.long q2), .second, .val (.long q3), .second, .val (.int p4), .val (.long x1), .second, .val (.long x2), .second, .val (.long x3), .second, .val (.long x4), .second, .val (.ref b5), .val (.int x27), .unset, .unset, .unset, .unset, .unset, .unset, .unset, .unset] [])) rfl (hb hby at_94)) ?_
      show Done p e below s _ _ _ (T21.setTop (mkF m 97 #[.val (.long q1), .second, .val (.long q2), .second, .val (.long q3), .second, .val (.int p4), .val (.long x1), .second, .val (.long x2), .second, .val (.long x3), .second, .val (.long x4), .second, .val (.ref b5), .val (.int x27), .unset, .unset, .unset, .unset, .unset, .unset, .unset, .unset] [(.long (9223372036854775807 : Int64))]))
      refine Done.step (fun t k => XS.lloadN X21.here hx rfl (hb hby at_97) rfl k) ?_
      show Done p e below s _ _ _ (T21.setTop (mkF m 98 #[.val (.long q1), .second, .val (.long q2), .second, .val (.long q3), .second, .val (.int p4), .val (.long x1), .second, .val (.long x2), .second, .val (.long x3), .second, .val (.long x4), .second, .val (.ref b5), .val (.int x27), .unset, .unset, .unset, .unset, .unset, .unset, .unset, .unset] [(.long q1), (.long (9223372036854775807 : Int64))]))
      refine Done.step (X21.ldc2Long hx hown (mvT hZ (hw _ (List.mem_of_getElem? (i := 67) rfl))) (g := (mkF m 98 #[.val (.long q1), .second, .val (.long q2), .second, .val (.long q3), .second, .val (.int p4), .val (.long x1), .second, .val (.long x2), .second, .val (.long x3), .second, .val (.long x4), .second, .val (.ref b5), .val (.int x27), .unset, .unset, .unset, .unset, .unset, .unset, .unset, .unset] [(.long q1), (.long (9223372036854775807 : Int64))])) rfl (hb hby at_98)) ?_
      show Done p e below s _ _ _ (T21.setTop (mkF m 101 #[.val (.long q1), .second, .val (.long q2), .second, .val (.long q3), .second, .val (.int p4), .val (.long x1), .second, .val (.long x2), .second, .val (.long x3), .second, .val (.long x4), .second, .val (.ref b5), .val (.int x27), .unset, .unset, .unset, .unset, .unset, .unset, .unset, .unset] [(.long (3 : Int64)), (.long q1), (.long (9223372036854775807 : Int64))]))
      refine Done.step (fun t k => XS.land X21.here hx rfl (hb hby at_101) rfl k) ?_
      show Done p e below s _ _ _ (T21.setTop (mkF m 102 #[.val (.long q1), .second, .val (.long q2), .second, .val (.long q3), .second, .val (.int p4), .val (.long x1), .second, .val (.long x2), .second, .val (.long x3), .second, .val (.long x4), .second, .val (.ref b5), .val (.int x27), .unset, .unset, .unset, .unset, .unset, .unset, .unset, .unset] [(.long (q1 &&& (3 : Int64))), (.long (9223372036854775807 : Int64))]))
      refine Done.step (fun t k => XS.lsub X21.here hx rfl (hb hby at_102) rfl k) ?_
      show Done p e below s _ _ _ (T21.setTop (mkF m 103 #[.val (.long q1), .second, .val (.long q2), .second, .val (.long q3), .second, .val (.int p4), .val (.long x1), .second, .val (.long x2), .second, .val (.long x3), .second, .val (.long x4), .second, .val (.ref b5), .val (.int x27), .unset, .unset, .unset, .unset, .unset, .unset, .unset, .unset] [(.long ((9223372036854775807 : Int64) - (q1 &&& (3 : Int64))))]))
      generalize dx35 : ((9223372036854775807 : Int64) - (q1 &&& (3 : Int64))) = x35
      show Done p e below s _ _ _ (T21.setTop (mkF m 103 #[.val (.long q1), .second, .val (.long q2), .second, .val (.long q3), .second, .val (.int p4), .val (.long x1), .second, .val (.long x2), .second, .val (.long x3), .second, .val (.long x4), .second, .val (.ref b5), .val (.int x27), .unset, .unset, .unset, .unset, .unset, .unset, .unset, .unset] [(.long x35)]))
      refine Done.step (fun t k => XS.lstore X21.here hx rfl (hb hby at_103) rfl (l' := #[.val (.long q1), .second, .val (.long q2), .second, .val (.long q3), .second, .val (.int p4), .val (.long x1), .second, .val (.long x2), .second, .val (.long x3), .second, .val (.long x4), .second, .val (.ref b5), .val (.int x27), .val (.long x35), .second, .unset, .unset, .unset, .unset, .unset, .unset]) rfl k) ?_
      show Done p e below s _ _ _ (T21.setTop (mkF m 105 #[.val (.long q1), .second, .val (.long q2), .second, .val (.long q3), .second, .val (.int p4), .val (.long x1), .second, .val (.long x2), .second, .val (.long x3), .second, .val (.long x4), .second, .val (.ref b5), .val (.int x27), .val (.long x35), .second, .unset, .unset, .unset, .unset, .unset, .unset] []))
      refine Done.step (fun t k => XS.goto X21.here hx rfl (pc0 := 105) (pc' := 111) rfl (hb hby at_105) (by decide) (by decide) k) ?_
      show Done p e below s _ _ _ (T21.setTop (mkF m 111 #[.val (.long q1), .second, .val (.long q2), .second, .val (.long q3), .second, .val (.int p4), .val (.long x1), .second, .val (.long x2), .second, .val (.long x3), .second, .val (.long x4), .second, .val (.ref b5), .val (.int x27), .val (.long x35), .second, .unset, .unset, .unset, .unset, .unset, .unset] []))
      refine Done.step (fun t k => XS.aload X21.here hx rfl (hb hby at_111) rfl rfl k) ?_
      show Done p e below s _ _ _ (T21.setTop (mkF m 113 #[.val (.long q1), .second, .val (.long q2), .second, .val (.long q3), .second, .val (.int p4), .val (.long x1), .second, .val (.long x2), .second, .val (.long x3), .second, .val (.long x4), .second, .val (.ref b5), .val (.int x27), .val (.long x35), .second, .unset, .unset, .unset, .unset, .unset, .unset] [(.ref b5)]))
      refine Done.step (fun t k => XS.lload X21.here hx rfl (hb hby at_113) rfl k) ?_
      show Done p e below s _ _ _ (T21.setTop (mkF m 115 #[.val (.long q1), .second, .val (.long q2), .second, .val (.long q3), .second, .val (.int p4), .val (.long x1), .second, .val (.long x2), .second, .val (.long x3), .second, .val (.long x4), .second, .val (.ref b5), .val (.int x27), .val (.long x35), .second, .unset, .unset, .unset, .unset, .unset, .unset] [(.long x35), (.ref b5)]))
      obtain ⟨cq36, kq36, q36a, q36b, q36c⟩ := isOf hZ rfl f26
      obtain ⟨v36, _, ⟨T36, L36, k36, n36⟩, -, X36, ⟨Lc36, hQ36, l36, y36, z36⟩, st36⟩ := X21.virtualBack hx (y := (⟨"weirstream/engine/WindowGeometry", "lastWindowEndingBy", "(J)J"⟩ : MethodName)) (z := (⟨"weirstream/engine/WindowGeometry", "lastWindowEndingBy", "(J)J"⟩ : MethodName)) hown (mvT hZ (hw _ (List.mem_of_getElem? (i := 68) rfl))) (mvT hZ (hw _ (List.mem_of_getElem? (i := 69) rfl))) (notFace_of_selects (args := #[]) (mvT hZ (hw _ (List.mem_of_getElem? (i := 71) rfl)))) (mvT hZ (hw _ (List.mem_of_getElem? (i := 71) rfl))) (mvT hZ (hw _ (List.mem_of_getElem? (i := 70) rfl))) (by decide) (backOf (W := 0) (rm10 l Z a0 hw [] b5 x35 (x4 / x1) T21.heap n0 Zk21 y21_0) hZ (hw _ (List.mem_of_getElem? (i := 72) rfl)) (hw _ (List.mem_of_getElem? (i := 3) rfl)) (by decide) (by decide)) q36a q36c (g := (mkF m 115 #[.val (.long q1), .second, .val (.long q2), .second, .val (.long q3), .second, .val (.int p4), .val (.long x1), .second, .val (.long x2), .second, .val (.long x3), .second, .val (.long x4), .second, .val (.ref b5), .val (.int x27), .val (.long x35), .second, .unset, .unset, .unset, .unset, .unset, .unset] [(.long x35), (.ref b5)])) rfl (by rw [hml]; rfl) (Steps.refl _) (argsL := [(.long x35)]) (rest := []) (lenOf pd_2 rfl) rfl (by show 2 * 0 + _ ≤ _; exact Nat.le_of_eq rfl) (hb hby at_115) (fun _ _ => ⟨rfl, rfl, (by decide : 1 + 0 ≤ _), (by decide : 9 + 0 ≤ _)⟩)
      dsimp only [Pt.U, Pt.locs, Pt.cells, Pt.slots] at X36 l36 y36 z36 st36 hQ36
      subst l36 y36 z36
      refine Done.far st36 ?_
      obtain ⟨rfl, N36q, e36⟩ := hQ36
      have N36 := Fr.app N21 N36q
      show Done p e below s _ _ _ (T36.setTop (mkF m 118 #[.val (.long q1), .second, .val (.long q2), .second, .val (.long q3), .second, .val (.int p4), .val (.long x1), .second, .val (.long x2), .second, .val (.long x3), .second, .val (.long x4), .second, .val (.ref b5), .val (.int x27), .val (.long x35), .second, .unset, .unset, .unset, .unset, .unset, .unset] [(.long (F10 x35 (x4 / x1)))]))
      generalize dx37 : (F10 x35 (x4 / x1)) = x37
      show Done p e below s _ _ _ (T36.setTop (mkF m 118 #[.val (.long q1), .second, .val (.long q2), .second, .val (.long q3), .second, .val (.int p4), .val (.long x1), .second, .val (.long x2), .second, .val (.long x3), .second, .val (.long x4), .second, .val (.ref b5), .val (.int x27), .val (.long x35), .second, .unset, .unset, .unset, .unset, .unset, .unset] [(.long x37)]))
      refine Done.step (fun t k => XS.lstore X36.here hx rfl (hb hby at_118) rfl (l' := #[.val (.long q1), .second, .val (.long q2), .second, .val (.long q3), .second, .val (.int p4), .val (.long x1), .second, .val (.long x2), .second, .val (.long x3), .second, .val (.long x4), .second, .val (.ref b5), .val (.int x27), .val (.long x35), .second, .val (.long x37), .second, .unset, .unset, .unset, .unset]) rfl k) ?_
      show Done p e below s _ _ _ (T36.setTop (mkF m 120 #[.val (.long q1), .second, .val (.long q2), .second, .val (.long q3), .second, .val (.int p4), .val (.long x1), .second, .val (.long x2), .second, .val (.long x3), .second, .val (.long x4), .second, .val (.ref b5), .val (.int x27), .val (.long x35), .second, .val (.long x37), .second, .unset, .unset, .unset, .unset] []))
      have hpp := own_ppw q2 x1 x2 x3 x4 dx3 dx4 hsl hqq
      rw [hpp.1] at dx37
      refine Done.step (fun t k => XS.lload X36.here hx rfl (hb hby at_120) rfl k) ?_
      show Done p e below s _ _ _ (T36.setTop (mkF m 122 #[.val (.long q1), .second, .val (.long q2), .second, .val (.long q3), .second, .val (.int p4), .val (.long x1), .second, .val (.long x2), .second, .val (.long x3), .second, .val (.long x4), .second, .val (.ref b5), .val (.int x27), .val (.long x35), .second, .val (.long x37), .second, .unset, .unset, .unset, .unset] [(.long x35)]))
      refine Done.step (fun t k => XS.lload X36.here hx rfl (hb hby at_122) rfl k) ?_
      show Done p e below s _ _ _ (T36.setTop (mkF m 124 #[.val (.long q1), .second, .val (.long q2), .second, .val (.long q3), .second, .val (.int p4), .val (.long x1), .second, .val (.long x2), .second, .val (.long x3), .second, .val (.long x4), .second, .val (.ref b5), .val (.int x27), .val (.long x35), .second, .val (.long x37), .second, .unset, .unset, .unset, .unset] [(.long x3), (.long x35)]))
      refine Done.step (fun t k => XS.lsub X36.here hx rfl (hb hby at_124) rfl k) ?_
      show Done p e below s _ _ _ (T36.setTop (mkF m 125 #[.val (.long q1), .second, .val (.long q2), .second, .val (.long q3), .second, .val (.int p4), .val (.long x1), .second, .val (.long x2), .second, .val (.long x3), .second, .val (.long x4), .second, .val (.ref b5), .val (.int x27), .val (.long x35), .second, .val (.long x37), .second, .unset, .unset, .unset, .unset] [(.long (x35 - x3))]))
      generalize dx38 : (x35 - x3) = x38
      show Done p e below s _ _ _ (T36.setTop (mkF m 125 #[.val (.long q1), .second, .val (.long q2), .second, .val (.long q3), .second, .val (.int p4), .val (.long x1), .second, .val (.long x2), .second, .val (.long x3), .second, .val (.long x4), .second, .val (.ref b5), .val (.int x27), .val (.long x35), .second, .val (.long x37), .second, .unset, .unset, .unset, .unset] [(.long x38)]))
      refine Done.step (fun t k => XS.lstore X36.here hx rfl (hb hby at_125) rfl (l' := #[.val (.long q1), .second, .val (.long q2), .second, .val (.long q3), .second, .val (.int p4), .val (.long x1), .second, .val (.long x2), .second, .val (.long x3), .second, .val (.long x4), .second, .val (.ref b5), .val (.int x27), .val (.long x35), .second, .val (.long x37), .second, .val (.long x38), .second, .unset, .unset]) rfl k) ?_
      show Done p e below s _ _ _ (T36.setTop (mkF m 127 #[.val (.long q1), .second, .val (.long q2), .second, .val (.long q3), .second, .val (.int p4), .val (.long x1), .second, .val (.long x2), .second, .val (.long x3), .second, .val (.long x4), .second, .val (.ref b5), .val (.int x27), .val (.long x35), .second, .val (.long x37), .second, .val (.long x38), .second, .unset, .unset] []))
      refine Done.step (fun t k => XS.lload X36.here hx rfl (hb hby at_127) rfl k) ?_
      show Done p e below s _ _ _ (T36.setTop (mkF m 129 #[.val (.long q1), .second, .val (.long q2), .second, .val (.long q3), .second, .val (.int p4), .val (.long x1), .second, .val (.long x2), .second, .val (.long x3), .second, .val (.long x4), .second, .val (.ref b5), .val (.int x27), .val (.long x35), .second, .val (.long x37), .second, .val (.long x38), .second, .unset, .unset] [(.long x38)]))
      refine Done.step (fun t k => XS.lload X36.here hx rfl (hb hby at_129) rfl k) ?_
      show Done p e below s _ _ _ (T36.setTop (mkF m 131 #[.val (.long q1), .second, .val (.long q2), .second, .val (.long q3), .second, .val (.int p4), .val (.long x1), .second, .val (.long x2), .second, .val (.long x3), .second, .val (.long x4), .second, .val (.ref b5), .val (.int x27), .val (.long x35), .second, .val (.long x37), .second, .val (.long x38), .second, .unset, .unset] [(.long x35), (.long x38)]))
      refine Done.step (fun t k => XS.lcmp X36.here hx rfl (hb hby at_131) rfl k) ?_
      show Done p e below s _ _ _ (T36.setTop (mkF m 132 #[.val (.long q1), .second, .val (.long q2), .second, .val (.long q3), .second, .val (.int p4), .val (.long x1), .second, .val (.long x2), .second, .val (.long x3), .second, .val (.long x4), .second, .val (.ref b5), .val (.int x27), .val (.long x35), .second, .val (.long x37), .second, .val (.long x38), .second, .unset, .unset] [(.int (lcmpW x38 x35))]))
      by_cases c39 : x35 < x38
      · refine Done.step (fun t k => XS.ifYes X36.here hx rfl (pc0 := 132) (pc' := 140) rfl (hb hby at_132) rfl ((if0 _ _).trans (tlt ((lw_gt _ _).mpr c39)).2.2.1) (by decide) (by decide) k) ?_
        show Done p e below s _ _ _ (T36.setTop (mkF m 140 #[.val (.long q1), .second, .val (.long q2), .second, .val (.long q3), .second, .val (.int p4), .val (.long x1), .second, .val (.long x2), .second, .val (.long x3), .second, .val (.long x4), .second, .val (.ref b5), .val (.int x27), .val (.long x35), .second, .val (.long x37), .second, .val (.long x38), .second, .unset, .unset] []))
        refine Done.step (X36.ldc2Long hx hown (mvT hZ (hw _ (List.mem_of_getElem? (i := 73) rfl))) (g := (mkF m 140 #[.val (.long q1), .second, .val (.long q2), .second, .val (.long q3), .second, .val (.int p4), .val (.long x1), .second, .val (.long x2), .second, .val (.long x3), .second, .val (.long x4), .second, .val (.ref b5), .val (.int x27), .val (.long x35), .second, .val (.long x37), .second, .val (.long x38), .second, .unset, .unset] [])) rfl (hb hby at_140)) ?_
        show Done p e below s _ _ _ (T36.setTop (mkF m 143 #[.val (.long q1), .second, .val (.long q2), .second, .val (.long q3), .second, .val (.int p4), .val (.long x1), .second, .val (.long x2), .second, .val (.long x3), .second, .val (.long x4), .second, .val (.ref b5), .val (.int x27), .val (.long x35), .second, .val (.long x37), .second, .val (.long x38), .second, .unset, .unset] [(.long (-9223372036854775808 : Int64))]))
        refine Done.step (fun t k => XS.lstore X36.here hx rfl (hb hby at_143) rfl (l' := #[.val (.long q1), .second, .val (.long q2), .second, .val (.long q3), .second, .val (.int p4), .val (.long x1), .second, .val (.long x2), .second, .val (.long x3), .second, .val (.long x4), .second, .val (.ref b5), .val (.int x27), .val (.long x35), .second, .val (.long x37), .second, .val (.long x38), .second, .val (.long (-9223372036854775808 : Int64)), .second]) rfl k) ?_
        show Done p e below s _ _ _ (T36.setTop (mkF m 145 #[.val (.long q1), .second, .val (.long q2), .second, .val (.long q3), .second, .val (.int p4), .val (.long x1), .second, .val (.long x2), .second, .val (.long x3), .second, .val (.long x4), .second, .val (.ref b5), .val (.int x27), .val (.long x35), .second, .val (.long x37), .second, .val (.long x38), .second, .val (.long (-9223372036854775808 : Int64)), .second] []))
        refine Done.step (fun t k => XS.lload X36.here hx rfl (hb hby at_145) rfl k) ?_
        show Done p e below s _ _ _ (T36.setTop (mkF m 147 #[.val (.long q1), .second, .val (.long q2), .second, .val (.long q3), .second, .val (.int p4), .val (.long x1), .second, .val (.long x2), .second, .val (.long x3), .second, .val (.long x4), .second, .val (.ref b5), .val (.int x27), .val (.long x35), .second, .val (.long x37), .second, .val (.long x38), .second, .val (.long (-9223372036854775808 : Int64)), .second] [(.long x37)]))
        refine Done.step (fun t k => XS.lload X36.here hx rfl (hb hby at_147) rfl k) ?_
        show Done p e below s _ _ _ (T36.setTop (mkF m 149 #[.val (.long q1), .second, .val (.long q2), .second, .val (.long q3), .second, .val (.int p4), .val (.long x1), .second, .val (.long x2), .second, .val (.long x3), .second, .val (.long x4), .second, .val (.ref b5), .val (.int x27), .val (.long x35), .second, .val (.long x37), .second, .val (.long x38), .second, .val (.long (-9223372036854775808 : Int64)), .second] [(.long (-9223372036854775808 : Int64)), (.long x37)]))
        refine Done.step (fun t k => XS.lcmp X36.here hx rfl (hb hby at_149) rfl k) ?_
        show Done p e below s _ _ _ (T36.setTop (mkF m 150 #[.val (.long q1), .second, .val (.long q2), .second, .val (.long q3), .second, .val (.int p4), .val (.long x1), .second, .val (.long x2), .second, .val (.long x3), .second, .val (.long x4), .second, .val (.ref b5), .val (.int x27), .val (.long x35), .second, .val (.long x37), .second, .val (.long x38), .second, .val (.long (-9223372036854775808 : Int64)), .second] [(.int (lcmpW x37 (-9223372036854775808 : Int64)))]))
        refine Done.step (fun t k => XS.ifNo X36.here hx rfl (hb hby at_150) rfl ((if0 _ _).trans (teq ((lw_eq _ _).mpr ((own_fin x35 x3 x37 x38 hpp.2 dx37 dx38).2 c39))).2) k) ?_
        show Done p e below s _ _ _ (T36.setTop (mkF m 153 #[.val (.long q1), .second, .val (.long q2), .second, .val (.long q3), .second, .val (.int p4), .val (.long x1), .second, .val (.long x2), .second, .val (.long x3), .second, .val (.long x4), .second, .val (.ref b5), .val (.int x27), .val (.long x35), .second, .val (.long x37), .second, .val (.long x38), .second, .val (.long (-9223372036854775808 : Int64)), .second] []))
        refine Done.step (fun t k => XS.iconst X36.here hx rfl (hb hby at_153) k) ?_
        show Done p e below s _ _ _ (T36.setTop (mkF m 154 #[.val (.long q1), .second, .val (.long q2), .second, .val (.long q3), .second, .val (.int p4), .val (.long x1), .second, .val (.long x2), .second, .val (.long x3), .second, .val (.long x4), .second, .val (.ref b5), .val (.int x27), .val (.long x35), .second, .val (.long x37), .second, .val (.long x38), .second, .val (.long (-9223372036854775808 : Int64)), .second] [(.int (1 : Int32))]))
        refine Done.step (fun t k => XS.goto X36.here hx rfl (pc0 := 154) (pc' := 158) rfl (hb hby at_154) (by decide) (by decide) k) ?_
        show Done p e below s _ _ _ (T36.setTop (mkF m 158 #[.val (.long q1), .second, .val (.long q2), .second, .val (.long q3), .second, .val (.int p4), .val (.long x1), .second, .val (.long x2), .second, .val (.long x3), .second, .val (.long x4), .second, .val (.ref b5), .val (.int x27), .val (.long x35), .second, .val (.long x37), .second, .val (.long x38), .second, .val (.long (-9223372036854775808 : Int64)), .second] [(.int (1 : Int32))]))
        exact Done.narr X36 hx hlk hret (by simp) (hb hby at_158) (by decide) (by decide) ⟨rfl, N36⟩
      · refine Done.step (fun t k => XS.ifNo X36.here hx rfl (hb hby at_132) rfl ((if0 _ _).trans (flt (fun q_ => c39 ((lw_gt _ _).mp q_))).2.2.1) k) ?_
        show Done p e below s _ _ _ (T36.setTop (mkF m 135 #[.val (.long q1), .second, .val (.long q2), .second, .val (.long q3), .second, .val (.int p4), .val (.long x1), .second, .val (.long x2), .second, .val (.long x3), .second, .val (.long x4), .second, .val (.ref b5), .val (.int x27), .val (.long x35), .second, .val (.long x37), .second, .val (.long x38), .second, .unset, .unset] []))
        refine Done.step (fun t k => XS.lload X36.here hx rfl (hb hby at_135) rfl k) ?_
        show Done p e below s _ _ _ (T36.setTop (mkF m 137 #[.val (.long q1), .second, .val (.long q2), .second, .val (.long q3), .second, .val (.int p4), .val (.long x1), .second, .val (.long x2), .second, .val (.long x3), .second, .val (.long x4), .second, .val (.ref b5), .val (.int x27), .val (.long x35), .second, .val (.long x37), .second, .val (.long x38), .second, .unset, .unset] [(.long x38)]))
        refine Done.step (fun t k => XS.goto X36.here hx rfl (pc0 := 137) (pc' := 143) rfl (hb hby at_137) (by decide) (by decide) k) ?_
        show Done p e below s _ _ _ (T36.setTop (mkF m 143 #[.val (.long q1), .second, .val (.long q2), .second, .val (.long q3), .second, .val (.int p4), .val (.long x1), .second, .val (.long x2), .second, .val (.long x3), .second, .val (.long x4), .second, .val (.ref b5), .val (.int x27), .val (.long x35), .second, .val (.long x37), .second, .val (.long x38), .second, .unset, .unset] [(.long x38)]))
        refine Done.step (fun t k => XS.lstore X36.here hx rfl (hb hby at_143) rfl (l' := #[.val (.long q1), .second, .val (.long q2), .second, .val (.long q3), .second, .val (.int p4), .val (.long x1), .second, .val (.long x2), .second, .val (.long x3), .second, .val (.long x4), .second, .val (.ref b5), .val (.int x27), .val (.long x35), .second, .val (.long x37), .second, .val (.long x38), .second, .val (.long x38), .second]) rfl k) ?_
        show Done p e below s _ _ _ (T36.setTop (mkF m 145 #[.val (.long q1), .second, .val (.long q2), .second, .val (.long q3), .second, .val (.int p4), .val (.long x1), .second, .val (.long x2), .second, .val (.long x3), .second, .val (.long x4), .second, .val (.ref b5), .val (.int x27), .val (.long x35), .second, .val (.long x37), .second, .val (.long x38), .second, .val (.long x38), .second] []))
        refine Done.step (fun t k => XS.lload X36.here hx rfl (hb hby at_145) rfl k) ?_
        show Done p e below s _ _ _ (T36.setTop (mkF m 147 #[.val (.long q1), .second, .val (.long q2), .second, .val (.long q3), .second, .val (.int p4), .val (.long x1), .second, .val (.long x2), .second, .val (.long x3), .second, .val (.long x4), .second, .val (.ref b5), .val (.int x27), .val (.long x35), .second, .val (.long x37), .second, .val (.long x38), .second, .val (.long x38), .second] [(.long x37)]))
        refine Done.step (fun t k => XS.lload X36.here hx rfl (hb hby at_147) rfl k) ?_
        show Done p e below s _ _ _ (T36.setTop (mkF m 149 #[.val (.long q1), .second, .val (.long q2), .second, .val (.long q3), .second, .val (.int p4), .val (.long x1), .second, .val (.long x2), .second, .val (.long x3), .second, .val (.long x4), .second, .val (.ref b5), .val (.int x27), .val (.long x35), .second, .val (.long x37), .second, .val (.long x38), .second, .val (.long x38), .second] [(.long x38), (.long x37)]))
        refine Done.step (fun t k => XS.lcmp X36.here hx rfl (hb hby at_149) rfl k) ?_
        show Done p e below s _ _ _ (T36.setTop (mkF m 150 #[.val (.long q1), .second, .val (.long q2), .second, .val (.long q3), .second, .val (.int p4), .val (.long x1), .second, .val (.long x2), .second, .val (.long x3), .second, .val (.long x4), .second, .val (.ref b5), .val (.int x27), .val (.long x35), .second, .val (.long x37), .second, .val (.long x38), .second, .val (.long x38), .second] [(.int (lcmpW x37 x38))]))
        refine Done.step (fun t k => XS.ifNo X36.here hx rfl (hb hby at_150) rfl ((if0 _ _).trans (teq ((lw_eq _ _).mpr ((own_fin x35 x3 x37 x38 hpp.2 dx37 dx38).1 c39))).2) k) ?_
        show Done p e below s _ _ _ (T36.setTop (mkF m 153 #[.val (.long q1), .second, .val (.long q2), .second, .val (.long q3), .second, .val (.int p4), .val (.long x1), .second, .val (.long x2), .second, .val (.long x3), .second, .val (.long x4), .second, .val (.ref b5), .val (.int x27), .val (.long x35), .second, .val (.long x37), .second, .val (.long x38), .second, .val (.long x38), .second] []))
        refine Done.step (fun t k => XS.iconst X36.here hx rfl (hb hby at_153) k) ?_
        show Done p e below s _ _ _ (T36.setTop (mkF m 154 #[.val (.long q1), .second, .val (.long q2), .second, .val (.long q3), .second, .val (.int p4), .val (.long x1), .second, .val (.long x2), .second, .val (.long x3), .second, .val (.long x4), .second, .val (.ref b5), .val (.int x27), .val (.long x35), .second, .val (.long x37), .second, .val (.long x38), .second, .val (.long x38), .second] [(.int (1 : Int32))]))
        refine Done.step (fun t k => XS.goto X36.here hx rfl (pc0 := 154) (pc' := 158) rfl (hb hby at_154) (by decide) (by decide) k) ?_
        show Done p e below s _ _ _ (T36.setTop (mkF m 158 #[.val (.long q1), .second, .val (.long q2), .second, .val (.long q3), .second, .val (.int p4), .val (.long x1), .second, .val (.long x2), .second, .val (.long x3), .second, .val (.long x4), .second, .val (.ref b5), .val (.int x27), .val (.long x35), .second, .val (.long x37), .second, .val (.long x38), .second, .val (.long x38), .second] [(.int (1 : Int32))]))
        exact Done.narr X36 hx hlk hret (by simp) (hb hby at_158) (by decide) (by decide) ⟨rfl, N36⟩
    · refine Done.step (fun t k => XS.icmpYes X21.here hx rfl (pc0 := 91) (pc' := 108) rfl (hb hby at_91) rfl (feq c34).2 (by decide) (by decide) k) ?_
      show Done p e below s _ _ _ (T21.setTop (mkF m 108 #[.val (.long q1), .second, .val (.long q2), .second, .val (.long q3), .second, .val (.int p4), .val (.long x1), .second, .val (.long x2), .second, .val (.long x3), .second, .val (.long x4), .second, .val (.ref b5), .val (.int x27), .unset, .unset, .unset, .unset, .unset, .unset, .unset, .unset] []))
      refine Done.step (fun t k => XS.lloadN X21.here hx rfl (hb hby at_108) rfl k) ?_
      show Done p e below s _ _ _ (T21.setTop (mkF m 109 #[.val (.long q1), .second, .val (.long q2), .second, .val (.long q3), .second, .val (.int p4), .val (.long x1), .second, .val (.long x2), .second, .val (.long x3), .second, .val (.long x4), .second, .val (.ref b5), .val (.int x27), .unset, .unset, .unset, .unset, .unset, .unset, .unset, .unset] [(.long q1)]))
      refine Done.step (fun t k => XS.lstore X21.here hx rfl (hb hby at_109) rfl (l' := #[.val (.long q1), .second, .val (.long q2), .second, .val (.long q3), .second, .val (.int p4), .val (.long x1), .second, .val (.long x2), .second, .val (.long x3), .second, .val (.long x4), .second, .val (.ref b5), .val (.int x27), .val (.long q1), .second, .unset, .unset, .unset, .unset, .unset, .unset]) rfl k) ?_
      show Done p e below s _ _ _ (T21.setTop (mkF m 111 #[.val (.long q1), .second, .val (.long q2), .second, .val (.long q3), .second, .val (.int p4), .val (.long x1), .second, .val (.long x2), .second, .val (.long x3), .second, .val (.long x4), .second, .val (.ref b5), .val (.int x27), .val (.long q1), .second, .unset, .unset, .unset, .unset, .unset, .unset] []))
      refine Done.step (fun t k => XS.aload X21.here hx rfl (hb hby at_111) rfl rfl k) ?_
      show Done p e below s _ _ _ (T21.setTop (mkF m 113 #[.val (.long q1), .second, .val (.long q2), .second, .val (.long q3), .second, .val (.int p4), .val (.long x1), .second, .val (.long x2), .second, .val (.long x3), .second, .val (.long x4), .second, .val (.ref b5), .val (.int x27), .val (.long q1), .second, .unset, .unset, .unset, .unset, .unset, .unset] [(.ref b5)]))
      refine Done.step (fun t k => XS.lload X21.here hx rfl (hb hby at_113) rfl k) ?_
      show Done p e below s _ _ _ (T21.setTop (mkF m 115 #[.val (.long q1), .second, .val (.long q2), .second, .val (.long q3), .second, .val (.int p4), .val (.long x1), .second, .val (.long x2), .second, .val (.long x3), .second, .val (.long x4), .second, .val (.ref b5), .val (.int x27), .val (.long q1), .second, .unset, .unset, .unset, .unset, .unset, .unset] [(.long q1), (.ref b5)]))
      obtain ⟨cq40, kq40, q40a, q40b, q40c⟩ := isOf hZ rfl f26
      obtain ⟨v40, _, ⟨T40, L40, k40, n40⟩, -, X40, ⟨Lc40, hQ40, l40, y40, z40⟩, st40⟩ := X21.virtualBack hx (y := (⟨"weirstream/engine/WindowGeometry", "lastWindowEndingBy", "(J)J"⟩ : MethodName)) (z := (⟨"weirstream/engine/WindowGeometry", "lastWindowEndingBy", "(J)J"⟩ : MethodName)) hown (mvT hZ (hw _ (List.mem_of_getElem? (i := 68) rfl))) (mvT hZ (hw _ (List.mem_of_getElem? (i := 69) rfl))) (notFace_of_selects (args := #[]) (mvT hZ (hw _ (List.mem_of_getElem? (i := 71) rfl)))) (mvT hZ (hw _ (List.mem_of_getElem? (i := 71) rfl))) (mvT hZ (hw _ (List.mem_of_getElem? (i := 70) rfl))) (by decide) (backOf (W := 0) (rm10 l Z a0 hw [] b5 q1 (x4 / x1) T21.heap n0 Zk21 y21_0) hZ (hw _ (List.mem_of_getElem? (i := 72) rfl)) (hw _ (List.mem_of_getElem? (i := 3) rfl)) (by decide) (by decide)) q40a q40c (g := (mkF m 115 #[.val (.long q1), .second, .val (.long q2), .second, .val (.long q3), .second, .val (.int p4), .val (.long x1), .second, .val (.long x2), .second, .val (.long x3), .second, .val (.long x4), .second, .val (.ref b5), .val (.int x27), .val (.long q1), .second, .unset, .unset, .unset, .unset, .unset, .unset] [(.long q1), (.ref b5)])) rfl (by rw [hml]; rfl) (Steps.refl _) (argsL := [(.long q1)]) (rest := []) (lenOf pd_2 rfl) rfl (by show 2 * 0 + _ ≤ _; exact Nat.le_of_eq rfl) (hb hby at_115) (fun _ _ => ⟨rfl, rfl, (by decide : 1 + 0 ≤ _), (by decide : 9 + 0 ≤ _)⟩)
      dsimp only [Pt.U, Pt.locs, Pt.cells, Pt.slots] at X40 l40 y40 z40 st40 hQ40
      subst l40 y40 z40
      refine Done.far st40 ?_
      obtain ⟨rfl, N40q, e40⟩ := hQ40
      have N40 := Fr.app N21 N40q
      show Done p e below s _ _ _ (T40.setTop (mkF m 118 #[.val (.long q1), .second, .val (.long q2), .second, .val (.long q3), .second, .val (.int p4), .val (.long x1), .second, .val (.long x2), .second, .val (.long x3), .second, .val (.long x4), .second, .val (.ref b5), .val (.int x27), .val (.long q1), .second, .unset, .unset, .unset, .unset, .unset, .unset] [(.long (F10 q1 (x4 / x1)))]))
      generalize dx41 : (F10 q1 (x4 / x1)) = x41
      show Done p e below s _ _ _ (T40.setTop (mkF m 118 #[.val (.long q1), .second, .val (.long q2), .second, .val (.long q3), .second, .val (.int p4), .val (.long x1), .second, .val (.long x2), .second, .val (.long x3), .second, .val (.long x4), .second, .val (.ref b5), .val (.int x27), .val (.long q1), .second, .unset, .unset, .unset, .unset, .unset, .unset] [(.long x41)]))
      refine Done.step (fun t k => XS.lstore X40.here hx rfl (hb hby at_118) rfl (l' := #[.val (.long q1), .second, .val (.long q2), .second, .val (.long q3), .second, .val (.int p4), .val (.long x1), .second, .val (.long x2), .second, .val (.long x3), .second, .val (.long x4), .second, .val (.ref b5), .val (.int x27), .val (.long q1), .second, .val (.long x41), .second, .unset, .unset, .unset, .unset]) rfl k) ?_
      show Done p e below s _ _ _ (T40.setTop (mkF m 120 #[.val (.long q1), .second, .val (.long q2), .second, .val (.long q3), .second, .val (.int p4), .val (.long x1), .second, .val (.long x2), .second, .val (.long x3), .second, .val (.long x4), .second, .val (.ref b5), .val (.int x27), .val (.long q1), .second, .val (.long x41), .second, .unset, .unset, .unset, .unset] []))
      have hpp := own_ppw q2 x1 x2 x3 x4 dx3 dx4 hsl hqq
      rw [hpp.1] at dx41
      refine Done.step (fun t k => XS.lload X40.here hx rfl (hb hby at_120) rfl k) ?_
      show Done p e below s _ _ _ (T40.setTop (mkF m 122 #[.val (.long q1), .second, .val (.long q2), .second, .val (.long q3), .second, .val (.int p4), .val (.long x1), .second, .val (.long x2), .second, .val (.long x3), .second, .val (.long x4), .second, .val (.ref b5), .val (.int x27), .val (.long q1), .second, .val (.long x41), .second, .unset, .unset, .unset, .unset] [(.long q1)]))
      refine Done.step (fun t k => XS.lload X40.here hx rfl (hb hby at_122) rfl k) ?_
      show Done p e below s _ _ _ (T40.setTop (mkF m 124 #[.val (.long q1), .second, .val (.long q2), .second, .val (.long q3), .second, .val (.int p4), .val (.long x1), .second, .val (.long x2), .second, .val (.long x3), .second, .val (.long x4), .second, .val (.ref b5), .val (.int x27), .val (.long q1), .second, .val (.long x41), .second, .unset, .unset, .unset, .unset] [(.long x3), (.long q1)]))
      refine Done.step (fun t k => XS.lsub X40.here hx rfl (hb hby at_124) rfl k) ?_
      show Done p e below s _ _ _ (T40.setTop (mkF m 125 #[.val (.long q1), .second, .val (.long q2), .second, .val (.long q3), .second, .val (.int p4), .val (.long x1), .second, .val (.long x2), .second, .val (.long x3), .second, .val (.long x4), .second, .val (.ref b5), .val (.int x27), .val (.long q1), .second, .val (.long x41), .second, .unset, .unset, .unset, .unset] [(.long (q1 - x3))]))
      generalize dx42 : (q1 - x3) = x42
      show Done p e below s _ _ _ (T40.setTop (mkF m 125 #[.val (.long q1), .second, .val (.long q2), .second, .val (.long q3), .second, .val (.int p4), .val (.long x1), .second, .val (.long x2), .second, .val (.long x3), .second, .val (.long x4), .second, .val (.ref b5), .val (.int x27), .val (.long q1), .second, .val (.long x41), .second, .unset, .unset, .unset, .unset] [(.long x42)]))
      refine Done.step (fun t k => XS.lstore X40.here hx rfl (hb hby at_125) rfl (l' := #[.val (.long q1), .second, .val (.long q2), .second, .val (.long q3), .second, .val (.int p4), .val (.long x1), .second, .val (.long x2), .second, .val (.long x3), .second, .val (.long x4), .second, .val (.ref b5), .val (.int x27), .val (.long q1), .second, .val (.long x41), .second, .val (.long x42), .second, .unset, .unset]) rfl k) ?_
      show Done p e below s _ _ _ (T40.setTop (mkF m 127 #[.val (.long q1), .second, .val (.long q2), .second, .val (.long q3), .second, .val (.int p4), .val (.long x1), .second, .val (.long x2), .second, .val (.long x3), .second, .val (.long x4), .second, .val (.ref b5), .val (.int x27), .val (.long q1), .second, .val (.long x41), .second, .val (.long x42), .second, .unset, .unset] []))
      refine Done.step (fun t k => XS.lload X40.here hx rfl (hb hby at_127) rfl k) ?_
      show Done p e below s _ _ _ (T40.setTop (mkF m 129 #[.val (.long q1), .second, .val (.long q2), .second, .val (.long q3), .second, .val (.int p4), .val (.long x1), .second, .val (.long x2), .second, .val (.long x3), .second, .val (.long x4), .second, .val (.ref b5), .val (.int x27), .val (.long q1), .second, .val (.long x41), .second, .val (.long x42), .second, .unset, .unset] [(.long x42)]))
      refine Done.step (fun t k => XS.lload X40.here hx rfl (hb hby at_129) rfl k) ?_
      show Done p e below s _ _ _ (T40.setTop (mkF m 131 #[.val (.long q1), .second, .val (.long q2), .second, .val (.long q3), .second, .val (.int p4), .val (.long x1), .second, .val (.long x2), .second, .val (.long x3), .second, .val (.long x4), .second, .val (.ref b5), .val (.int x27), .val (.long q1), .second, .val (.long x41), .second, .val (.long x42), .second, .unset, .unset] [(.long q1), (.long x42)]))
      refine Done.step (fun t k => XS.lcmp X40.here hx rfl (hb hby at_131) rfl k) ?_
      show Done p e below s _ _ _ (T40.setTop (mkF m 132 #[.val (.long q1), .second, .val (.long q2), .second, .val (.long q3), .second, .val (.int p4), .val (.long x1), .second, .val (.long x2), .second, .val (.long x3), .second, .val (.long x4), .second, .val (.ref b5), .val (.int x27), .val (.long q1), .second, .val (.long x41), .second, .val (.long x42), .second, .unset, .unset] [(.int (lcmpW x42 q1))]))
      by_cases c43 : q1 < x42
      · refine Done.step (fun t k => XS.ifYes X40.here hx rfl (pc0 := 132) (pc' := 140) rfl (hb hby at_132) rfl ((if0 _ _).trans (tlt ((lw_gt _ _).mpr c43)).2.2.1) (by decide) (by decide) k) ?_
        show Done p e below s _ _ _ (T40.setTop (mkF m 140 #[.val (.long q1), .second, .val (.long q2), .second, .val (.long q3), .second, .val (.int p4), .val (.long x1), .second, .val (.long x2), .second, .val (.long x3), .second, .val (.long x4), .second, .val (.ref b5), .val (.int x27), .val (.long q1), .second, .val (.long x41), .second, .val (.long x42), .second, .unset, .unset] []))
        refine Done.step (X40.ldc2Long hx hown (mvT hZ (hw _ (List.mem_of_getElem? (i := 73) rfl))) (g := (mkF m 140 #[.val (.long q1), .second, .val (.long q2), .second, .val (.long q3), .second, .val (.int p4), .val (.long x1), .second, .val (.long x2), .second, .val (.long x3), .second, .val (.long x4), .second, .val (.ref b5), .val (.int x27), .val (.long q1), .second, .val (.long x41), .second, .val (.long x42), .second, .unset, .unset] [])) rfl (hb hby at_140)) ?_
        show Done p e below s _ _ _ (T40.setTop (mkF m 143 #[.val (.long q1), .second, .val (.long q2), .second, .val (.long q3), .second, .val (.int p4), .val (.long x1), .second, .val (.long x2), .second, .val (.long x3), .second, .val (.long x4), .second, .val (.ref b5), .val (.int x27), .val (.long q1), .second, .val (.long x41), .second, .val (.long x42), .second, .unset, .unset] [(.long (-9223372036854775808 : Int64))]))
        refine Done.step (fun t k => XS.lstore X40.here hx rfl (hb hby at_143) rfl (l' := #[.val (.long q1), .second, .val (.long q2), .second, .val (.long q3), .second, .val (.int p4), .val (.long x1), .second, .val (.long x2), .second, .val (.long x3), .second, .val (.long x4), .second, .val (.ref b5), .val (.int x27), .val (.long q1), .second, .val (.long x41), .second, .val (.long x42), .second, .val (.long (-9223372036854775808 : Int64)), .second]) rfl k) ?_
        show Done p e below s _ _ _ (T40.setTop (mkF m 145 #[.val (.long q1), .second, .val (.long q2), .second, .val (.long q3), .second, .val (.int p4), .val (.long x1), .second, .val (.long x2), .second, .val (.long x3), .second, .val (.long x4), .second, .val (.ref b5), .val (.int x27), .val (.long q1), .second, .val (.long x41), .second, .val (.long x42), .second, .val (.long (-9223372036854775808 : Int64)), .second] []))
        refine Done.step (fun t k => XS.lload X40.here hx rfl (hb hby at_145) rfl k) ?_
        show Done p e below s _ _ _ (T40.setTop (mkF m 147 #[.val (.long q1), .second, .val (.long q2), .second, .val (.long q3), .second, .val (.int p4), .val (.long x1), .second, .val (.long x2), .second, .val (.long x3), .second, .val (.long x4), .second, .val (.ref b5), .val (.int x27), .val (.long q1), .second, .val (.long x41), .second, .val (.long x42), .second, .val (.long (-9223372036854775808 : Int64)), .second] [(.long x41)]))
        refine Done.step (fun t k => XS.lload X40.here hx rfl (hb hby at_147) rfl k) ?_
        show Done p e below s _ _ _ (T40.setTop (mkF m 149 #[.val (.long q1), .second, .val (.long q2), .second, .val (.long q3), .second, .val (.int p4), .val (.long x1), .second, .val (.long x2), .second, .val (.long x3), .second, .val (.long x4), .second, .val (.ref b5), .val (.int x27), .val (.long q1), .second, .val (.long x41), .second, .val (.long x42), .second, .val (.long (-9223372036854775808 : Int64)), .second] [(.long (-9223372036854775808 : Int64)), (.long x41)]))
        refine Done.step (fun t k => XS.lcmp X40.here hx rfl (hb hby at_149) rfl k) ?_
        show Done p e below s _ _ _ (T40.setTop (mkF m 150 #[.val (.long q1), .second, .val (.long q2), .second, .val (.long q3), .second, .val (.int p4), .val (.long x1), .second, .val (.long x2), .second, .val (.long x3), .second, .val (.long x4), .second, .val (.ref b5), .val (.int x27), .val (.long q1), .second, .val (.long x41), .second, .val (.long x42), .second, .val (.long (-9223372036854775808 : Int64)), .second] [(.int (lcmpW x41 (-9223372036854775808 : Int64)))]))
        refine Done.step (fun t k => XS.ifNo X40.here hx rfl (hb hby at_150) rfl ((if0 _ _).trans (teq ((lw_eq _ _).mpr ((own_fin q1 x3 x41 x42 hpp.2 dx41 dx42).2 c43))).2) k) ?_
        show Done p e below s _ _ _ (T40.setTop (mkF m 153 #[.val (.long q1), .second, .val (.long q2), .second, .val (.long q3), .second, .val (.int p4), .val (.long x1), .second, .val (.long x2), .second, .val (.long x3), .second, .val (.long x4), .second, .val (.ref b5), .val (.int x27), .val (.long q1), .second, .val (.long x41), .second, .val (.long x42), .second, .val (.long (-9223372036854775808 : Int64)), .second] []))
        refine Done.step (fun t k => XS.iconst X40.here hx rfl (hb hby at_153) k) ?_
        show Done p e below s _ _ _ (T40.setTop (mkF m 154 #[.val (.long q1), .second, .val (.long q2), .second, .val (.long q3), .second, .val (.int p4), .val (.long x1), .second, .val (.long x2), .second, .val (.long x3), .second, .val (.long x4), .second, .val (.ref b5), .val (.int x27), .val (.long q1), .second, .val (.long x41), .second, .val (.long x42), .second, .val (.long (-9223372036854775808 : Int64)), .second] [(.int (1 : Int32))]))
        refine Done.step (fun t k => XS.goto X40.here hx rfl (pc0 := 154) (pc' := 158) rfl (hb hby at_154) (by decide) (by decide) k) ?_
        show Done p e below s _ _ _ (T40.setTop (mkF m 158 #[.val (.long q1), .second, .val (.long q2), .second, .val (.long q3), .second, .val (.int p4), .val (.long x1), .second, .val (.long x2), .second, .val (.long x3), .second, .val (.long x4), .second, .val (.ref b5), .val (.int x27), .val (.long q1), .second, .val (.long x41), .second, .val (.long x42), .second, .val (.long (-9223372036854775808 : Int64)), .second] [(.int (1 : Int32))]))
        exact Done.narr X40 hx hlk hret (by simp) (hb hby at_158) (by decide) (by decide) ⟨rfl, N40⟩
      · refine Done.step (fun t k => XS.ifNo X40.here hx rfl (hb hby at_132) rfl ((if0 _ _).trans (flt (fun q_ => c43 ((lw_gt _ _).mp q_))).2.2.1) k) ?_
        show Done p e below s _ _ _ (T40.setTop (mkF m 135 #[.val (.long q1), .second, .val (.long q2), .second, .val (.long q3), .second, .val (.int p4), .val (.long x1), .second, .val (.long x2), .second, .val (.long x3), .second, .val (.long x4), .second, .val (.ref b5), .val (.int x27), .val (.long q1), .second, .val (.long x41), .second, .val (.long x42), .second, .unset, .unset] []))
        refine Done.step (fun t k => XS.lload X40.here hx rfl (hb hby at_135) rfl k) ?_
        show Done p e below s _ _ _ (T40.setTop (mkF m 137 #[.val (.long q1), .second, .val (.long q2), .second, .val (.long q3), .second, .val (.int p4), .val (.long x1), .second, .val (.long x2), .second, .val (.long x3), .second, .val (.long x4), .second, .val (.ref b5), .val (.int x27), .val (.long q1), .second, .val (.long x41), .second, .val (.long x42), .second, .unset, .unset] [(.long x42)]))
        refine Done.step (fun t k => XS.goto X40.here hx rfl (pc0 := 137) (pc' := 143) rfl (hb hby at_137) (by decide) (by decide) k) ?_
        show Done p e below s _ _ _ (T40.setTop (mkF m 143 #[.val (.long q1), .second, .val (.long q2), .second, .val (.long q3), .second, .val (.int p4), .val (.long x1), .second, .val (.long x2), .second, .val (.long x3), .second, .val (.long x4), .second, .val (.ref b5), .val (.int x27), .val (.long q1), .second, .val (.long x41), .second, .val (.long x42), .second, .unset, .unset] [(.long x42)]))
        refine Done.step (fun t k => XS.lstore X40.here hx rfl (hb hby at_143) rfl (l' := #[.val (.long q1), .second, .val (.long q2), .second, .val (.long q3), .second, .val (.int p4), .val (.long x1), .second, .val (.long x2), .second, .val (.long x3), .second, .val (.long x4), .second, .val (.ref b5), .val (.int x27), .val (.long q1), .second, .val (.long x41), .second, .val (.long x42), .second, .val (.long x42), .second]) rfl k) ?_
        show Done p e below s _ _ _ (T40.setTop (mkF m 145 #[.val (.long q1), .second, .val (.long q2), .second, .val (.long q3), .second, .val (.int p4), .val (.long x1), .second, .val (.long x2), .second, .val (.long x3), .second, .val (.long x4), .second, .val (.ref b5), .val (.int x27), .val (.long q1), .second, .val (.long x41), .second, .val (.long x42), .second, .val (.long x42), .second] []))
        refine Done.step (fun t k => XS.lload X40.here hx rfl (hb hby at_145) rfl k) ?_
        show Done p e below s _ _ _ (T40.setTop (mkF m 147 #[.val (.long q1), .second, .val (.long q2), .second, .val (.long q3), .second, .val (.int p4), .val (.long x1), .second, .val (.long x2), .second, .val (.long x3), .second, .val (.long x4), .second, .val (.ref b5), .val (.int x27), .val (.long q1), .second, .val (.long x41), .second, .val (.long x42), .second, .val (.long x42), .second] [(.long x41)]))
        refine Done.step (fun t k => XS.lload X40.here hx rfl (hb hby at_147) rfl k) ?_
        show Done p e below s _ _ _ (T40.setTop (mkF m 149 #[.val (.long q1), .second, .val (.long q2), .second, .val (.long q3), .second, .val (.int p4), .val (.long x1), .second, .val (.long x2), .second, .val (.long x3), .second, .val (.long x4), .second, .val (.ref b5), .val (.int x27), .val (.long q1), .second, .val (.long x41), .second, .val (.long x42), .second, .val (.long x42), .second] [(.long x42), (.long x41)]))
        refine Done.step (fun t k => XS.lcmp X40.here hx rfl (hb hby at_149) rfl k) ?_
        show Done p e below s _ _ _ (T40.setTop (mkF m 150 #[.val (.long q1), .second, .val (.long q2), .second, .val (.long q3), .second, .val (.int p4), .val (.long x1), .second, .val (.long x2), .second, .val (.long x3), .second, .val (.long x4), .second, .val (.ref b5), .val (.int x27), .val (.long q1), .second, .val (.long x41), .second, .val (.long x42), .second, .val (.long x42), .second] [(.int (lcmpW x41 x42))]))
        refine Done.step (fun t k => XS.ifNo X40.here hx rfl (hb hby at_150) rfl ((if0 _ _).trans (teq ((lw_eq _ _).mpr ((own_fin q1 x3 x41 x42 hpp.2 dx41 dx42).1 c43))).2) k) ?_
        show Done p e below s _ _ _ (T40.setTop (mkF m 153 #[.val (.long q1), .second, .val (.long q2), .second, .val (.long q3), .second, .val (.int p4), .val (.long x1), .second, .val (.long x2), .second, .val (.long x3), .second, .val (.long x4), .second, .val (.ref b5), .val (.int x27), .val (.long q1), .second, .val (.long x41), .second, .val (.long x42), .second, .val (.long x42), .second] []))
        refine Done.step (fun t k => XS.iconst X40.here hx rfl (hb hby at_153) k) ?_
        show Done p e below s _ _ _ (T40.setTop (mkF m 154 #[.val (.long q1), .second, .val (.long q2), .second, .val (.long q3), .second, .val (.int p4), .val (.long x1), .second, .val (.long x2), .second, .val (.long x3), .second, .val (.long x4), .second, .val (.ref b5), .val (.int x27), .val (.long q1), .second, .val (.long x41), .second, .val (.long x42), .second, .val (.long x42), .second] [(.int (1 : Int32))]))
        refine Done.step (fun t k => XS.goto X40.here hx rfl (pc0 := 154) (pc' := 158) rfl (hb hby at_154) (by decide) (by decide) k) ?_
        show Done p e below s _ _ _ (T40.setTop (mkF m 158 #[.val (.long q1), .second, .val (.long q2), .second, .val (.long q3), .second, .val (.int p4), .val (.long x1), .second, .val (.long x2), .second, .val (.long x3), .second, .val (.long x4), .second, .val (.ref b5), .val (.int x27), .val (.long q1), .second, .val (.long x41), .second, .val (.long x42), .second, .val (.long x42), .second] [(.int (1 : Int32))]))
        exact Done.narr X40 hx hlk hret (by simp) (hb hby at_158) (by decide) (by decide) ⟨rfl, N40⟩
set_option maxRecDepth 65536 in
set_option maxHeartbeats 40000000 in
theorem comes_1 {Post : Tables → Env → Array Value → State → Outcome → State → Prop} (hpost : ∀ tb e args s v u, (limb_1_1.after args s (.returned v) u = true ∧ limb_1_2.after args s (.returned v) u = true ∧ True) → FrameEnd s (.returned v) u (Jvm.fieldLocs frame_1_writes args s ++ Jvm.arrayLocs frame_1_arrays args s ++ Jvm.staticLocs frame_1_statics s) 16 128 → Post tb e args s (.returned v) u) :
    ArmFor flags0 classFile x code maxLocals ret World_1 tables_1 room_1 Calls_1 rest_1 Pre_1 Post := by
  intro l hfl _ _ p e ha hc hk s m args below hf hA hF happ hP
  obtain ⟨hcalls, hrest, hpre⟩ := hP
  obtain ⟨-, -, -, hnamed, -, -, -, hat⟩ := (Spec.applies_iff hf).mp happ
  obtain ⟨hg, hn⟩ := and_e (Cond.before_iff.mp (show (Jvm.Cond.and given_1 narrow_1).before args s = true from hpre))
  obtain ⟨hcnt, g0⟩ := and_e hg
  obtain ⟨u0, g1⟩ := and_e g0
  obtain ⟨u1, g2⟩ := and_e g1
  obtain ⟨u2, g3⟩ := and_e g2
  have u3 := g3
  obtain ⟨w0, w1, w2, w3, rfl⟩ : ∃ w0 w1 w2 w3 : Value, args = #[w0, w1, w2, w3] := by
    have hs : args.size = 4 := by simpa [Cond.value, given_1] using hcnt
    obtain ⟨L⟩ := args
    match L, hs with
    | [w0, w1, w2, w3], _ => exact ⟨w0, w1, w2, w3, rfl⟩
  have hw := fun d (hd : d ∈ tables_1) => atoms_spec (ws := Jvm.Cond.code x code maxLocals ret :: tables_1) hat d (List.mem_cons_of_mem _ hd)
  have hfit : Fit s := fun {y c} hc i hi => by
    obtain ⟨ha, rfl⟩ := Array.getElem?_eq_some_iff.mp hc
    have q := List.all_eq_true.mp ((Array.all_eq_true_iff_forall_mem.mp hF) _ (Array.getElem_mem ha)) i (List.mem_range.mpr hi)
    simpa [Array.getElem?_eq_getElem hi] using q
  obtain ⟨i0, ei0⟩ := isL_v u0
  obtain rfl : w0 = (.long i0) := Option.some.inj ei0
  obtain ⟨i1, ei1⟩ := isL_v u1
  obtain rfl : w1 = (.long i1) := Option.some.inj ei1
  obtain ⟨i2, ei2⟩ := isL_v u2
  obtain rfl : w2 = (.long i2) := Option.some.inj ei2
  obtain ⟨i3, ei3⟩ := is_v u3
  obtain rfl : w3 = (.int i3) := Option.some.inj ei3
  obtain ⟨nn0, nr0⟩ := and_e hn
  obtain ⟨nn1, nr1⟩ := and_e nr0
  have nn2 := nr1
  obtain ⟨sx_INTEGER, ev_sx_INTEGER⟩ := exa_v nn0
  obtain ⟨n, o, h1, h2, h3, _, L, rfl, ⟨rfl, N⟩, hq⟩ := rm0 l s _ hw tables_1 i0 i1 i2 i3 sx_INTEGER s.heap s.heap.size (Nat.le_refl _) (Sta.start ev_sx_INTEGER (Or.inr ⟨(hw _ (List.mem_of_getElem? (i := 5) rfl)), (hw _ (List.mem_of_getElem? (i := 6) rfl))⟩)) (Exa.start ev_sx_INTEGER nn0) (fld_long nn1 ev_sx_INTEGER) (fld_long nn2 ev_sx_INTEGER) p e ha hc hk s m _ below hf ((Spec.applies_iff_loose hf).mp happ).1 ⟨rfl, State.Warmed39.refl s, rfl⟩ trivial
  refine ⟨n, _, h1, h2, h3, hpost _ _ _ _ _ _ ⟨Cond.after_iff.mpr rfl, Cond.after_iff.mpr (eq_i res_at (Term.int_eval (1)) rfl), trivial⟩ ⟨hq.1, hq.2.1, (hq.2.2.sift fun y hy => Or.inr (N y hy)).mono (by decide) (by decide)⟩⟩
theorem main_1_1 : Claimed_1_1 := comes_1 fun _ _ _ _ _ _ h hF => ⟨h.1, hF⟩
theorem main_1_2 : Claimed_1_2 := comes_1 fun _ _ _ _ _ _ h hF => ⟨h.2.1, hF⟩
end Jvm.Pilot.@@N@@
namespace Jvm.Pilot.@@N@@
open Jvm Jvm.ClassFile Sem Op Lib Jvm.Free Jvm.Stand Jvm.Pilot.@@N@@.Jvm.D
/-! MADE BY PROGRAM (witnessworld.py) out of the Statement's table words and the real class files: 16 classes; the members and pool entries that the words name. The judged class is class 1, her method 1. -/
namespace start1
open Jvm.ClassFile
def u (s : String) : CpInfo := .utf8 (stringToUtf16 s)
/-- a pool by its gaps: so many unusable entries, then the entry; so many at the end -/
def gap : Nat → List CpInfo → List CpInfo
  | 0, r => r
  | n + 1, r => .unusable :: gap n r
def poolList (es : List (Nat × CpInfo)) (last : Nat) : List CpInfo := es.foldr (fun e r => gap e.1 (e.2 :: r)) (gap last [])
def pool (es : List (Nat × CpInfo)) (last : Nat) : Array CpInfo := ⟨poolList es last⟩
def fileOf (pool : Array CpInfo) (this : Nat) (attrs : Array Attribute := #[]) (ms : Array MethodInfo := #[]) (fl : Nat := 33) (sup : Nat := 0) (ifs : Array Nat := #[]) (fds : Array FieldInfo := #[]) : ClassFile where
  minorVersion := 0
  majorVersion := 65
  constantPool := pool
  accessFlags := fl
  thisClass := this
  superClass := sup
  interfaces := ifs
  fields := fds
  methods := ms
  attributes := attrs
def plain (name : String) (sup : Option ClassId) : Class where
  name := name
  kind := .ordinary
  loader := none
  accessFlags := 33
  super := sup
  interfaces := #[]
  cf := none
  fields := #[]
  methods := #[]
  instanceTypes := #[]
  staticTypes := #[]
  resolved := #[]
  callSites := []
  init := .initialized
  statics := none
  mirror := none

def pool0 : Array CpInfo := pool [(5, u "<init>"), (0, u "()V"), (1, .class_ 10), (1, u "java/lang/Object")] 113

def k0c0 : Code := { maxStack := 0, maxLocals := 1, code := object_method_1_code, exceptionTable := #[], attributes := #[] }
def k0m0 : Method := { name := "<init>", desc := "()V", sig := { parameters := [], returnType := none }, accessFlags := 1, code := some k0c0 }
/-- java/lang/Object -/
def k0 : Class := { plain "java/lang/Object" none with
  accessFlags := 33
  interfaces := #[]
  cf := some (fileOf pool0 8 #[] #[{ accessFlags := 1, nameIndex := 5, descriptorIndex := 6, attributes := #[] }] 33 0 #[] #[])
  fields := #[]
  methods := #[k0m0]
  instanceTypes := #[]
  staticTypes := #[]
  resolved := Array.replicate 124 none
  statics := none }

def pool1 : Array CpInfo := pool [(2, .class_ 4), (1, u "java/lang/Object"), (0, u "<init>"), (0, u "()V"), (2, .long 9223372036854775807), (1, .class_ 12), (0, u "weirstream/engine/WindowGeometry"), (0, .fieldref 14 15), (0, .class_ 16), (0, .nameAndType 17 18), (0, u "weirstream/engine/WindowAxis"), (0, u "INTEGER"), (0, u "Lweirstream/engine/WindowAxis;"), (0, .methodref 11 20), (0, .nameAndType 5 21), (0, u "(Lweirstream/engine/WindowAxis;JJ)V"), (0, .long 9223372036854775808), (1, .long 3), (1, .methodref 11 27), (0, .nameAndType 28 29), (0, u "lastWindowEndingBy"), (0, u "(J)J"), (0, .class_ 31), (0, u "weirstream/engine/WindowGeometryLastWindowEndingByPinLaw"), (2, u "law"), (0, u "(JJJI)Z")] 3

def k1m0 : Method := { name := "<init>", desc := "()V", sig := { parameters := [], returnType := none }, accessFlags := 1, code := none }
def k1c1 : Code := { maxStack := 7, maxLocals := 25, code := code, exceptionTable := #[], attributes := #[] }
def k1m1 : Method := { name := "law", desc := "(JJJI)Z", sig := { parameters := [.long, .long, .long, .int], returnType := some .boolean }, accessFlags := 9, code := some k1c1 }
/-- weirstream/engine/WindowGeometryLastWindowEndingByPinLaw -/
def k1 : Class := { plain "weirstream/engine/WindowGeometryLastWindowEndingByPinLaw" (some 0) with
  accessFlags := 49
  interfaces := #[]
  cf := some (fileOf pool1 30 #[] #[{ accessFlags := 1, nameIndex := 5, descriptorIndex := 6, attributes := #[] }, { accessFlags := 9, nameIndex := 34, descriptorIndex := 35, attributes := #[] }] 49 2 #[] #[])
  fields := #[]
  methods := #[k1m0, k1m1]
  instanceTypes := #[]
  staticTypes := #[]
  resolved := Array.replicate 39 none
  statics := none }

def pool2 : Array CpInfo := pool [(62, .class_ 64), (1, u "weirstream/engine/WindowLayout"), (0, u "BOUND_COLUMNS"), (0, u "Ljava/util/List;"), (0, .class_ 68), (0, u "java/lang/Object")] 40

/-- weirstream/engine/WindowLayout -/
def k2 : Class := { plain "weirstream/engine/WindowLayout" (some 0) with
  accessFlags := 1536
  interfaces := #[]
  cf := some (fileOf pool2 62 #[] #[] 1536 67 #[] #[{ accessFlags := 25, nameIndex := 65, descriptorIndex := 66, attributes := #[] }])
  fields := #[{ name := "BOUND_COLUMNS", type := (.object "java/util/List"), accessFlags := 25, slot := 0, constantValue := 0 }]
  methods := #[]
  instanceTypes := #[]
  staticTypes := #[(.object "java/util/List")]
  resolved := Array.replicate 109 none
  statics := none }

def pool3 : Array CpInfo := pool [(1, .methodref 2 3), (0, .class_ 4), (0, .nameAndType 5 6), (0, u "java/lang/Object"), (0, u "<init>"), (0, u "()V"), (0, .fieldref 8 9), (0, .class_ 10), (0, .nameAndType 11 12), (0, u "weirstream/engine/WindowGeometry"), (0, u "axis"), (0, u "Lweirstream/engine/WindowAxis;"), (0, .fieldref 8 14), (0, .nameAndType 15 16), (0, u "range"), (0, u "J"), (0, .fieldref 8 18), (0, .nameAndType 19 16), (0, u "slide"), (0, .fieldref 8 21), (0, .nameAndType 22 16), (0, u "panesPerWindow"), (2, .long 9223372036854775807), (1, .fieldref 8 28), (0, .nameAndType 29 16), (0, u "highestEnding"), (0, .methodref 31 32), (0, .class_ 33), (0, .nameAndType 34 35), (0, u "weirstream/engine/WindowAxis"), (0, u "lowest"), (0, u "()J"), (0, .methodref 8 37), (0, .nameAndType 38 39), (0, u "pane"), (0, u "(J)J"), (0, .methodref 41 42), (0, .class_ 43), (0, .nameAndType 44 45), (0, u "java/lang/Math"), (0, u "floorMod"), (0, u "(JJ)J"), (0, .methodref 8 47), (0, .nameAndType 48 39), (0, u "lastPane"), (0, .long 9223372036854775808), (1, .methodref 41 52), (0, .nameAndType 53 45), (0, u "max"), (0, .fieldref 8 55), (0, .nameAndType 56 16), (0, u "lowestPane"), (0, .methodref 31 58), (0, .nameAndType 59 35), (0, u "highest"), (0, .fieldref 8 61), (0, .nameAndType 62 16), (0, u "highestPane"), (0, .fieldref 8 64), (0, .nameAndType 65 16), (0, u "lowestValue"), (0, .fieldref 8 67), (0, .nameAndType 68 16), (0, u "highestValue"), (1, .class_ 72), (1, u "weirstream/engine/WindowLayout"), (2, .methodref 41 76), (0, .nameAndType 77 45), (0, u "floorDiv"), (4, u "(Lweirstream/engine/WindowAxis;JJ)V"), (15, u "lastWindowEndingBy")] 4

def k3c0 : Code := { maxStack := 7, maxLocals := 10, code := prog_151_method_1_code, exceptionTable := #[], attributes := #[] }
def k3m0 : Method := { name := "<init>", desc := "(Lweirstream/engine/WindowAxis;JJ)V", sig := { parameters := [(.object "weirstream/engine/WindowAxis"), .long, .long], returnType := none }, accessFlags := 0, code := some k3c0 }
def k3c1 : Code := { maxStack := 4, maxLocals := 3, code := prog_151_method_4_code, exceptionTable := #[], attributes := #[] }
def k3m1 : Method := { name := "pane", desc := "(J)J", sig := { parameters := [.long], returnType := some .long }, accessFlags := 0, code := some k3c1 }
def k3c2 : Code := { maxStack := 6, maxLocals := 3, code := prog_151_method_10_code, exceptionTable := #[], attributes := #[] }
def k3m2 : Method := { name := "lastPane", desc := "(J)J", sig := { parameters := [.long], returnType := some .long }, accessFlags := 0, code := some k3c2 }
def k3c3 : Code := { maxStack := 6, maxLocals := 3, code := prog_151_method_11_code, exceptionTable := #[], attributes := #[] }
def k3m3 : Method := { name := "lastWindowEndingBy", desc := "(J)J", sig := { parameters := [.long], returnType := some .long }, accessFlags := 0, code := some k3c3 }
/-- weirstream/engine/WindowGeometry -/
def k3 : Class := { plain "weirstream/engine/WindowGeometry" (some 0) with
  accessFlags := 48
  interfaces := #[2]
  cf := some (fileOf pool3 8 #[] #[{ accessFlags := 0, nameIndex := 5, descriptorIndex := 82, attributes := #[] }, { accessFlags := 0, nameIndex := 38, descriptorIndex := 39, attributes := #[] }, { accessFlags := 0, nameIndex := 48, descriptorIndex := 39, attributes := #[] }, { accessFlags := 0, nameIndex := 98, descriptorIndex := 39, attributes := #[] }] 48 2 #[70] #[{ accessFlags := 18, nameIndex := 11, descriptorIndex := 12, attributes := #[] }, { accessFlags := 18, nameIndex := 15, descriptorIndex := 16, attributes := #[] }, { accessFlags := 18, nameIndex := 19, descriptorIndex := 16, attributes := #[] }, { accessFlags := 18, nameIndex := 22, descriptorIndex := 16, attributes := #[] }, { accessFlags := 18, nameIndex := 29, descriptorIndex := 16, attributes := #[] }, { accessFlags := 18, nameIndex := 56, descriptorIndex := 16, attributes := #[] }, { accessFlags := 18, nameIndex := 62, descriptorIndex := 16, attributes := #[] }, { accessFlags := 18, nameIndex := 65, descriptorIndex := 16, attributes := #[] }, { accessFlags := 18, nameIndex := 68, descriptorIndex := 16, attributes := #[] }])
  fields := #[{ name := "axis", type := (.object "weirstream/engine/WindowAxis"), accessFlags := 18, slot := 0, constantValue := 0 }, { name := "range", type := .long, accessFlags := 18, slot := 1, constantValue := 0 }, { name := "slide", type := .long, accessFlags := 18, slot := 2, constantValue := 0 }, { name := "panesPerWindow", type := .long, accessFlags := 18, slot := 3, constantValue := 0 }, { name := "highestEnding", type := .long, accessFlags := 18, slot := 4, constantValue := 0 }, { name := "lowestPane", type := .long, accessFlags := 18, slot := 5, constantValue := 0 }, { name := "highestPane", type := .long, accessFlags := 18, slot := 6, constantValue := 0 }, { name := "lowestValue", type := .long, accessFlags := 18, slot := 7, constantValue := 0 }, { name := "highestValue", type := .long, accessFlags := 18, slot := 8, constantValue := 0 }]
  methods := #[k3m0, k3m1, k3m2, k3m3]
  instanceTypes := #[(.object "weirstream/engine/WindowAxis"), .long, .long, .long, .long, .long, .long, .long, .long]
  staticTypes := #[]
  resolved := Array.replicate 103 none
  statics := none }

def pool4 : Array CpInfo := pool [(1, .class_ 2), (0, u "java/lang/constant/Constable"), (0, .class_ 4), (0, u "java/lang/Object")] 6

/-- java/lang/constant/Constable -/
def k4 : Class := { plain "java/lang/constant/Constable" (some 0) with
  accessFlags := 1537
  interfaces := #[]
  cf := some (fileOf pool4 1 #[] #[] 1537 3 #[] #[])
  fields := #[]
  methods := #[]
  instanceTypes := #[]
  staticTypes := #[]
  resolved := Array.replicate 11 none
  statics := none }

def pool5 : Array CpInfo := pool [(1, .class_ 2), (0, u "java/lang/Comparable"), (0, .class_ 4), (0, u "java/lang/Object")] 7

/-- java/lang/Comparable -/
def k5 : Class := { plain "java/lang/Comparable" (some 0) with
  accessFlags := 1537
  interfaces := #[]
  cf := some (fileOf pool5 1 #[] #[] 1537 3 #[] #[])
  fields := #[]
  methods := #[]
  instanceTypes := #[]
  staticTypes := #[]
  resolved := Array.replicate 12 none
  statics := none }

def pool6 : Array CpInfo := pool [(1, .class_ 2), (0, u "java/io/Serializable"), (0, .class_ 4), (0, u "java/lang/Object")] 2

/-- java/io/Serializable -/
def k6 : Class := { plain "java/io/Serializable" (some 0) with
  accessFlags := 1537
  interfaces := #[]
  cf := some (fileOf pool6 1 #[] #[] 1537 3 #[] #[])
  fields := #[]
  methods := #[]
  instanceTypes := #[]
  staticTypes := #[]
  resolved := Array.replicate 7 none
  statics := none }

def pool7 : Array CpInfo := pool [(2, .class_ 4), (1, u "java/lang/Enum"), (0, u "name"), (0, u "Ljava/lang/String;"), (2, u "ordinal"), (0, u "I"), (1, .class_ 14), (1, u "java/lang/Object"), (4, u "hash"), (86, .class_ 108), (1, u "java/lang/Enum$EnumDesc"), (2, .class_ 112), (0, u "java/lang/constant/Constable"), (0, .class_ 114), (0, u "java/lang/Comparable"), (0, .class_ 116), (0, u "java/io/Serializable")] 87

/-- java/lang/Enum -/
def k7 : Class := { plain "java/lang/Enum" (some 0) with
  accessFlags := 1057
  interfaces := #[4, 5, 6]
  cf := some (fileOf pool7 2 #[.nestMembers #[106]] #[] 1057 12 #[111, 113, 115] #[{ accessFlags := 18, nameIndex := 5, descriptorIndex := 6, attributes := #[] }, { accessFlags := 18, nameIndex := 9, descriptorIndex := 10, attributes := #[] }, { accessFlags := 2, nameIndex := 19, descriptorIndex := 10, attributes := #[] }])
  fields := #[{ name := "name", type := (.object "java/lang/String"), accessFlags := 18, slot := 0, constantValue := 0 }, { name := "ordinal", type := .int, accessFlags := 18, slot := 1, constantValue := 0 }, { name := "hash", type := .int, accessFlags := 2, slot := 2, constantValue := 0 }]
  methods := #[]
  instanceTypes := #[(.object "java/lang/String"), .int, .int]
  staticTypes := #[]
  resolved := Array.replicate 204 none
  statics := none }

def pool8 : Array CpInfo := pool [(1, .class_ 2), (0, u "weirstream/engine/WindowAxis"), (2, u "INTEGER"), (0, u "Lweirstream/engine/WindowAxis;"), (2, u "DATE_TIME"), (2, u "$VALUES"), (0, u "[Lweirstream/engine/WindowAxis;"), (6, .class_ 22), (1, u "java/lang/Enum"), (6, .fieldref 1 30), (0, .nameAndType 31 32), (0, u "lowest"), (0, u "J"), (0, .fieldref 1 34), (0, .nameAndType 35 32), (0, u "highest"), (0, .class_ 37), (0, u "weirstream/engine/WindowAxis$1"), (10, .class_ 49), (0, u "weirstream/engine/WindowAxis$2"), (32, u "DATE_TIME_FORM"), (0, u "Ljava/util/regex/Pattern;"), (7, u "()J")] 15

def k8c0 : Code := { maxStack := 2, maxLocals := 1, code := prog_148_method_4_code, exceptionTable := #[], attributes := #[] }
def k8m0 : Method := { name := "lowest", desc := "()J", sig := { parameters := [], returnType := some .long }, accessFlags := 0, code := some k8c0 }
def k8c1 : Code := { maxStack := 2, maxLocals := 1, code := prog_148_method_5_code, exceptionTable := #[], attributes := #[] }
def k8m1 : Method := { name := "highest", desc := "()J", sig := { parameters := [], returnType := some .long }, accessFlags := 0, code := some k8c1 }
/-- weirstream/engine/WindowAxis -/
def k8 : Class := { plain "weirstream/engine/WindowAxis" (some 7) with
  accessFlags := 17440
  interfaces := #[]
  cf := some (fileOf pool8 1 #[.nestMembers #[48, 36]] #[{ accessFlags := 0, nameIndex := 31, descriptorIndex := 91, attributes := #[] }, { accessFlags := 0, nameIndex := 35, descriptorIndex := 91, attributes := #[] }] 17440 20 #[] #[{ accessFlags := 16409, nameIndex := 5, descriptorIndex := 6, attributes := #[] }, { accessFlags := 16409, nameIndex := 9, descriptorIndex := 6, attributes := #[] }, { accessFlags := 26, nameIndex := 82, descriptorIndex := 83, attributes := #[] }, { accessFlags := 18, nameIndex := 31, descriptorIndex := 32, attributes := #[] }, { accessFlags := 18, nameIndex := 35, descriptorIndex := 32, attributes := #[] }, { accessFlags := 4122, nameIndex := 12, descriptorIndex := 13, attributes := #[] }])
  fields := #[{ name := "INTEGER", type := (.object "weirstream/engine/WindowAxis"), accessFlags := 16409, slot := 0, constantValue := 0 }, { name := "DATE_TIME", type := (.object "weirstream/engine/WindowAxis"), accessFlags := 16409, slot := 1, constantValue := 0 }, { name := "DATE_TIME_FORM", type := (.object "java/util/regex/Pattern"), accessFlags := 26, slot := 2, constantValue := 0 }, { name := "lowest", type := .long, accessFlags := 18, slot := 3, constantValue := 0 }, { name := "highest", type := .long, accessFlags := 18, slot := 4, constantValue := 0 }, { name := "$VALUES", type := (.array (.object "weirstream/engine/WindowAxis")), accessFlags := 4122, slot := 3, constantValue := 0 }]
  methods := #[k8m0, k8m1]
  instanceTypes := #[(.object "java/lang/String"), .int, .int, .long, .long]
  staticTypes := #[(.object "weirstream/engine/WindowAxis"), (.object "weirstream/engine/WindowAxis"), (.object "java/util/regex/Pattern"), (.array (.object "weirstream/engine/WindowAxis"))]
  resolved := Array.replicate 107 none
  statics := some 0 }

def pool9 : Array CpInfo := pool [(2, .class_ 4), (1, u "weirstream/engine/WindowAxis"), (33, .class_ 39), (0, u "weirstream/engine/WindowAxis$1")] 28

/-- weirstream/engine/WindowAxis$1 -/
def k9 : Class := { plain "weirstream/engine/WindowAxis$1" (some 8) with
  accessFlags := 16432
  interfaces := #[]
  cf := some (fileOf pool9 38 #[.nestHost 2] #[] 16432 2 #[] #[])
  fields := #[]
  methods := #[]
  instanceTypes := #[(.object "java/lang/String"), .int, .int, .long, .long]
  staticTypes := #[]
  resolved := Array.replicate 68 none
  statics := none }

def pool10 : Array CpInfo := pool [(1, .class_ 2), (0, u "java/lang/Math"), (1, .class_ 6), (1, u "java/lang/Object"), (0, u "<init>"), (0, u "()V"), (89, .class_ 100), (1, u "java/lang/Math$RandomNumberGeneratorHolder"), (20, u "(JJ)J"), (23, u "floorDiv"), (2, u "floorMod"), (23, u "negativeZeroFloatBits"), (0, u "J"), (2, u "negativeZeroDoubleBits"), (21, u "max"), (46, u "$assertionsDisabled"), (0, u "Z"), (91, u "twoToTheDoubleScaleDown"), (0, u "D"), (4, u "twoToTheDoubleScaleUp"), (9, u "E"), (3, u "PI"), (2, u "TAU"), (2, u "DEGREES_TO_RADIANS"), (0, u "RADIANS_TO_DEGREES")] 94

def k10m0 : Method := { name := "<init>", desc := "()V", sig := { parameters := [], returnType := none }, accessFlags := 2, code := none }
def k10c1 : Code := { maxStack := 4, maxLocals := 6, code := jdk_29_method_49_code, exceptionTable := #[], attributes := #[] }
def k10m1 : Method := { name := "floorDiv", desc := "(JJ)J", sig := { parameters := [.long, .long], returnType := some .long }, accessFlags := 9, code := some k10c1 }
def k10c2 : Code := { maxStack := 4, maxLocals := 6, code := jdk_29_method_52_code, exceptionTable := #[], attributes := #[] }
def k10m2 : Method := { name := "floorMod", desc := "(JJ)J", sig := { parameters := [.long, .long], returnType := some .long }, accessFlags := 9, code := some k10c2 }
def k10c3 : Code := { maxStack := 4, maxLocals := 4, code := jdk_29_method_66_code, exceptionTable := #[], attributes := #[] }
def k10m3 : Method := { name := "max", desc := "(JJ)J", sig := { parameters := [.long, .long], returnType := some .long }, accessFlags := 9, code := some k10c3 }
/-- java/lang/Math -/
def k10 : Class := { plain "java/lang/Math" (some 0) with
  accessFlags := 49
  interfaces := #[]
  cf := some (fileOf pool10 1 #[.nestMembers #[98]] #[{ accessFlags := 2, nameIndex := 7, descriptorIndex := 8, attributes := #[] }, { accessFlags := 9, nameIndex := 145, descriptorIndex := 121, attributes := #[] }, { accessFlags := 9, nameIndex := 148, descriptorIndex := 121, attributes := #[] }, { accessFlags := 9, nameIndex := 198, descriptorIndex := 121, attributes := #[] }] 49 4 #[] #[{ accessFlags := 25, nameIndex := 354, descriptorIndex := 339, attributes := #[] }, { accessFlags := 25, nameIndex := 358, descriptorIndex := 339, attributes := #[] }, { accessFlags := 25, nameIndex := 361, descriptorIndex := 339, attributes := #[] }, { accessFlags := 26, nameIndex := 364, descriptorIndex := 339, attributes := #[] }, { accessFlags := 26, nameIndex := 365, descriptorIndex := 339, attributes := #[] }, { accessFlags := 26, nameIndex := 172, descriptorIndex := 173, attributes := #[] }, { accessFlags := 26, nameIndex := 176, descriptorIndex := 173, attributes := #[] }, { accessFlags := 8, nameIndex := 344, descriptorIndex := 339, attributes := #[] }, { accessFlags := 8, nameIndex := 338, descriptorIndex := 339, attributes := #[] }, { accessFlags := 4120, nameIndex := 245, descriptorIndex := 246, attributes := #[] }])
  fields := #[{ name := "E", type := .double, accessFlags := 25, slot := 0, constantValue := 0 }, { name := "PI", type := .double, accessFlags := 25, slot := 1, constantValue := 0 }, { name := "TAU", type := .double, accessFlags := 25, slot := 2, constantValue := 0 }, { name := "DEGREES_TO_RADIANS", type := .double, accessFlags := 26, slot := 3, constantValue := 0 }, { name := "RADIANS_TO_DEGREES", type := .double, accessFlags := 26, slot := 4, constantValue := 0 }, { name := "negativeZeroFloatBits", type := .long, accessFlags := 26, slot := 5, constantValue := 0 }, { name := "negativeZeroDoubleBits", type := .long, accessFlags := 26, slot := 6, constantValue := 0 }, { name := "twoToTheDoubleScaleUp", type := .double, accessFlags := 8, slot := 7, constantValue := 0 }, { name := "twoToTheDoubleScaleDown", type := .double, accessFlags := 8, slot := 8, constantValue := 0 }, { name := "$assertionsDisabled", type := .boolean, accessFlags := 4120, slot := 9, constantValue := 0 }]
  methods := #[k10m0, k10m1, k10m2, k10m3]
  instanceTypes := #[]
  staticTypes := #[.double, .double, .double, .double, .double, .long, .long, .double, .double, .boolean]
  resolved := Array.replicate 460 none
  statics := none }

def pool11 : Array CpInfo := pool [(1, u "java/lang/Cloneable"), (0, .class_ 1), (0, u "java/lang/Object"), (0, .class_ 3)] 3

/-- java/lang/Cloneable -/
def k11 : Class := { plain "java/lang/Cloneable" (some 0) with
  accessFlags := 1537
  interfaces := #[]
  cf := some (fileOf pool11 2 #[] #[] 1537 4 #[] #[])
  fields := #[]
  methods := #[]
  instanceTypes := #[]
  staticTypes := #[]
  resolved := Array.replicate 8 none
  statics := none }

/-- the primitive byte -/
def k12 : Class := { plain "byte" none with kind := .primitive 'B', accessFlags := 0x411 }
/-- [B -/
def k13 : Class := { plain "[B" (some 0) with kind := .array 12 .byte, interfaces := #[11, 6], accessFlags := 1041 }

/-- the primitive int -/
def k14 : Class := { plain "int" none with kind := .primitive 'I', accessFlags := 0x411 }
/-- [I -/
def k15 : Class := { plain "[I" (some 0) with kind := .array 14 .int, interfaces := #[11, 6], accessFlags := 1041 }

def heap : Heap := #[{ cls := 8, slots := #[.ref 1, .null, .null, .null], vm := .statics 8 },
  { cls := 9, slots := #[.null, .int 0, .int 0, .long (-9223372036854775808), .long 9223372036854775807], vm := .none }]
def classes : Array Class := #[k0, k1, k2, k3, k4, k5, k6, k7, k8, k9, k10, k11, k12, k13, k14, k15]
def interned : List (Array UInt16 × Addr) := []
def slotsUsed : Nat := 9
def theMethod : MethodId := ⟨1, 1⟩
def args0 : Array Value := #[.long 5, .long 7, .long 9, .int 1]
def aboutOver (below : List Frame) : State where
  vm := { classes := classes, interned := interned.toArray }
  heap := heap
  slotsUsed := slotsUsed
  threads := #[{ frames := .invoking theMethod args0 :: below }]
def below0 : List Frame := [.native { method := ⟨0, 0⟩, args := #[] }]
def about1 : State := aboutOver below0
def p0 : Program := .bare "" "" ""
def e0 : Env := launch0.env 0 0 0
theorem w_frames : about1.frames = Frame.invoking theMethod args0 :: below0 := rfl
set_option maxRecDepth 65536 in
theorem w_args : argsFit about1.vm theMethod args0 = true := by decide +kernel
set_option maxRecDepth 65536 in
theorem w_heap : heapFits about1 = true := by decide +kernel
set_option maxRecDepth 65536 in
theorem w_runnable : about1.curStatus? = some .runnable := by decide +kernel
set_option maxRecDepth 65536 in
theorem w_alone : about1.alone = true := by decide +kernel
set_option maxRecDepth 65536 in
theorem w_named : about1.methodNamed? x = some theMethod := by decide +kernel
set_option maxRecDepth 65536 in
theorem w_hears : about1.hears theMethod below0 = true := by decide +kernel
set_option maxRecDepth 65536 in
theorem w_ripe : about1.ripe theMethod args0 below0 = true := by decide +kernel
theorem w_running : about1.status = .running := rfl
set_option maxRecDepth 65536 in
theorem w_room : about1.hasRoom e0.platform room_1 = true :=
  launch0.hasRoom_least _ room_1 (by decide +kernel) (by decide +kernel) (by decide +kernel) (by decide +kernel) (by decide +kernel) (by decide +kernel)
theorem allAtoms_all (ts : List Jvm.Cond) (a : Array Jvm.Value) (st : Jvm.State) : (allAtoms ts).before a st = ts.all (fun c => c.before a st) := by
  induction ts with
  | nil => rfl
  | cons c t ih =>
    show (Jvm.Cond.and c (allAtoms t)).before a st = _
    rw [Jvm.Cond.before_and, ih, List.all_cons]
def words1 : List Jvm.Cond := Jvm.Cond.code x code maxLocals ret :: tables_1
/-- a 'code' word, met by the world's own term for the bytes: nothing is compared byte by byte -/
theorem code_word {y : MethodName} {bytes : ByteArray} {mx : Nat} {rt : Option FieldType} {a : Array Value} {s : State} {m : MethodId} {meth : Method} {c : Code} (h1 : s.methodNamed? y = some m) (h2 : s.vm.method? m = some meth) (h3 : meth.code = some c) (h4 : c.code = bytes)
    (h5 : (c.maxLocals == mx && c.exceptionTable.isEmpty && decide (c.maxStack ≤ mostOperands) && decide (meth.sig.returnType = rt) && !meth.locks && decide (parseMethodDescriptor y.desc = some meth.sig)) = true) : (Jvm.Cond.code y bytes mx rt).before a s = true := by
  simp only [Bool.and_eq_true, beq_iff_eq, Bool.not_eq_true', decide_eq_true_eq] at h5
  obtain ⟨⟨⟨⟨⟨g1, g2⟩, g3⟩, g4⟩, g5⟩, g6⟩ := h5
  simp [Cond.before, Cond.holds, Cond.value, h1, h2, h3, h4, g1, g2, g3, g4, g5, g6]
def isCode : Jvm.Cond → Bool
  | .code _ _ _ _ => true
  | _ => false
theorem all_split {L : List Jvm.Cond} {P : Jvm.Cond → Bool} (h1 : L.all (fun c => isCode c || P c) = true) (h2 : ∀ c ∈ L.filter isCode, P c = true) : L.all P = true := by
  refine List.all_eq_true.mpr fun c hc => ?_
  have h := List.all_eq_true.mp h1 c hc
  rcases Bool.eq_false_or_eq_true (isCode c) with hi | hi
  · exact h2 c (List.mem_filter.mpr ⟨hc, hi⟩)
  · simpa [hi] using h
set_option maxRecDepth 65536 in
theorem w_c0 : (Jvm.Cond.code x code maxLocals ret).before args0 about1 = true := code_word (m := ⟨1, 1⟩) (meth := k1m1) (c := k1c1) (by decide +kernel) rfl rfl rfl (by decide +kernel)
set_option maxRecDepth 65536 in
theorem w_c1 : (Jvm.Cond.code ({ cls := "weirstream/engine/WindowGeometry", name := "<init>", desc := "(Lweirstream/engine/WindowAxis;JJ)V" } : Jvm.MethodName) prog_151_method_1_code (10 : Nat) (Option.none : Option Jvm.ClassFile.FieldType)).before args0 about1 = true := code_word (m := ⟨3, 0⟩) (meth := k3m0) (c := k3c0) (by decide +kernel) rfl rfl rfl (by decide +kernel)
set_option maxRecDepth 65536 in
theorem w_c2 : (Jvm.Cond.code ({ cls := "java/lang/Object", name := "<init>", desc := "()V" } : Jvm.MethodName) object_method_1_code (1 : Nat) (Option.none : Option Jvm.ClassFile.FieldType)).before args0 about1 = true := code_word (m := ⟨0, 0⟩) (meth := k0m0) (c := k0c0) (by decide +kernel) rfl rfl rfl (by decide +kernel)
set_option maxRecDepth 65536 in
theorem w_c3 : (Jvm.Cond.code ({ cls := "weirstream/engine/WindowAxis", name := "lowest", desc := "()J" } : Jvm.MethodName) prog_148_method_4_code (1 : Nat) (Option.some Jvm.ClassFile.FieldType.long)).before args0 about1 = true := code_word (m := ⟨8, 0⟩) (meth := k8m0) (c := k8c0) (by decide +kernel) rfl rfl rfl (by decide +kernel)
set_option maxRecDepth 65536 in
theorem w_c4 : (Jvm.Cond.code ({ cls := "weirstream/engine/WindowGeometry", name := "pane", desc := "(J)J" } : Jvm.MethodName) prog_151_method_4_code (3 : Nat) (Option.some Jvm.ClassFile.FieldType.long)).before args0 about1 = true := code_word (m := ⟨3, 1⟩) (meth := k3m1) (c := k3c1) (by decide +kernel) rfl rfl rfl (by decide +kernel)
set_option maxRecDepth 65536 in
theorem w_c5 : (Jvm.Cond.code ({ cls := "java/lang/Math", name := "floorDiv", desc := "(JJ)J" } : Jvm.MethodName) jdk_29_method_49_code (6 : Nat) (Option.some Jvm.ClassFile.FieldType.long)).before args0 about1 = true := code_word (m := ⟨10, 1⟩) (meth := k10m1) (c := k10c1) (by decide +kernel) rfl rfl rfl (by decide +kernel)
set_option maxRecDepth 65536 in
theorem w_c6 : (Jvm.Cond.code ({ cls := "java/lang/Math", name := "floorMod", desc := "(JJ)J" } : Jvm.MethodName) jdk_29_method_52_code (6 : Nat) (Option.some Jvm.ClassFile.FieldType.long)).before args0 about1 = true := code_word (m := ⟨10, 2⟩) (meth := k10m2) (c := k10c2) (by decide +kernel) rfl rfl rfl (by decide +kernel)
set_option maxRecDepth 65536 in
theorem w_c7 : (Jvm.Cond.code ({ cls := "weirstream/engine/WindowGeometry", name := "lastPane", desc := "(J)J" } : Jvm.MethodName) prog_151_method_10_code (3 : Nat) (Option.some Jvm.ClassFile.FieldType.long)).before args0 about1 = true := code_word (m := ⟨3, 2⟩) (meth := k3m2) (c := k3c2) (by decide +kernel) rfl rfl rfl (by decide +kernel)
set_option maxRecDepth 65536 in
theorem w_c8 : (Jvm.Cond.code ({ cls := "java/lang/Math", name := "max", desc := "(JJ)J" } : Jvm.MethodName) jdk_29_method_66_code (4 : Nat) (Option.some Jvm.ClassFile.FieldType.long)).before args0 about1 = true := code_word (m := ⟨10, 3⟩) (meth := k10m3) (c := k10c3) (by decide +kernel) rfl rfl rfl (by decide +kernel)
set_option maxRecDepth 65536 in
theorem w_c9 : (Jvm.Cond.code ({ cls := "weirstream/engine/WindowAxis", name := "highest", desc := "()J" } : Jvm.MethodName) prog_148_method_5_code (1 : Nat) (Option.some Jvm.ClassFile.FieldType.long)).before args0 about1 = true := code_word (m := ⟨8, 1⟩) (meth := k8m1) (c := k8c1) (by decide +kernel) rfl rfl rfl (by decide +kernel)
set_option maxRecDepth 65536 in
theorem w_c10 : (Jvm.Cond.code ({ cls := "weirstream/engine/WindowGeometry", name := "lastWindowEndingBy", desc := "(J)J" } : Jvm.MethodName) prog_151_method_11_code (3 : Nat) (Option.some Jvm.ClassFile.FieldType.long)).before args0 about1 = true := code_word (m := ⟨3, 3⟩) (meth := k3m3) (c := k3c3) (by decide +kernel) rfl rfl rfl (by decide +kernel)
def codes1 : List Jvm.Cond := [Jvm.Cond.code x code maxLocals ret, Jvm.Cond.code ({ cls := "weirstream/engine/WindowGeometry", name := "<init>", desc := "(Lweirstream/engine/WindowAxis;JJ)V" } : Jvm.MethodName) prog_151_method_1_code (10 : Nat) (Option.none : Option Jvm.ClassFile.FieldType), Jvm.Cond.code ({ cls := "java/lang/Object", name := "<init>", desc := "()V" } : Jvm.MethodName) object_method_1_code (1 : Nat) (Option.none : Option Jvm.ClassFile.FieldType), Jvm.Cond.code ({ cls := "weirstream/engine/WindowAxis", name := "lowest", desc := "()J" } : Jvm.MethodName) prog_148_method_4_code (1 : Nat) (Option.some Jvm.ClassFile.FieldType.long), Jvm.Cond.code ({ cls := "weirstream/engine/WindowGeometry", name := "pane", desc := "(J)J" } : Jvm.MethodName) prog_151_method_4_code (3 : Nat) (Option.some Jvm.ClassFile.FieldType.long), Jvm.Cond.code ({ cls := "java/lang/Math", name := "floorDiv", desc := "(JJ)J" } : Jvm.MethodName) jdk_29_method_49_code (6 : Nat) (Option.some Jvm.ClassFile.FieldType.long), Jvm.Cond.code ({ cls := "java/lang/Math", name := "floorMod", desc := "(JJ)J" } : Jvm.MethodName) jdk_29_method_52_code (6 : Nat) (Option.some Jvm.ClassFile.FieldType.long), Jvm.Cond.code ({ cls := "weirstream/engine/WindowGeometry", name := "lastPane", desc := "(J)J" } : Jvm.MethodName) prog_151_method_10_code (3 : Nat) (Option.some Jvm.ClassFile.FieldType.long), Jvm.Cond.code ({ cls := "java/lang/Math", name := "max", desc := "(JJ)J" } : Jvm.MethodName) jdk_29_method_66_code (4 : Nat) (Option.some Jvm.ClassFile.FieldType.long), Jvm.Cond.code ({ cls := "weirstream/engine/WindowAxis", name := "highest", desc := "()J" } : Jvm.MethodName) prog_148_method_5_code (1 : Nat) (Option.some Jvm.ClassFile.FieldType.long), Jvm.Cond.code ({ cls := "weirstream/engine/WindowGeometry", name := "lastWindowEndingBy", desc := "(J)J" } : Jvm.MethodName) prog_151_method_11_code (3 : Nat) (Option.some Jvm.ClassFile.FieldType.long)]
set_option maxRecDepth 65536 in
theorem codes_eq : words1.filter isCode = codes1 := rfl
theorem w_codes : ∀ c ∈ words1.filter isCode, c.before args0 about1 = true := by
  rw [codes_eq]
  intro c hc
  simp only [codes1, List.mem_cons, List.not_mem_nil, or_false] at hc
  rcases hc with rfl | rfl | rfl | rfl | rfl | rfl | rfl | rfl | rfl | rfl | rfl
  · exact w_c0
  · exact w_c1
  · exact w_c2
  · exact w_c3
  · exact w_c4
  · exact w_c5
  · exact w_c6
  · exact w_c7
  · exact w_c8
  · exact w_c9
  · exact w_c10
set_option maxRecDepth 65536 in
theorem w_t1 : (words1.take 24).all (fun c => isCode c || c.before args0 about1) = true := by decide +kernel
set_option maxRecDepth 65536 in
theorem w_t2 : ((words1.drop 24).take 24).all (fun c => isCode c || c.before args0 about1) = true := by decide +kernel
set_option maxRecDepth 65536 in
theorem w_t3 : (((words1.drop 24).drop 24).take 24).all (fun c => isCode c || c.before args0 about1) = true := by decide +kernel
set_option maxRecDepth 65536 in
theorem w_t4 : (((words1.drop 24).drop 24).drop 24).all (fun c => isCode c || c.before args0 about1) = true := by decide +kernel
theorem w_tables : (allAtoms (Jvm.Cond.code x code maxLocals ret :: tables_1)).before args0 about1 = true := by
  rw [allAtoms_all]
  show words1.all (fun c => c.before args0 about1) = true
  refine all_split ?_ w_codes
  rw [← List.take_append_drop 24 words1, List.all_append, w_t1, ← List.take_append_drop 24 (words1.drop 24), List.all_append, w_t2, ← List.take_append_drop 24 ((words1.drop 24).drop 24), List.all_append, w_t3, w_t4]
  rfl
set_option maxRecDepth 65536 in
theorem w_case : (Jvm.Cond.and given_1 narrow_1).before args0 about1 = true := by decide +kernel
theorem w_applies : (headSpec (Jvm.Cond.code x code maxLocals ret :: tables_1) room_1).applies x e0.platform about1 = true :=
  (Spec.applies_iff w_frames).mpr ⟨w_running, w_runnable, w_alone, w_named, w_hears, w_ripe, w_room, w_tables⟩
theorem atStart : AtStart classFile x code maxLocals ret World_1 tables_1 room_1 Calls_1 rest_1 Pre_1 launch0 p0 e0 about1 theMethod args0 below0 :=
  ⟨lists_1, trivial, launch0.admits_env _ _ _, launch0.least_env, fairChoices_fair.cas, fairChoices_fair.clock, w_frames, w_args, w_heap, w_applies, trivial, trivial, w_case⟩
end start1
theorem witness_1 : WitnessClaimed_1 := ⟨start1.p0, start1.e0, start1.about1, start1.theMethod, start1.args0, start1.below0, start1.atStart⟩
end Jvm.Pilot.@@N@@
